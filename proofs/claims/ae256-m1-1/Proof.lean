import JvmDerived
import JvmDerived.Pilot.@@N@@Statement
import JvmDerived.Pilot.@@N@@Code
set_option linter.unusedVariables false
set_option linter.unusedSimpArgs false
namespace Jvm.Pilot.@@N@@
open Jvm Jvm.ClassFile Sem Op Lib Jvm.Free Jvm.Free.Fl Jvm.Stand Jvm.LawKit Jvm.RoadKit Bundle Jvm.Pilot.@@N@@.Jvm.D
section own_go
/-- where the walk stands, with the two facts that every step asks -/
def Ax (p : Program) (l : Launch) (e : Env) (R : Room) (s : State) (m : MethodId) (args : Array Value) (below : List Frame) (meth : Method) (c : Code) (T : State) (locs : List Loc) (cells slots : Nat) (B : ByteArray) : Prop := Stand p l e R s m args below meth c T locs cells slots ∧ p.tables.exec = Jvm.exec ∧ c.code = B
/-- from this frame the run ends, and P holds of its end -/
def Go (p : Program) (e : Env) (below : List Frame) (P : State → Outcome → Prop) (T : State) (g : JFrame) : Prop := ∃ U o, Steps p.tables e below (T.setTop g) U ∧ U.status = .running ∧ Ended U below o ∧ P U o
variable {p : Program} {l : Launch} {e : Env} {R : Room} {s : State} {m : MethodId} {args : Array Value} {below : List Frame} {meth : Method} {c : Code} {T : State} {locs : List Loc} {cells slots : Nat} {P : State → Outcome → Prop} {B : ByteArray} {pc pc' : Nat} {ls ls' : Array Slot} {st : List Value}
theorem Go.of {T' : State} {g g' : JFrame} (k : ∀ t, Steps p.tables e below (T'.setTop g') t → Steps p.tables e below (T.setTop g) t) (h : Go p e below P T' g') : Go p e below P T g := by
  obtain ⟨U, o, h1, h2⟩ := h
  exact ⟨U, o, k _ h1, h2⟩
theorem Go.tr {T' : State} {g g' : JFrame} (k : Steps p.tables e below (T.setTop g) (T'.setTop g')) (h : Go p e below P T' g') : Go p e below P T g := Go.of (fun _ h => k.trans h) h
theorem Go.cast {g g' : JFrame} (q : g = g') (h : Go p e below P T g') : Go p e below P T g := q ▸ h

theorem g_iadd (A : Ax p l e R s m args below meth c T locs cells slots B) {x : Int32} {y : Int32} (hd : decode B pc = .ok (.iadd, 1)) (hp : pc + 1 = pc') (k : Go p e below P T (mkF m pc' ls (.int (x + y) :: st))) : Go p e below P T (mkF m pc ls (.int y :: .int x :: st)) := by
  subst hp; exact Go.of (fun _ k' => XS.iadd A.1.here A.2.1 rfl (hb A.2.2 hd) rfl k') k
theorem g_isub (A : Ax p l e R s m args below meth c T locs cells slots B) {x : Int32} {y : Int32} (hd : decode B pc = .ok (.isub, 1)) (hp : pc + 1 = pc') (k : Go p e below P T (mkF m pc' ls (.int (x - y) :: st))) : Go p e below P T (mkF m pc ls (.int y :: .int x :: st)) := by
  subst hp; exact Go.of (fun _ k' => XS.isub A.1.here A.2.1 rfl (hb A.2.2 hd) rfl k') k
theorem g_iand (A : Ax p l e R s m args below meth c T locs cells slots B) {x : Int32} {y : Int32} (hd : decode B pc = .ok (.iand, 1)) (hp : pc + 1 = pc') (k : Go p e below P T (mkF m pc' ls (.int (x &&& y) :: st))) : Go p e below P T (mkF m pc ls (.int y :: .int x :: st)) := by
  subst hp; exact Go.of (fun _ k' => XS.iand A.1.here A.2.1 rfl (hb A.2.2 hd) rfl k') k
theorem g_imul (A : Ax p l e R s m args below meth c T locs cells slots B) {x : Int32} {y : Int32} (hd : decode B pc = .ok (.imul, 1)) (hp : pc + 1 = pc') (k : Go p e below P T (mkF m pc' ls (.int (x * y) :: st))) : Go p e below P T (mkF m pc ls (.int y :: .int x :: st)) := by
  subst hp; exact Go.of (fun _ k' => XS.imul A.1.here A.2.1 rfl (hb A.2.2 hd) rfl k') k
theorem g_iaddL (A : Ax p l e R s m args below meth c T locs cells slots B) {x y z : Int32} (hd : decode B pc = .ok (.iadd, 1)) (hz : x + y = z) (hp : pc + 1 = pc') (k : Go p e below P T (mkF m pc' ls (.int z :: st))) : Go p e below P T (mkF m pc ls (.int y :: .int x :: st)) := g_iadd A hd hp (hz.symm ▸ k)
theorem g_isubL (A : Ax p l e R s m args below meth c T locs cells slots B) {x y z : Int32} (hd : decode B pc = .ok (.isub, 1)) (hz : x - y = z) (hp : pc + 1 = pc') (k : Go p e below P T (mkF m pc' ls (.int z :: st))) : Go p e below P T (mkF m pc ls (.int y :: .int x :: st)) := g_isub A hd hp (hz.symm ▸ k)
theorem g_imulL (A : Ax p l e R s m args below meth c T locs cells slots B) {x y z : Int32} (hd : decode B pc = .ok (.imul, 1)) (hz : x * y = z) (hp : pc + 1 = pc') (k : Go p e below P T (mkF m pc' ls (.int z :: st))) : Go p e below P T (mkF m pc ls (.int y :: .int x :: st)) := g_imul A hd hp (hz.symm ▸ k)
theorem g_iandL (A : Ax p l e R s m args below meth c T locs cells slots B) {x y z : Int32} (hd : decode B pc = .ok (.iand, 1)) (hz : x &&& y = z) (hp : pc + 1 = pc') (k : Go p e below P T (mkF m pc' ls (.int z :: st))) : Go p e below P T (mkF m pc ls (.int y :: .int x :: st)) := g_iand A hd hp (hz.symm ▸ k)
theorem g_ixor (A : Ax p l e R s m args below meth c T locs cells slots B) {x : Int32} {y : Int32} (hd : decode B pc = .ok (.ixor, 1)) (hp : pc + 1 = pc') (k : Go p e below P T (mkF m pc' ls (.int (x ^^^ y) :: st))) : Go p e below P T (mkF m pc ls (.int y :: .int x :: st)) := by
  subst hp; exact Go.of (fun _ k' => XT.ixor A.1.here A.2.1 rfl (hb A.2.2 hd) rfl k') k
theorem g_ior (A : Ax p l e R s m args below meth c T locs cells slots B) {x : Int32} {y : Int32} (hd : decode B pc = .ok (.ior, 1)) (hp : pc + 1 = pc') (k : Go p e below P T (mkF m pc' ls (.int (x ||| y) :: st))) : Go p e below P T (mkF m pc ls (.int y :: .int x :: st)) := by
  subst hp; exact Go.of (fun _ k' => XT.ior A.1.here A.2.1 rfl (hb A.2.2 hd) rfl k') k
theorem g_ishl (A : Ax p l e R s m args below meth c T locs cells slots B) {x : Int32} {y : Int32} (hd : decode B pc = .ok (.ishl, 1)) (hp : pc + 1 = pc') (k : Go p e below P T (mkF m pc' ls (.int (x <<< (y &&& 31)) :: st))) : Go p e below P T (mkF m pc ls (.int y :: .int x :: st)) := by
  subst hp; exact Go.of (fun _ k' => XT.ishl A.1.here A.2.1 rfl (hb A.2.2 hd) rfl k') k
theorem g_ishr (A : Ax p l e R s m args below meth c T locs cells slots B) {x : Int32} {y : Int32} (hd : decode B pc = .ok (.ishr, 1)) (hp : pc + 1 = pc') (k : Go p e below P T (mkF m pc' ls (.int (x >>> (y &&& 31)) :: st))) : Go p e below P T (mkF m pc ls (.int y :: .int x :: st)) := by
  subst hp; exact Go.of (fun _ k' => XT.ishr A.1.here A.2.1 rfl (hb A.2.2 hd) rfl k') k
theorem g_iushr (A : Ax p l e R s m args below meth c T locs cells slots B) {x : Int32} {y : Int32} (hd : decode B pc = .ok (.iushr, 1)) (hp : pc + 1 = pc') (k : Go p e below P T (mkF m pc' ls (.int (XT.ushr x y) :: st))) : Go p e below P T (mkF m pc ls (.int y :: .int x :: st)) := by
  subst hp; exact Go.of (fun _ k' => XT.iushr A.1.here A.2.1 rfl (hb A.2.2 hd) rfl k') k
theorem g_idiv (A : Ax p l e R s m args below meth c T locs cells slots B) {x : Int32} {y : Int32} (hd : decode B pc = .ok (.idiv, 1)) (hy : y ≠ 0) (hp : pc + 1 = pc') (k : Go p e below P T (mkF m pc' ls (.int (x / y) :: st))) : Go p e below P T (mkF m pc ls (.int y :: .int x :: st)) := by
  subst hp; exact Go.of (fun _ k' => XS.idiv A.1.here A.2.1 rfl (hb A.2.2 hd) rfl hy k') k
theorem g_ladd (A : Ax p l e R s m args below meth c T locs cells slots B) {x : Int64} {y : Int64} (hd : decode B pc = .ok (.ladd, 1)) (hp : pc + 1 = pc') (k : Go p e below P T (mkF m pc' ls (.long (x + y) :: st))) : Go p e below P T (mkF m pc ls (.long y :: .long x :: st)) := by
  subst hp; exact Go.of (fun _ k' => XT.ladd A.1.here A.2.1 rfl (hb A.2.2 hd) rfl k') k
theorem g_lsub (A : Ax p l e R s m args below meth c T locs cells slots B) {x : Int64} {y : Int64} (hd : decode B pc = .ok (.lsub, 1)) (hp : pc + 1 = pc') (k : Go p e below P T (mkF m pc' ls (.long (x - y) :: st))) : Go p e below P T (mkF m pc ls (.long y :: .long x :: st)) := by
  subst hp; exact Go.of (fun _ k' => XT.lsub A.1.here A.2.1 rfl (hb A.2.2 hd) rfl k') k
theorem g_lmul (A : Ax p l e R s m args below meth c T locs cells slots B) {x : Int64} {y : Int64} (hd : decode B pc = .ok (.lmul, 1)) (hp : pc + 1 = pc') (k : Go p e below P T (mkF m pc' ls (.long (x * y) :: st))) : Go p e below P T (mkF m pc ls (.long y :: .long x :: st)) := by
  subst hp; exact Go.of (fun _ k' => XT.lmul A.1.here A.2.1 rfl (hb A.2.2 hd) rfl k') k
theorem g_land (A : Ax p l e R s m args below meth c T locs cells slots B) {x : Int64} {y : Int64} (hd : decode B pc = .ok (.land, 1)) (hp : pc + 1 = pc') (k : Go p e below P T (mkF m pc' ls (.long (x &&& y) :: st))) : Go p e below P T (mkF m pc ls (.long y :: .long x :: st)) := by
  subst hp; exact Go.of (fun _ k' => XT.land A.1.here A.2.1 rfl (hb A.2.2 hd) rfl k') k
theorem g_lor (A : Ax p l e R s m args below meth c T locs cells slots B) {x : Int64} {y : Int64} (hd : decode B pc = .ok (.lor, 1)) (hp : pc + 1 = pc') (k : Go p e below P T (mkF m pc' ls (.long (x ||| y) :: st))) : Go p e below P T (mkF m pc ls (.long y :: .long x :: st)) := by
  subst hp; exact Go.of (fun _ k' => XT.lor A.1.here A.2.1 rfl (hb A.2.2 hd) rfl k') k
theorem g_lxor (A : Ax p l e R s m args below meth c T locs cells slots B) {x : Int64} {y : Int64} (hd : decode B pc = .ok (.lxor, 1)) (hp : pc + 1 = pc') (k : Go p e below P T (mkF m pc' ls (.long (x ^^^ y) :: st))) : Go p e below P T (mkF m pc ls (.long y :: .long x :: st)) := by
  subst hp; exact Go.of (fun _ k' => XT.lxor A.1.here A.2.1 rfl (hb A.2.2 hd) rfl k') k
theorem g_lshl (A : Ax p l e R s m args below meth c T locs cells slots B) {x : Int64} {y : Int32} (hd : decode B pc = .ok (.lshl, 1)) (hp : pc + 1 = pc') (k : Go p e below P T (mkF m pc' ls (.long (x <<< (y.toInt64 &&& 63)) :: st))) : Go p e below P T (mkF m pc ls (.int y :: .long x :: st)) := by
  subst hp; exact Go.of (fun _ k' => XT.lshl A.1.here A.2.1 rfl (hb A.2.2 hd) rfl k') k
theorem g_lshr (A : Ax p l e R s m args below meth c T locs cells slots B) {x : Int64} {y : Int32} (hd : decode B pc = .ok (.lshr, 1)) (hp : pc + 1 = pc') (k : Go p e below P T (mkF m pc' ls (.long (x >>> (y.toInt64 &&& 63)) :: st))) : Go p e below P T (mkF m pc ls (.int y :: .long x :: st)) := by
  subst hp; exact Go.of (fun _ k' => XT.lshr A.1.here A.2.1 rfl (hb A.2.2 hd) rfl k') k
theorem g_lushr (A : Ax p l e R s m args below meth c T locs cells slots B) {x : Int64} {y : Int32} (hd : decode B pc = .ok (.lushr, 1)) (hp : pc + 1 = pc') (k : Go p e below P T (mkF m pc' ls (.long (XT.ushrL x y) :: st))) : Go p e below P T (mkF m pc ls (.int y :: .long x :: st)) := by
  subst hp; exact Go.of (fun _ k' => XT.lushr A.1.here A.2.1 rfl (hb A.2.2 hd) rfl k') k
theorem g_ldiv (A : Ax p l e R s m args below meth c T locs cells slots B) {x : Int64} {y : Int64} (hd : decode B pc = .ok (.ldiv, 1)) (hy : y ≠ 0) (hp : pc + 1 = pc') (k : Go p e below P T (mkF m pc' ls (.long (x / y) :: st))) : Go p e below P T (mkF m pc ls (.long y :: .long x :: st)) := by
  subst hp; exact Go.of (fun _ k' => XT.ldiv A.1.here A.2.1 rfl (hb A.2.2 hd) rfl hy k') k
theorem g_lrem (A : Ax p l e R s m args below meth c T locs cells slots B) {x y : Int64} (hd : decode B pc = .ok (.lrem, 1)) (hy : y ≠ 0) (hp : pc + 1 = pc') (k : Go p e below P T (mkF m pc' ls (.long (x % y) :: st))) : Go p e below P T (mkF m pc ls (.long y :: .long x :: st)) := by
  subst hp; rw [← lrem_mod] at k; exact Go.of (fun _ k' => XT.lrem A.1.here A.2.1 rfl (hb A.2.2 hd) rfl hy k') k
theorem g_i2s (A : Ax p l e R s m args below meth c T locs cells slots B) {x : Int32} (hd : decode B pc = .ok (.i2s, 1)) (hp : pc + 1 = pc') (k : Go p e below P T (mkF m pc' ls (.int (x.toInt16.toInt32) :: st))) : Go p e below P T (mkF m pc ls (.int x :: st)) := by
  subst hp; exact Go.of (fun _ k' => XT.i2s A.1.here A.2.1 rfl (hb A.2.2 hd) rfl k') k
theorem g_i2b (A : Ax p l e R s m args below meth c T locs cells slots B) {x : Int32} (hd : decode B pc = .ok (.i2b, 1)) (hp : pc + 1 = pc') (k : Go p e below P T (mkF m pc' ls (.int (x.toInt8.toInt32) :: st))) : Go p e below P T (mkF m pc ls (.int x :: st)) := by
  subst hp; exact Go.of (fun _ k' => XT.i2b A.1.here A.2.1 rfl (hb A.2.2 hd) rfl k') k
theorem g_i2c (A : Ax p l e R s m args below meth c T locs cells slots B) {x : Int32} (hd : decode B pc = .ok (.i2c, 1)) (hp : pc + 1 = pc') (k : Go p e below P T (mkF m pc' ls (.int (x.toUInt32.toUInt16.toUInt32.toInt32) :: st))) : Go p e below P T (mkF m pc ls (.int x :: st)) := by
  subst hp; exact Go.of (fun _ k' => XT.i2c A.1.here A.2.1 rfl (hb A.2.2 hd) rfl k') k
theorem g_ineg (A : Ax p l e R s m args below meth c T locs cells slots B) {x : Int32} (hd : decode B pc = .ok (.ineg, 1)) (hp : pc + 1 = pc') (k : Go p e below P T (mkF m pc' ls (.int (-x) :: st))) : Go p e below P T (mkF m pc ls (.int x :: st)) := by
  subst hp; exact Go.of (fun _ k' => XS.ineg A.1.here A.2.1 rfl (hb A.2.2 hd) rfl k') k
theorem g_lneg (A : Ax p l e R s m args below meth c T locs cells slots B) {x : Int64} (hd : decode B pc = .ok (.lneg, 1)) (hp : pc + 1 = pc') (k : Go p e below P T (mkF m pc' ls (.long (-x) :: st))) : Go p e below P T (mkF m pc ls (.long x :: st)) := by
  subst hp; exact Go.of (fun _ k' => XT.lneg A.1.here A.2.1 rfl (hb A.2.2 hd) rfl k') k
theorem g_i2l (A : Ax p l e R s m args below meth c T locs cells slots B) {x : Int32} (hd : decode B pc = .ok (.i2l, 1)) (hp : pc + 1 = pc') (k : Go p e below P T (mkF m pc' ls (.long (x.toInt64) :: st))) : Go p e below P T (mkF m pc ls (.int x :: st)) := by
  subst hp; exact Go.of (fun _ k' => XT.i2l A.1.here A.2.1 rfl (hb A.2.2 hd) rfl k') k
theorem g_l2i (A : Ax p l e R s m args below meth c T locs cells slots B) {x : Int64} (hd : decode B pc = .ok (.l2i, 1)) (hp : pc + 1 = pc') (k : Go p e below P T (mkF m pc' ls (.int (x.toInt32) :: st))) : Go p e below P T (mkF m pc ls (.long x :: st)) := by
  subst hp; exact Go.of (fun _ k' => XT.l2i A.1.here A.2.1 rfl (hb A.2.2 hd) rfl k') k
theorem g_irem (A : Ax p l e R s m args below meth c T locs cells slots B) {x y : Int32} (hd : decode B pc = .ok (.irem, 1)) (hy : y ≠ 0) (hp : pc + 1 = pc') (k : Go p e below P T (mkF m pc' ls (.int (x % y) :: st))) : Go p e below P T (mkF m pc ls (.int y :: .int x :: st)) := by
  subst hp; exact Go.of (fun _ k' => iremM A.1 A.2.1 rfl (hb A.2.2 hd) rfl hy k') k
theorem g_iloadN (A : Ax p l e R s m args below meth c T locs cells slots B) {k : Fin 4} {v : Int32} (hd : decode B pc = .ok (.iload_n k, 1)) (hl : ls[k.val]? = some (.val (.int v))) (hp : pc + 1 = pc') (k : Go p e below P T (mkF m pc' ls (.int v :: st))) : Go p e below P T (mkF m pc ls st) := by
  subst hp; exact Go.of (fun _ k' => XS.iloadN A.1.here A.2.1 rfl (hb A.2.2 hd) hl k') k
theorem g_iload (A : Ax p l e R s m args below meth c T locs cells slots B) {k : Nat} {v : Int32} (hd : decode B pc = .ok (.iload k, 2)) (hl : ls[k]? = some (.val (.int v))) (hp : pc + 2 = pc') (k : Go p e below P T (mkF m pc' ls (.int v :: st))) : Go p e below P T (mkF m pc ls st) := by
  subst hp; exact Go.of (fun _ k' => XS.iload A.1.here A.2.1 rfl (hb A.2.2 hd) hl k') k
theorem g_lloadN (A : Ax p l e R s m args below meth c T locs cells slots B) {k : Fin 4} {v : Int64} (hd : decode B pc = .ok (.lload_n k, 1)) (hl : ls[k.val]? = some (.val (.long v))) (hp : pc + 1 = pc') (k : Go p e below P T (mkF m pc' ls (.long v :: st))) : Go p e below P T (mkF m pc ls st) := by
  subst hp; exact Go.of (fun _ k' => XT.lloadN A.1.here A.2.1 rfl (hb A.2.2 hd) hl k') k
theorem g_lload (A : Ax p l e R s m args below meth c T locs cells slots B) {k : Nat} {v : Int64} (hd : decode B pc = .ok (.lload k, 2)) (hl : ls[k]? = some (.val (.long v))) (hp : pc + 2 = pc') (k : Go p e below P T (mkF m pc' ls (.long v :: st))) : Go p e below P T (mkF m pc ls st) := by
  subst hp; exact Go.of (fun _ k' => XT.lload A.1.here A.2.1 rfl (hb A.2.2 hd) hl k') k
theorem g_aloadN (A : Ax p l e R s m args below meth c T locs cells slots B) {k : Fin 4} {v : Value} (hd : decode B pc = .ok (.aload_n k, 1)) (hl : ls[k.val]? = some (.val v)) (hv : v.isRef = true) (hp : pc + 1 = pc') (k : Go p e below P T (mkF m pc' ls (v :: st))) : Go p e below P T (mkF m pc ls st) := by
  subst hp; exact Go.of (fun _ k' => XS.aloadN A.1.here A.2.1 rfl (hb A.2.2 hd) hl hv k') k
theorem g_aload (A : Ax p l e R s m args below meth c T locs cells slots B) {k : Nat} {v : Value} (hd : decode B pc = .ok (.aload k, 2)) (hl : ls[k]? = some (.val v)) (hv : v.isRef = true) (hp : pc + 2 = pc') (k : Go p e below P T (mkF m pc' ls (v :: st))) : Go p e below P T (mkF m pc ls st) := by
  subst hp; exact Go.of (fun _ k' => XS.aload A.1.here A.2.1 rfl (hb A.2.2 hd) hl hv k') k
theorem g_dloadN (A : Ax p l e R s m args below meth c T locs cells slots B) {k : Fin 4} {v : UInt64} (hd : decode B pc = .ok (.dload_n k, 1)) (hl : ls[k.val]? = some (.val (.double v))) (hp : pc + 1 = pc') (k : Go p e below P T (mkF m pc' ls (.double v :: st))) : Go p e below P T (mkF m pc ls st) := by
  subst hp
  refine Go.of (fun t k' => ?_) k
  have h := A.1.here
  have hx := A.2.1
  have hd' := hb A.2.2 hd
  show Steps p.tables e below (T.setTop { method := m, pc := pc, locals := ls, stack := st, locked := none }) _
  jvm_step h [h.top, hx, hd', hl]
  exact k'
theorem g_dload (A : Ax p l e R s m args below meth c T locs cells slots B) {k : Nat} {v : UInt64} (hd : decode B pc = .ok (.dload k, 2)) (hl : ls[k]? = some (.val (.double v))) (hp : pc + 2 = pc') (k : Go p e below P T (mkF m pc' ls (.double v :: st))) : Go p e below P T (mkF m pc ls st) := by
  subst hp
  refine Go.of (fun t k' => ?_) k
  have h := A.1.here
  have hx := A.2.1
  have hd' := hb A.2.2 hd
  show Steps p.tables e below (T.setTop { method := m, pc := pc, locals := ls, stack := st, locked := none }) _
  jvm_step h [h.top, hx, hd', hl]
  exact k'
theorem g_istoreN (A : Ax p l e R s m args below meth c T locs cells slots B) {k : Fin 4} {x : Int32} (hd : decode B pc = .ok (.istore_n k, 1)) (hl : storeLocals ls k.val (.int x) = some ls') (hp : pc + 1 = pc') (k : Go p e below P T (mkF m pc' ls' st)) : Go p e below P T (mkF m pc ls (.int x :: st)) := by
  subst hp; exact Go.of (fun _ k' => XS.istoreN A.1.here A.2.1 rfl (hb A.2.2 hd) rfl hl k') k
theorem g_istore (A : Ax p l e R s m args below meth c T locs cells slots B) {k : Nat} {x : Int32} (hd : decode B pc = .ok (.istore k, 2)) (hl : storeLocals ls k (.int x) = some ls') (hp : pc + 2 = pc') (k : Go p e below P T (mkF m pc' ls' st)) : Go p e below P T (mkF m pc ls (.int x :: st)) := by
  subst hp; exact Go.of (fun _ k' => XS.istore A.1.here A.2.1 rfl (hb A.2.2 hd) rfl hl k') k
theorem g_lstoreN (A : Ax p l e R s m args below meth c T locs cells slots B) {k : Fin 4} {x : Int64} (hd : decode B pc = .ok (.lstore_n k, 1)) (hl : storeLocals ls k.val (.long x) = some ls') (hp : pc + 1 = pc') (k : Go p e below P T (mkF m pc' ls' st)) : Go p e below P T (mkF m pc ls (.long x :: st)) := by
  subst hp; exact Go.of (fun _ k' => XT.lstoreN A.1.here A.2.1 rfl (hb A.2.2 hd) rfl hl k') k
theorem g_lstore (A : Ax p l e R s m args below meth c T locs cells slots B) {k : Nat} {x : Int64} (hd : decode B pc = .ok (.lstore k, 2)) (hl : storeLocals ls k (.long x) = some ls') (hp : pc + 2 = pc') (k : Go p e below P T (mkF m pc' ls' st)) : Go p e below P T (mkF m pc ls (.long x :: st)) := by
  subst hp; exact Go.of (fun _ k' => XT.lstore A.1.here A.2.1 rfl (hb A.2.2 hd) rfl hl k') k
theorem g_astoreN (A : Ax p l e R s m args below meth c T locs cells slots B) {k : Fin 4} {x : Value} (hd : decode B pc = .ok (.astore_n k, 1)) (hv : x.isRef = true) (hl : storeLocals ls k.val x = some ls') (hp : pc + 1 = pc') (k : Go p e below P T (mkF m pc' ls' st)) : Go p e below P T (mkF m pc ls (x :: st)) := by
  subst hp; exact Go.of (fun _ k' => XS.astoreN A.1.here A.2.1 rfl (hb A.2.2 hd) rfl hv hl k') k
theorem g_astore (A : Ax p l e R s m args below meth c T locs cells slots B) {k : Nat} {x : Value} (hd : decode B pc = .ok (.astore k, 2)) (hv : x.isRef = true) (hl : storeLocals ls k x = some ls') (hp : pc + 2 = pc') (k : Go p e below P T (mkF m pc' ls' st)) : Go p e below P T (mkF m pc ls (x :: st)) := by
  subst hp; exact Go.of (fun _ k' => XS.astore A.1.here A.2.1 rfl (hb A.2.2 hd) rfl hv hl k') k
theorem g_dstoreN (A : Ax p l e R s m args below meth c T locs cells slots B) {k : Fin 4} {x : UInt64} (hd : decode B pc = .ok (.dstore_n k, 1)) (hl : storeLocals ls k.val (.double x) = some ls') (hp : pc + 1 = pc') (k : Go p e below P T (mkF m pc' ls' st)) : Go p e below P T (mkF m pc ls (.double x :: st)) := by
  subst hp
  refine Go.of (fun t k' => ?_) k
  have h := A.1.here
  have hx := A.2.1
  have hd' := hb A.2.2 hd
  show Steps p.tables e below (T.setTop { method := m, pc := pc, locals := ls, stack := .double x :: st, locked := none }) _
  jvm_step h [h.top, hx, hd']
  exact ⟨ls', hl, k'⟩
theorem g_dstore (A : Ax p l e R s m args below meth c T locs cells slots B) {k : Nat} {x : UInt64} (hd : decode B pc = .ok (.dstore k, 2)) (hl : storeLocals ls k (.double x) = some ls') (hp : pc + 2 = pc') (k : Go p e below P T (mkF m pc' ls' st)) : Go p e below P T (mkF m pc ls (.double x :: st)) := by
  subst hp
  refine Go.of (fun t k' => ?_) k
  have h := A.1.here
  have hx := A.2.1
  have hd' := hb A.2.2 hd
  show Steps p.tables e below (T.setTop { method := m, pc := pc, locals := ls, stack := .double x :: st, locked := none }) _
  jvm_step h [h.top, hx, hd']
  exact ⟨ls', hl, k'⟩
theorem g_iconst (A : Ax p l e R s m args below meth c T locs cells slots B) {i : Int} {v : Int32} (hd : decode B pc = .ok (.iconst i, 1)) (hv : Int32.ofInt i = v) (hp : pc + 1 = pc') (k : Go p e below P T (mkF m pc' ls (.int v :: st))) : Go p e below P T (mkF m pc ls st) := by
  subst hp hv; exact Go.of (fun _ k' => XS.iconst A.1.here A.2.1 rfl (hb A.2.2 hd) k') k
theorem g_bipush (A : Ax p l e R s m args below meth c T locs cells slots B) {i : Int} {v : Int32} (hd : decode B pc = .ok (.bipush i, 2)) (hv : (Int8.ofInt i).toInt32 = v) (hp : pc + 2 = pc') (k : Go p e below P T (mkF m pc' ls (.int v :: st))) : Go p e below P T (mkF m pc ls st) := by
  subst hp hv; exact Go.of (fun _ k' => XS.bipush A.1.here A.2.1 rfl (hb A.2.2 hd) k') k
theorem g_sipush (A : Ax p l e R s m args below meth c T locs cells slots B) {i : Int} {v : Int32} (hd : decode B pc = .ok (.sipush i, 3)) (hv : (Int16.ofInt i).toInt32 = v) (hp : pc + 3 = pc') (k : Go p e below P T (mkF m pc' ls (.int v :: st))) : Go p e below P T (mkF m pc ls st) := by
  subst hp hv; exact Go.of (fun _ k' => XS.sipush A.1.here A.2.1 rfl (hb A.2.2 hd) k') k
theorem g_aconst (A : Ax p l e R s m args below meth c T locs cells slots B) (hd : decode B pc = .ok (.aconst_null, 1)) (hp : pc + 1 = pc') (k : Go p e below P T (mkF m pc' ls (.null :: st))) : Go p e below P T (mkF m pc ls st) := by
  subst hp; exact Go.of (fun _ k' => XS.aconstNull A.1.here A.2.1 rfl (hb A.2.2 hd) k') k
theorem g_lconst (A : Ax p l e R s m args below meth c T locs cells slots B) {i : Fin 2} {v : Int64} (hd : decode B pc = .ok (.lconst i, 1)) (hv : Int64.ofNat i = v) (hp : pc + 1 = pc') (k : Go p e below P T (mkF m pc' ls (.long v :: st))) : Go p e below P T (mkF m pc ls st) := by
  subst hp hv; exact Go.of (fun _ k' => XT.lconst A.1.here A.2.1 rfl (hb A.2.2 hd) k') k
theorem g_dconst0 (A : Ax p l e R s m args below meth c T locs cells slots B) (hd : decode B pc = .ok (.dconst 0, 1)) (hp : pc + 1 = pc') (k : Go p e below P T (mkF m pc' ls (.double (0 : UInt64) :: st))) : Go p e below P T (mkF m pc ls st) := by
  subst hp
  refine Go.of (fun t k' => ?_) k
  have h := A.1.here
  have hx := A.2.1
  have hd' := hb A.2.2 hd
  show Steps p.tables e below (T.setTop { method := m, pc := pc, locals := ls, stack := st, locked := none }) _
  jvm_step h [h.top, hx, hd']
  exact k'
theorem g_dconst1 (A : Ax p l e R s m args below meth c T locs cells slots B) (hd : decode B pc = .ok (.dconst 1, 1)) (hp : pc + 1 = pc') (k : Go p e below P T (mkF m pc' ls (.double (4607182418800017408 : UInt64) :: st))) : Go p e below P T (mkF m pc ls st) := by
  subst hp
  refine Go.of (fun t k' => ?_) k
  have h := A.1.here
  have hx := A.2.1
  have hd' := hb A.2.2 hd
  show Steps p.tables e below (T.setTop { method := m, pc := pc, locals := ls, stack := st, locked := none }) _
  jvm_step h [h.top, hx, hd']
  exact k'
theorem g_dadd (A : Ax p l e R s m args below meth c T locs cells slots B) {x y : UInt64} (hd : decode B pc = .ok (.dadd, 1)) (hn : NoNaN64 (FP.dadd x y)) (hp : pc + 1 = pc') (k : Go p e below P T (mkF m pc' ls (.double (FP.dadd x y) :: st))) : Go p e below P T (mkF m pc ls (.double y :: .double x :: st)) := by
  subst hp
  refine Go.of (fun t k' => ?_) k
  have h := A.1.here
  have hx := A.2.1
  have hd' := hb A.2.2 hd
  show Steps p.tables e below (T.setTop { method := m, pc := pc, locals := ls, stack := .double y :: .double x :: st, locked := none }) _
  jvm_step h [h.top, hx, hd', Op.dadd.at_number h.top hn]
  exact k'
theorem g_dsub (A : Ax p l e R s m args below meth c T locs cells slots B) {x y : UInt64} (hd : decode B pc = .ok (.dsub, 1)) (hn : NoNaN64 (FP.dsub x y)) (hp : pc + 1 = pc') (k : Go p e below P T (mkF m pc' ls (.double (FP.dsub x y) :: st))) : Go p e below P T (mkF m pc ls (.double y :: .double x :: st)) := by
  subst hp
  refine Go.of (fun t k' => ?_) k
  have h := A.1.here
  have hx := A.2.1
  have hd' := hb A.2.2 hd
  show Steps p.tables e below (T.setTop { method := m, pc := pc, locals := ls, stack := .double y :: .double x :: st, locked := none }) _
  jvm_step h [h.top, hx, hd', Op.dsub.at_number h.top hn]
  exact k'
theorem g_dmul (A : Ax p l e R s m args below meth c T locs cells slots B) {x y : UInt64} (hd : decode B pc = .ok (.dmul, 1)) (hn : NoNaN64 (FP.dmul x y)) (hp : pc + 1 = pc') (k : Go p e below P T (mkF m pc' ls (.double (FP.dmul x y) :: st))) : Go p e below P T (mkF m pc ls (.double y :: .double x :: st)) := by
  subst hp
  refine Go.of (fun t k' => ?_) k
  have h := A.1.here
  have hx := A.2.1
  have hd' := hb A.2.2 hd
  show Steps p.tables e below (T.setTop { method := m, pc := pc, locals := ls, stack := .double y :: .double x :: st, locked := none }) _
  jvm_step h [h.top, hx, hd', Op.dmul.at_number h.top hn]
  exact k'
theorem g_ddiv (A : Ax p l e R s m args below meth c T locs cells slots B) {x y : UInt64} (hd : decode B pc = .ok (.ddiv, 1)) (hn : NoNaN64 (FP.ddiv x y)) (hp : pc + 1 = pc') (k : Go p e below P T (mkF m pc' ls (.double (FP.ddiv x y) :: st))) : Go p e below P T (mkF m pc ls (.double y :: .double x :: st)) := by
  subst hp
  refine Go.of (fun t k' => ?_) k
  have h := A.1.here
  have hx := A.2.1
  have hd' := hb A.2.2 hd
  show Steps p.tables e below (T.setTop { method := m, pc := pc, locals := ls, stack := .double y :: .double x :: st, locked := none }) _
  jvm_step h [h.top, hx, hd', Op.ddiv.at_number h.top hn]
  exact k'
theorem g_daddL (A : Ax p l e R s m args below meth c T locs cells slots B) {x y z : UInt64} (hd : decode B pc = .ok (.dadd, 1)) (hz : FP.dadd x y = z) (hn : NoNaN64 z) (hp : pc + 1 = pc') (k : Go p e below P T (mkF m pc' ls (.double z :: st))) : Go p e below P T (mkF m pc ls (.double y :: .double x :: st)) := g_dadd A hd (hz.symm ▸ hn) hp (hz.symm ▸ k)
theorem g_dsubL (A : Ax p l e R s m args below meth c T locs cells slots B) {x y z : UInt64} (hd : decode B pc = .ok (.dsub, 1)) (hz : FP.dsub x y = z) (hn : NoNaN64 z) (hp : pc + 1 = pc') (k : Go p e below P T (mkF m pc' ls (.double z :: st))) : Go p e below P T (mkF m pc ls (.double y :: .double x :: st)) := g_dsub A hd (hz.symm ▸ hn) hp (hz.symm ▸ k)
theorem g_dmulL (A : Ax p l e R s m args below meth c T locs cells slots B) {x y z : UInt64} (hd : decode B pc = .ok (.dmul, 1)) (hz : FP.dmul x y = z) (hn : NoNaN64 z) (hp : pc + 1 = pc') (k : Go p e below P T (mkF m pc' ls (.double z :: st))) : Go p e below P T (mkF m pc ls (.double y :: .double x :: st)) := g_dmul A hd (hz.symm ▸ hn) hp (hz.symm ▸ k)
theorem g_ddivL (A : Ax p l e R s m args below meth c T locs cells slots B) {x y z : UInt64} (hd : decode B pc = .ok (.ddiv, 1)) (hz : FP.ddiv x y = z) (hn : NoNaN64 z) (hp : pc + 1 = pc') (k : Go p e below P T (mkF m pc' ls (.double z :: st))) : Go p e below P T (mkF m pc ls (.double y :: .double x :: st)) := g_ddiv A hd (hz.symm ▸ hn) hp (hz.symm ▸ k)
theorem g_dneg (A : Ax p l e R s m args below meth c T locs cells slots B) {x : UInt64} (hd : decode B pc = .ok (.dneg, 1)) (hp : pc + 1 = pc') (k : Go p e below P T (mkF m pc' ls (.double (FP.dneg x) :: st))) : Go p e below P T (mkF m pc ls (.double x :: st)) := by
  subst hp
  refine Go.of (fun t k' => ?_) k
  have h := A.1.here
  have hx := A.2.1
  have hd' := hb A.2.2 hd
  show Steps p.tables e below (T.setTop { method := m, pc := pc, locals := ls, stack := .double x :: st, locked := none }) _
  jvm_step h [h.top, hx, hd']
  exact k'
theorem g_i2d (A : Ax p l e R s m args below meth c T locs cells slots B) {x : Int32} (hd : decode B pc = .ok (.i2d, 1)) (hp : pc + 1 = pc') (k : Go p e below P T (mkF m pc' ls (.double (FP.i2d x) :: st))) : Go p e below P T (mkF m pc ls (.int x :: st)) := by
  subst hp
  refine Go.of (fun t k' => ?_) k
  have h := A.1.here
  have hx := A.2.1
  have hd' := hb A.2.2 hd
  show Steps p.tables e below (T.setTop { method := m, pc := pc, locals := ls, stack := .int x :: st, locked := none }) _
  jvm_step h [h.top, hx, hd']
  exact k'
theorem g_l2d (A : Ax p l e R s m args below meth c T locs cells slots B) {x : Int64} (hd : decode B pc = .ok (.l2d, 1)) (hp : pc + 1 = pc') (k : Go p e below P T (mkF m pc' ls (.double (FP.l2d x) :: st))) : Go p e below P T (mkF m pc ls (.long x :: st)) := by
  subst hp
  refine Go.of (fun t k' => ?_) k
  have h := A.1.here
  have hx := A.2.1
  have hd' := hb A.2.2 hd
  show Steps p.tables e below (T.setTop { method := m, pc := pc, locals := ls, stack := .long x :: st, locked := none }) _
  jvm_step h [h.top, hx, hd']
  exact k'
theorem g_dcmp (A : Ax p l e R s m args below meth c T locs cells slots B) {x y : UInt64} {op : CmpOp} (hd : decode B pc = .ok (.dcmp op, 1)) (hp : pc + 1 = pc') (k : Go p e below P T (mkF m pc' ls (.int (cmpValue (FP.dcmp x y) op) :: st))) : Go p e below P T (mkF m pc ls (.double y :: .double x :: st)) := by
  subst hp
  refine Go.of (fun t k' => ?_) k
  have h := A.1.here
  have hx := A.2.1
  have hd' := hb A.2.2 hd
  show Steps p.tables e below (T.setTop { method := m, pc := pc, locals := ls, stack := .double y :: .double x :: st, locked := none }) _
  jvm_step h [h.top, hx, hd']
  exact k'
theorem g_lcmp (A : Ax p l e R s m args below meth c T locs cells slots B) {x y : Int64} (hd : decode B pc = .ok (.lcmp, 1)) (hp : pc + 1 = pc') (k : Go p e below P T (mkF m pc' ls (.int (XT.cmpL x y) :: st))) : Go p e below P T (mkF m pc ls (.long y :: .long x :: st)) := by
  subst hp; exact Go.of (fun _ k' => XT.lcmp A.1.here A.2.1 rfl (hb A.2.2 hd) rfl k') k
theorem g_dup (A : Ax p l e R s m args below meth c T locs cells slots B) {x : Value} (hd : decode B pc = .ok (.dup, 1)) (hc : x.category = 1) (hp : pc + 1 = pc') (k : Go p e below P T (mkF m pc' ls (x :: x :: st))) : Go p e below P T (mkF m pc ls (x :: st)) := by
  subst hp; exact Go.of (fun _ k' => XS.dup A.1.here A.2.1 rfl (hb A.2.2 hd) rfl hc k') k
theorem g_pop (A : Ax p l e R s m args below meth c T locs cells slots B) {x : Value} (hd : decode B pc = .ok (.pop, 1)) (hc : x.category = 1) (hp : pc + 1 = pc') (k : Go p e below P T (mkF m pc' ls st)) : Go p e below P T (mkF m pc ls (x :: st)) := by
  subst hp; exact Go.of (fun _ k' => XT.pop A.1.here A.2.1 rfl (hb A.2.2 hd) rfl hc k') k
theorem g_iinc (A : Ax p l e R s m args below meth c T locs cells slots B) {k : Nat} {i : Int} {x y : Int32} (hd : decode B pc = .ok (.iinc k i, 3)) (hl : ls[k]? = some (.val (.int x))) (hy : x + Int32.ofInt i = y) (hl' : storeLocals ls k (.int y) = some ls') (hp : pc + 3 = pc') (k : Go p e below P T (mkF m pc' ls' st)) : Go p e below P T (mkF m pc ls st) := by
  subst hp hy; exact Go.of (fun _ k' => XS.iinc A.1.here A.2.1 rfl (hb A.2.2 hd) hl hl' k') k
theorem own_off {pc pc' : Nat} {o : Int} (h : (pc : Int) + o = (pc' : Int)) : 0 ≤ (pc : Int) + o ∧ ((pc : Int) + o).toNat = pc' := by omega
theorem g_goto (A : Ax p l e R s m args below meth c T locs cells slots B) {o : Int} (hd : decode B pc = .ok (.goto o, 3)) (hp : (pc : Int) + o = (pc' : Int)) (k : Go p e below P T (mkF m pc' ls st)) : Go p e below P T (mkF m pc ls st) := Go.of (fun _ k' => XS.goto A.1.here A.2.1 rfl rfl (hb A.2.2 hd) (own_off hp).1 (own_off hp).2 k') k
theorem g_ifY (A : Ax p l e R s m args below meth c T locs cells slots B) {o : Int} {cd : ClassFile.Cond} {x : Int32} (hd : decode B pc = .ok (.ifCond cd o, 3)) (hc : ifCond.holds cd x = true) (hp : (pc : Int) + o = (pc' : Int)) (k : Go p e below P T (mkF m pc' ls st)) : Go p e below P T (mkF m pc ls (.int x :: st)) := Go.of (fun _ k' => XS.ifYes A.1.here A.2.1 rfl rfl (hb A.2.2 hd) rfl hc (own_off hp).1 (own_off hp).2 k') k
theorem g_ifN (A : Ax p l e R s m args below meth c T locs cells slots B) {o : Int} {cd : ClassFile.Cond} {x : Int32} (hd : decode B pc = .ok (.ifCond cd o, 3)) (hc : ifCond.holds cd x = false) (hp : pc + 3 = pc') (k : Go p e below P T (mkF m pc' ls st)) : Go p e below P T (mkF m pc ls (.int x :: st)) := by
  subst hp; exact Go.of (fun _ k' => XS.ifNo A.1.here A.2.1 rfl (hb A.2.2 hd) rfl hc k') k
theorem g_icY (A : Ax p l e R s m args below meth c T locs cells slots B) {o : Int} {cd : ClassFile.Cond} {x y : Int32} (hd : decode B pc = .ok (.if_icmp cd o, 3)) (hc : if_icmp.holds cd x y = true) (hp : (pc : Int) + o = (pc' : Int)) (k : Go p e below P T (mkF m pc' ls st)) : Go p e below P T (mkF m pc ls (.int y :: .int x :: st)) := Go.of (fun _ k' => XS.icmpYes A.1.here A.2.1 rfl rfl (hb A.2.2 hd) rfl hc (own_off hp).1 (own_off hp).2 k') k
theorem g_icN (A : Ax p l e R s m args below meth c T locs cells slots B) {o : Int} {cd : ClassFile.Cond} {x y : Int32} (hd : decode B pc = .ok (.if_icmp cd o, 3)) (hc : if_icmp.holds cd x y = false) (hp : pc + 3 = pc') (k : Go p e below P T (mkF m pc' ls st)) : Go p e below P T (mkF m pc ls (.int y :: .int x :: st)) := by
  subst hp; exact Go.of (fun _ k' => XS.icmpNo A.1.here A.2.1 rfl (hb A.2.2 hd) rfl hc k') k
theorem c0_eq_t {x : Int32} (h : x = 0) : ifCond.holds .eq x = true := (if0 _ _).trans (teq h).1
theorem c0_eq_f {x : Int32} (h : ¬ x = 0) : ifCond.holds .eq x = false := (if0 _ _).trans (feq h).1
theorem c0_ne_t {x : Int32} (h : ¬ x = 0) : ifCond.holds .ne x = true := (if0 _ _).trans (feq h).2
theorem c0_ne_f {x : Int32} (h : x = 0) : ifCond.holds .ne x = false := (if0 _ _).trans (teq h).2
theorem c0_lt_t {x : Int32} (h : x < 0) : ifCond.holds .lt x = true := (if0 _ _).trans (tlt h).1
theorem c0_lt_f {x : Int32} (h : ¬ x < 0) : ifCond.holds .lt x = false := (if0 _ _).trans (flt h).1
theorem c0_ge_t {x : Int32} (h : ¬ x < 0) : ifCond.holds .ge x = true := (if0 _ _).trans (flt h).2.1
theorem c0_ge_f {x : Int32} (h : x < 0) : ifCond.holds .ge x = false := (if0 _ _).trans (tlt h).2.1
theorem c0_gt_t {x : Int32} (h : 0 < x) : ifCond.holds .gt x = true := (if0 _ _).trans (tlt h).2.2.1
theorem c0_gt_f {x : Int32} (h : ¬ 0 < x) : ifCond.holds .gt x = false := (if0 _ _).trans (flt h).2.2.1
theorem c0_le_t {x : Int32} (h : ¬ 0 < x) : ifCond.holds .le x = true := (if0 _ _).trans (flt h).2.2.2
theorem c0_le_f {x : Int32} (h : 0 < x) : ifCond.holds .le x = false := (if0 _ _).trans (tlt h).2.2.2
theorem c2_eq_t {x y : Int32} (h : x = y) : if_icmp.holds .eq x y = true := (teq h).1
theorem c2_eq_f {x y : Int32} (h : ¬ x = y) : if_icmp.holds .eq x y = false := (feq h).1
theorem c2_ne_t {x y : Int32} (h : ¬ x = y) : if_icmp.holds .ne x y = true := (feq h).2
theorem c2_ne_f {x y : Int32} (h : x = y) : if_icmp.holds .ne x y = false := (teq h).2
theorem c2_lt_t {x y : Int32} (h : x < y) : if_icmp.holds .lt x y = true := (tlt h).1
theorem c2_lt_f {x y : Int32} (h : ¬ x < y) : if_icmp.holds .lt x y = false := (flt h).1
theorem c2_ge_t {x y : Int32} (h : ¬ x < y) : if_icmp.holds .ge x y = true := (flt h).2.1
theorem c2_ge_f {x y : Int32} (h : x < y) : if_icmp.holds .ge x y = false := (tlt h).2.1
theorem c2_gt_t {x y : Int32} (h : y < x) : if_icmp.holds .gt x y = true := (tlt h).2.2.1
theorem c2_gt_f {x y : Int32} (h : ¬ y < x) : if_icmp.holds .gt x y = false := (flt h).2.2.1
theorem c2_le_t {x y : Int32} (h : ¬ y < x) : if_icmp.holds .le x y = true := (flt h).2.2.2
theorem c2_le_f {x y : Int32} (h : y < x) : if_icmp.holds .le x y = false := (tlt h).2.2.2
theorem b0_eq_t {C : Prop} [Decidable C] {v : Int32} (e : v = if C then 1 else 0) (h : ¬ C) : ifCond.holds .eq v = true := c0_eq_t (by rw [e, if_neg h])
theorem b0_eq_f {C : Prop} [Decidable C] {v : Int32} (e : v = if C then 1 else 0) (h : C) : ifCond.holds .eq v = false := c0_eq_f (by rw [e, if_pos h]; decide)
theorem b0_ne_t {C : Prop} [Decidable C] {v : Int32} (e : v = if C then 1 else 0) (h : C) : ifCond.holds .ne v = true := c0_ne_t (by rw [e, if_pos h]; decide)
theorem b0_ne_f {C : Prop} [Decidable C] {v : Int32} (e : v = if C then 1 else 0) (h : ¬ C) : ifCond.holds .ne v = false := c0_ne_f (by rw [e, if_neg h])
theorem own_b01 {C : Prop} [Decidable C] {v : Int32} (e : v = if C then 1 else 0) : narrow .boolean (.int v) = .int v := by
  subst e; by_cases h : C
  · rw [if_pos h]; rfl
  · rw [if_neg h]; rfl
theorem own_fb {C : Prop} [Decidable C] {v : Int32} (e : v = if C then 1 else 0) : fits .boolean (.int v) = true := by
  subst e; by_cases h : C
  · rw [if_pos h]; rfl
  · rw [if_neg h]; rfl
theorem own_ndadd {x y : UInt64} (h1 : Fin64 x) (h2 : Fin64 y) : NoNaN64 (FP.dadd x y) := dadd_out h1.noNaN h2
theorem own_ndsub {x y : UInt64} (h1 : Fin64 x) (h2 : Fin64 y) : NoNaN64 (FP.dsub x y) := dsub_out h1.noNaN h2
theorem own_ndmul {x y : UInt64} (h1 : Fin64 x) (h2 : Fin64 y) : NoNaN64 (FP.dmul x y) := dmul_out h1 h2
theorem own_fin {x : UInt64} : Fin64 x ↔ FP.Core.DFin x := fin64_core
theorem own_fneg {x : UInt64} (h : Fin64 x) : Fin64 (FP.dneg x) := by
  obtain ⟨s, c, q, e⟩ := fin64_core.mp h
  exact fin64_core.mpr ⟨!s, c, q, (FP.val64_dneg x).trans (by rw [e]; rfl)⟩
theorem own_self {x : UInt64} (h : Fin64 x) : FP.dcmp x x = some .eq := FP.Core.dcmp_self (fin64_core.mp h).ne_nan
theorem own_sgt {x : UInt64} (h : Fin64 x) : ¬ FP.dcmp x x = some .gt := by rw [own_self h]; decide
theorem own_slt {x : UInt64} (h : Fin64 x) : ¬ FP.dcmp x x = some .lt := by rw [own_self h]; decide
theorem own_and {c d : Jvm.Cond} {a : Array Value} {s : State} (h1 : c.before a s = true) (h2 : d.before a s = true) : (Jvm.Cond.and c d).before a s = true := by rw [Cond.before_and, h1, h2]; rfl
theorem own_isfin {x : UInt64} (h : Fin64 x) : some (Value.int (if Jvm.Free.Fl.relLe (FP.dcmp (x &&& 0x7fffffffffffffff) Jvm.Free.Fl.maxD) = true then (1 : Int32) else 0)) = some (.int (1 : Int32)) := by rw [if_pos ((le_max_iff h.noNaN).mpr h)]
theorem own_isinf {x : UInt64} (h : Fin64 x) : some (Value.int (if Jvm.Free.Fl.relGt (FP.dcmp (x &&& 0x7fffffffffffffff) Jvm.Free.Fl.maxD) = true then (1 : Int32) else 0)) = some (.int (0 : Int32)) := by rw [if_neg (fun h4 => (gt_max_iff h.noNaN).mp h4 h)]
theorem own_dfin {i : Int} {x : UInt64} (h : FP.Core.DInt i x) : Fin64 x := by
  refine fin64_core.mpr ?_
  have q : FP.Core.Whole i (FP.Core.val64 x) := h
  cases e : FP.Core.val64 x with
  | nan => rw [e] at q; exact q.elim
  | inf s => rw [e] at q; exact q.elim
  | fin s c q => exact ⟨s, c, q, e⟩
theorem own_fn {v : Int32} (h : narrow .boolean (.int v) = .int v) : fits .boolean (.int v) = true := by
  have q : v &&& 1 = v := Value.int.inj h
  rcases and_one v with z | z <;> rw [z] at q <;> subst q <;> rfl
/-- a double less than, equal to .. another, as the code asks it -/
abbrev oGe (o : Option Ordering) : Prop := o = some .gt ∨ o = some .eq
abbrev oLe (o : Option Ordering) : Prop := o = some .lt ∨ o = some .eq
theorem d_l_eq_t {o : Option Ordering} (h : o = some .eq) : ifCond.holds .eq (cmpValue o .l) = true := by
  rcases o with _ | _ | _ | _ <;> first | rfl | decide | (exfalso; revert h; decide)
theorem d_l_eq_f {o : Option Ordering} (h : ¬ o = some .eq) : ifCond.holds .eq (cmpValue o .l) = false := by
  rcases o with _ | _ | _ | _ <;> first | rfl | decide | (exfalso; revert h; decide)
theorem d_l_ne_t {o : Option Ordering} (h : ¬ o = some .eq) : ifCond.holds .ne (cmpValue o .l) = true := by
  rcases o with _ | _ | _ | _ <;> first | rfl | decide | (exfalso; revert h; decide)
theorem d_l_ne_f {o : Option Ordering} (h : o = some .eq) : ifCond.holds .ne (cmpValue o .l) = false := by
  rcases o with _ | _ | _ | _ <;> first | rfl | decide | (exfalso; revert h; decide)
theorem d_g_eq_t {o : Option Ordering} (h : o = some .eq) : ifCond.holds .eq (cmpValue o .g) = true := by
  rcases o with _ | _ | _ | _ <;> first | rfl | decide | (exfalso; revert h; decide)
theorem d_g_eq_f {o : Option Ordering} (h : ¬ o = some .eq) : ifCond.holds .eq (cmpValue o .g) = false := by
  rcases o with _ | _ | _ | _ <;> first | rfl | decide | (exfalso; revert h; decide)
theorem d_g_ne_t {o : Option Ordering} (h : ¬ o = some .eq) : ifCond.holds .ne (cmpValue o .g) = true := by
  rcases o with _ | _ | _ | _ <;> first | rfl | decide | (exfalso; revert h; decide)
theorem d_g_ne_f {o : Option Ordering} (h : o = some .eq) : ifCond.holds .ne (cmpValue o .g) = false := by
  rcases o with _ | _ | _ | _ <;> first | rfl | decide | (exfalso; revert h; decide)
theorem d_l_lt_t {o : Option Ordering} (h : ¬ oGe o) : ifCond.holds .lt (cmpValue o .l) = true := by
  rcases o with _ | _ | _ | _ <;> first | rfl | decide | (exfalso; revert h; decide)
theorem d_l_lt_f {o : Option Ordering} (h : oGe o) : ifCond.holds .lt (cmpValue o .l) = false := by
  rcases o with _ | _ | _ | _ <;> first | rfl | decide | (exfalso; revert h; decide)
theorem d_l_ge_t {o : Option Ordering} (h : oGe o) : ifCond.holds .ge (cmpValue o .l) = true := by
  rcases o with _ | _ | _ | _ <;> first | rfl | decide | (exfalso; revert h; decide)
theorem d_l_ge_f {o : Option Ordering} (h : ¬ oGe o) : ifCond.holds .ge (cmpValue o .l) = false := by
  rcases o with _ | _ | _ | _ <;> first | rfl | decide | (exfalso; revert h; decide)
theorem d_l_gt_t {o : Option Ordering} (h : o = some .gt) : ifCond.holds .gt (cmpValue o .l) = true := by
  rcases o with _ | _ | _ | _ <;> first | rfl | decide | (exfalso; revert h; decide)
theorem d_l_gt_f {o : Option Ordering} (h : ¬ o = some .gt) : ifCond.holds .gt (cmpValue o .l) = false := by
  rcases o with _ | _ | _ | _ <;> first | rfl | decide | (exfalso; revert h; decide)
theorem d_l_le_t {o : Option Ordering} (h : ¬ o = some .gt) : ifCond.holds .le (cmpValue o .l) = true := by
  rcases o with _ | _ | _ | _ <;> first | rfl | decide | (exfalso; revert h; decide)
theorem d_l_le_f {o : Option Ordering} (h : o = some .gt) : ifCond.holds .le (cmpValue o .l) = false := by
  rcases o with _ | _ | _ | _ <;> first | rfl | decide | (exfalso; revert h; decide)
theorem d_g_lt_t {o : Option Ordering} (h : o = some .lt) : ifCond.holds .lt (cmpValue o .g) = true := by
  rcases o with _ | _ | _ | _ <;> first | rfl | decide | (exfalso; revert h; decide)
theorem d_g_lt_f {o : Option Ordering} (h : ¬ o = some .lt) : ifCond.holds .lt (cmpValue o .g) = false := by
  rcases o with _ | _ | _ | _ <;> first | rfl | decide | (exfalso; revert h; decide)
theorem d_g_ge_t {o : Option Ordering} (h : ¬ o = some .lt) : ifCond.holds .ge (cmpValue o .g) = true := by
  rcases o with _ | _ | _ | _ <;> first | rfl | decide | (exfalso; revert h; decide)
theorem d_g_ge_f {o : Option Ordering} (h : o = some .lt) : ifCond.holds .ge (cmpValue o .g) = false := by
  rcases o with _ | _ | _ | _ <;> first | rfl | decide | (exfalso; revert h; decide)
theorem d_g_gt_t {o : Option Ordering} (h : ¬ oLe o) : ifCond.holds .gt (cmpValue o .g) = true := by
  rcases o with _ | _ | _ | _ <;> first | rfl | decide | (exfalso; revert h; decide)
theorem d_g_gt_f {o : Option Ordering} (h : oLe o) : ifCond.holds .gt (cmpValue o .g) = false := by
  rcases o with _ | _ | _ | _ <;> first | rfl | decide | (exfalso; revert h; decide)
theorem d_g_le_t {o : Option Ordering} (h : oLe o) : ifCond.holds .le (cmpValue o .g) = true := by
  rcases o with _ | _ | _ | _ <;> first | rfl | decide | (exfalso; revert h; decide)
theorem d_g_le_f {o : Option Ordering} (h : ¬ oLe o) : ifCond.holds .le (cmpValue o .g) = false := by
  rcases o with _ | _ | _ | _ <;> first | rfl | decide | (exfalso; revert h; decide)
theorem l_eq (x y : Int64) : XT.cmpL x y = 0 ↔ x = y := lw_eq x y
theorem l_lt (x y : Int64) : XT.cmpL x y < 0 ↔ x < y := lw_lt x y
theorem l_gt (x y : Int64) : 0 < XT.cmpL x y ↔ y < x := lw_gt x y
theorem g_ret (A : Ax p l e R s m args below meth c T locs cells slots B) {w : Value} {t : FieldType} {i : Instr} {Q : Option Value → Heap → List Loc → Prop} {K S : Nat} (hd : decode B pc = .ok (i, 1)) (hlk : meth.locks = false) (hret : meth.sig.returnType = some t) (hn : narrow t w = w)
    (hi : (i = .ireturn ∧ (t = .int ∨ t = .boolean ∨ t = .byte ∨ t = .char ∨ t = .short) ∧ ∃ z, w = .int z) ∨ (i = .lreturn ∧ t = .long ∧ ∃ z, w = .long z) ∨ (i = .dreturn ∧ t = .double ∧ ∃ z, w = .double z) ∨ (i = .freturn ∧ t = .float ∧ ∃ z, w = .float z) ∨ (i = .areturn ∧ t.isReference = true ∧ w.isRef = true))
    (hK : cells ≤ K) (hS : slots ≤ S) (hQ : Q (some w) T.heap locs) : Go p e below (fun U o => ∃ v L, o = .returned v ∧ Q v U.heap L ∧ FrameEnd s o U L K S) T (mkF m pc ls (w :: st)) := by
  obtain ⟨fs, hr, hrun, hended, hW, hsame⟩ := A.1.leave (v := some w) (fun h => by rw [hret] at h; cases h) hlk
  exact ⟨_, _, retOut A.1 A.2.1 hret hn hi (hb A.2.2 hd) hr, hrun, hended, _, _, rfl, hQ, ⟨_, rfl⟩, hW, hsame.mono hK hS⟩
theorem g_retW {vm1 : Vm} (A : Ax p l e R (s.setVm vm1) m args below meth c T locs cells slots B) {w : Value} {t : FieldType} {i : Instr} {Q : Option Value → Heap → List Loc → Prop} {K S n : Nat} (hSi : s.Since vm1 n) (hN : n ≤ T.heap.size) (hd : decode B pc = .ok (i, 1)) (hlk : meth.locks = false) (hret : meth.sig.returnType = some t) (hn : narrow t w = w)
    (hi : (i = .ireturn ∧ (t = .int ∨ t = .boolean ∨ t = .byte ∨ t = .char ∨ t = .short) ∧ ∃ z, w = .int z) ∨ (i = .lreturn ∧ t = .long ∧ ∃ z, w = .long z) ∨ (i = .dreturn ∧ t = .double ∧ ∃ z, w = .double z) ∨ (i = .freturn ∧ t = .float ∧ ∃ z, w = .float z) ∨ (i = .areturn ∧ t.isReference = true ∧ w.isRef = true))
    (hK : cells ≤ K) (hS : slots ≤ S) (hQ : Q (some w) T.heap locs) : Go p e below (fun U o => ∃ v L, o = .returned v ∧ Q v U.heap L ∧ ReturnedEndW s o U L K S) T (mkF m pc ls (w :: st)) := by
  obtain ⟨fs, hr, hrun, hended, hv, h1, h2, hsame⟩ := A.1.leaveW hSi hN (v := some w) (fun h => by rw [hret] at h; cases h) hlk
  exact ⟨_, _, retOut A.1 A.2.1 hret hn hi (hb A.2.2 hd) hr, hrun, hended, _, _, rfl, hQ, hv, h1, h2, hsame.mono hK hS⟩
theorem g_retV (A : Ax p l e R s m args below meth c T locs cells slots B) {Q : Option Value → Heap → List Loc → Prop} {K S : Nat} (hd : decode B pc = .ok (.return_, 1)) (hlk : meth.locks = false) (hret : meth.sig.returnType = none)
    (hK : cells ≤ K) (hS : slots ≤ S) (hQ : Q none T.heap locs) : Go p e below (fun U o => ∃ v L, o = .returned v ∧ Q v U.heap L ∧ FrameEnd s o U L K S) T (mkF m pc ls []) := by
  obtain ⟨fs, hr, hrun, hended, hW, hsame⟩ := A.1.leave (v := none) (fun _ => rfl) hlk
  exact ⟨_, _, A.1.returnOut A.2.1 hret (hb A.2.2 hd) hr, hrun, hended, _, _, rfl, hQ, ⟨_, rfl⟩, hW, hsame.mono hK hS⟩
theorem g_ldcI (A : Ax p l e R s m args below meth c T locs cells slots B) {Z : State} {a0 : Array Value} {own : String} {i : Nat} {v : Int32} (hZ : Z.Warmed39 s.vm) (hown : s.vm.findClass own = some m.cls) (w : (Jvm.Cond.constant own i v).before a0 Z = true) (hd : decode B pc = .ok (.ldc i, 2)) (hp : pc + 2 = pc') (k : Go p e below P T (mkF m pc' ls (.int v :: st))) : Go p e below P T (mkF m pc ls st) := by
  subst hp; exact Go.of (A.1.ldcInt A.2.1 hown (mvT hZ w) (g := mkF m pc ls st) rfl (hb A.2.2 hd)) k
theorem g_ldcD (A : Ax p l e R s m args below meth c T locs cells slots B) {Z : State} {a0 : Array Value} {own : String} {i : Nat} {v : UInt64} (hZ : Z.Warmed39 s.vm) (hown : s.vm.findClass own = some m.cls) (w : (Jvm.Cond.constantDouble own i v).before a0 Z = true) (hd : decode B pc = .ok (.ldc2_w i, 3)) (hp : pc + 3 = pc') (k : Go p e below P T (mkF m pc' ls (.double v :: st))) : Go p e below P T (mkF m pc ls st) := by
  subst hp; exact Go.of (A.1.ldc2DoubleC A.2.1 hown (mvT hZ w) (g := mkF m pc ls st) rfl (hb A.2.2 hd)) k
theorem g_ldcL (A : Ax p l e R s m args below meth c T locs cells slots B) {Z : State} {a0 : Array Value} {own : String} {i : Nat} {v : Int64} (hZ : Z.Warmed39 s.vm) (hown : s.vm.findClass own = some m.cls) (w : (Jvm.Cond.constantLong own i v).before a0 Z = true) (hd : decode B pc = .ok (.ldc2_w i, 3)) (hp : pc + 3 = pc') (k : Go p e below P T (mkF m pc' ls (.long v :: st))) : Go p e below P T (mkF m pc ls st) := by
  subst hp; exact Go.of (A.1.ldc2Long A.2.1 hown (mvT hZ w) (g := mkF m pc ls st) rfl (hb A.2.2 hd)) k
theorem g_nnY (A : Ax p l e R s m args below meth c T locs cells slots B) {o : Int} {b : Addr} (hd : decode B pc = .ok (.ifnonnull o, 3)) (hp : (pc : Int) + o = (pc' : Int)) (k : Go p e below P T (mkF m pc' ls st)) : Go p e below P T (mkF m pc ls (.ref b :: st)) := Go.of (fun _ k' => XT.ifnonnullYes A.1.here A.2.1 rfl rfl (hb A.2.2 hd) rfl (own_off hp).1 (own_off hp).2 k') k
theorem g_nnN (A : Ax p l e R s m args below meth c T locs cells slots B) {o : Int} (hd : decode B pc = .ok (.ifnonnull o, 3)) (hp : pc + 3 = pc') (k : Go p e below P T (mkF m pc' ls st)) : Go p e below P T (mkF m pc ls (.null :: st)) := by
  subst hp; exact Go.of (fun _ k' => XT.ifnonnullNo A.1.here A.2.1 rfl (hb A.2.2 hd) rfl k') k
theorem g_nuY (A : Ax p l e R s m args below meth c T locs cells slots B) {o : Int} (hd : decode B pc = .ok (.ifnull o, 3)) (hp : (pc : Int) + o = (pc' : Int)) (k : Go p e below P T (mkF m pc' ls st)) : Go p e below P T (mkF m pc ls (.null :: st)) := Go.of (fun _ k' => XS.ifnullYes A.1.here A.2.1 rfl rfl (hb A.2.2 hd) rfl (own_off hp).1 (own_off hp).2 k') k
theorem g_nuN (A : Ax p l e R s m args below meth c T locs cells slots B) {o : Int} {b : Addr} (hd : decode B pc = .ok (.ifnull o, 3)) (hp : pc + 3 = pc') (k : Go p e below P T (mkF m pc' ls st)) : Go p e below P T (mkF m pc ls (.ref b :: st)) := by
  subst hp; exact Go.of (fun _ k' => XS.ifnullNo A.1.here A.2.1 rfl (hb A.2.2 hd) rfl k') k
theorem g_acY (A : Ax p l e R s m args below meth c T locs cells slots B) {o : Int} {cd : ClassFile.ACond} {x y : Value} (hd : decode B pc = .ok (.if_acmp cd o, 3)) (h1 : x.isRef = true) (h2 : y.isRef = true) (hc : XT.acmp cd x y = true) (hp : (pc : Int) + o = (pc' : Int)) (k : Go p e below P T (mkF m pc' ls st)) : Go p e below P T (mkF m pc ls (y :: x :: st)) := Go.of (fun _ k' => XT.acmpYes A.1.here A.2.1 rfl rfl (hb A.2.2 hd) rfl h1 h2 hc (own_off hp).1 (own_off hp).2 k') k
theorem g_acN (A : Ax p l e R s m args below meth c T locs cells slots B) {o : Int} {cd : ClassFile.ACond} {x y : Value} (hd : decode B pc = .ok (.if_acmp cd o, 3)) (h1 : x.isRef = true) (h2 : y.isRef = true) (hc : XT.acmp cd x y = false) (hp : pc + 3 = pc') (k : Go p e below P T (mkF m pc' ls st)) : Go p e below P T (mkF m pc ls (y :: x :: st)) := by
  subst hp; exact Go.of (fun _ k' => XT.acmpNo A.1.here A.2.1 rfl (hb A.2.2 hd) rfl h1 h2 hc k') k
/-- an array of n places: its i-th holds f i -/
def Dar (Z : State) (h : Heap) (a : Addr) (ty : FieldType) (n : Nat) (f : Nat → Value) : Prop := ∃ cl : Cell, RoadKit.Arr Z h a cl ty ∧ cl.slots.size = n ∧ n < 2147483648 ∧ ∀ i, i < n → cl.slots[i]? = some (f i)
variable {Z : State} {h h' : Heap} {a b : Addr} {ty : FieldType} {n : Nat} {f g : Nat → Value} {sl : Nat} {v : Value} {ws : List Addr}
theorem Dar.lt (F : Dar Z h a ty n f) : a < h.size := by obtain ⟨cl, A, -⟩ := F; exact A.lt
theorem Dar.ext (E : Ext h h') (F : Dar Z h a ty n f) : Dar Z h' a ty n f := by obtain ⟨cl, A, r⟩ := F; exact ⟨cl, A.ext E, r⟩
theorem Dar.other (W : Wr h h' b sl v) (F : Dar Z h a ty n f) (q : a ≠ b) : Dar Z h' a ty n f := by obtain ⟨cl, A, r⟩ := F; exact ⟨cl, A.other W q, r⟩
theorem Dar.keep (F : Dar Z h a ty n f) (K : Keep h h' ws) (q : a ∉ ws) : Dar Z h' a ty n f := by obtain ⟨cl, A, r⟩ := F; exact ⟨cl, ⟨K.2.1 a cl A.1 q, A.2⟩, r⟩
theorem Dar.congr (F : Dar Z h a ty n f) (q : ∀ i, i < n → f i = g i) : Dar Z h a ty n g := by obtain ⟨cl, A, r1, r2, r3⟩ := F; exact ⟨cl, A, r1, r2, fun i hi => by rw [← q i hi]; exact r3 i hi⟩
theorem Dar.new {cA : ClassId} {z : Int32} (A : RoadKit.Arr Z h a (newA cA ty z) ty) (hz : z.toNatClampNeg = n) : Dar Z h a ty n (fun _ => defaultValue ty) := by
  refine ⟨_, A, (sz_new _ _ _).trans hz, ?_, fun i hi => by subst hz; simp [newA, hi]⟩
  have := z.toInt_lt
  rw [← hz, Int32.toNatClampNeg]; omega
theorem Dar.ne_exa {a0 : Array Value} {k : Nat} {C : String} (F : Dar Z h a ty n f) (E : Exa Z h b C) (wi : (Jvm.Cond.instantiable C k).before a0 Z = true) : a ≠ b := by obtain ⟨cl, A, -⟩ := F; exact fun q => ne_arr E wi A q.symm
theorem own_ne {a b : Nat} {h : Heap} (g : a = h.size) (q : b < h.size) : b ≠ a := by rw [g]; exact Nat.ne_of_lt q
theorem own_clamp {i : Nat} (hi : i < 2147483648) : (Int32.ofNat i).toNatClampNeg = i ∧ ¬ Int32.ofNat i < 0 := by
  have e : (Int32.ofNat i).toInt = i := Int32.toInt_ofNat_of_lt hi
  refine ⟨by rw [Int32.toNatClampNeg, e]; omega, fun q => ?_⟩
  rw [Int32.lt_iff_toInt_lt, e] at q
  have : (0 : Int32).toInt = 0 := rfl
  omega
theorem Dar.set {i : Nat} (F : Dar Z h a ty n f) (W : Wr h h' a i v) (q : ∀ j, j < n → g j = if j = i then v else f j) : Dar Z h' a ty n g := by
  obtain ⟨cl, A, r1, r2, r3⟩ := F
  refine ⟨_, A.same W, (sz_set _ _ _).trans r1, r2, fun j hj => ?_⟩
  rw [q j hj]
  by_cases e : j = i
  · subst e; rw [if_pos rfl]; simp [Cell.setSlot, r1, hj]
  · rw [if_neg e]; exact (Array.getElem?_setIfInBounds_ne (Ne.symm e)).trans (r3 j hj)
theorem own_in {cl : Cell} {i : Nat} (S : cl.slots.size = n) (hn : n < 2147483648) (hi : i < n) : ¬ (Int32.ofNat i < 0 ∨ cl.slots.size ≤ (Int32.ofNat i).toNatClampNeg) := by
  obtain ⟨q1, q2⟩ := own_clamp (i := i) (by omega)
  rw [q1, S]; exact fun z => z.elim q2 (by omega)
theorem g_daload (A : Ax p l e R s m args below meth c T locs cells slots B) (hZ : Z.Warmed39 s.vm) (eT : T.heap = h) {j : Int32} {i : Nat} {x : UInt64} (F : Dar Z h a .double n f) (hi : i < n) (hj : j = Int32.ofNat i) (hv : f i = .double x) (hd : decode B pc = .ok (.daload, 1)) (hp : pc + 1 = pc') (k : Go p e below P T (mkF m pc' ls (.double x :: st))) : Go p e below P T (mkF m pc ls (.int j :: .ref a :: st)) := by
  subst hp hj
  obtain ⟨cl, A2, r1, r2, r3⟩ := F
  have q := (own_clamp (i := i) (by omega)).1
  exact Go.of (fun t k' => A.1.daload A.2.1 (j := Int32.ofNat i) (v := .double x) (by rw [eT]; exact A2.1) (State.isArrayOf_alike hZ.alike A2.2.1) A2.2.2 (own_in r1 r2 hi) (by rw [q, ← hv]; exact r3 i hi) (g := mkF m pc ls (.int (Int32.ofNat i) :: .ref a :: st)) rfl rfl (hb A.2.2 hd) t k') k
theorem g_iaload (A : Ax p l e R s m args below meth c T locs cells slots B) (hZ : Z.Warmed39 s.vm) (eT : T.heap = h) {j : Int32} {i : Nat} {x : Int32} (F : Dar Z h a .int n f) (hi : i < n) (hj : j = Int32.ofNat i) (hv : f i = .int x) (hd : decode B pc = .ok (.iaload, 1)) (hp : pc + 1 = pc') (k : Go p e below P T (mkF m pc' ls (.int x :: st))) : Go p e below P T (mkF m pc ls (.int j :: .ref a :: st)) := by
  subst hp hj
  obtain ⟨cl, A2, r1, r2, r3⟩ := F
  have q := (own_clamp (i := i) (by omega)).1
  exact Go.of (fun t k' => A.1.iaload A.2.1 (j := Int32.ofNat i) (v := .int x) (by rw [eT]; exact A2.1) (State.isArrayOf_alike hZ.alike A2.2.1) A2.2.2 (own_in r1 r2 hi) (by rw [q, ← hv]; exact r3 i hi) (g := mkF m pc ls (.int (Int32.ofNat i) :: .ref a :: st)) rfl rfl (hb A.2.2 hd) t k') k
theorem g_baload (A : Ax p l e R s m args below meth c T locs cells slots B) (hZ : Z.Warmed39 s.vm) (eT : T.heap = h) {j : Int32} {i : Nat} {x : Int32} (F : Dar Z h a .boolean n f) (hi : i < n) (hj : j = Int32.ofNat i) (hv : f i = .int x) (hd : decode B pc = .ok (.baload, 1)) (hp : pc + 1 = pc') (k : Go p e below P T (mkF m pc' ls (.int x :: st))) : Go p e below P T (mkF m pc ls (.int j :: .ref a :: st)) := by
  subst hp hj
  obtain ⟨cl, A2, r1, r2, r3⟩ := F
  have q := (own_clamp (i := i) (by omega)).1
  exact Go.of (fun t k' => A.1.baloadBooleans A.2.1 (j := Int32.ofNat i) (v := .int x) (by rw [eT]; exact A2.1) (State.isArrayOf_alike hZ.alike A2.2.1) A2.2.2 (own_in r1 r2 hi) (by rw [q, ← hv]; exact r3 i hi) (g := mkF m pc ls (.int (Int32.ofNat i) :: .ref a :: st)) rfl rfl (hb A.2.2 hd) t k') k
theorem g_baloadB (A : Ax p l e R s m args below meth c T locs cells slots B) (hZ : Z.Warmed39 s.vm) (eT : T.heap = h) {j : Int32} {i : Nat} {x : Int32} (F : Dar Z h a .byte n f) (hi : i < n) (hj : j = Int32.ofNat i) (hv : f i = .int x) (hd : decode B pc = .ok (.baload, 1)) (hp : pc + 1 = pc') (k : Go p e below P T (mkF m pc' ls (.int x :: st))) : Go p e below P T (mkF m pc ls (.int j :: .ref a :: st)) := by
  subst hp hj
  obtain ⟨cl, A2, r1, r2, r3⟩ := F
  have q := (own_clamp (i := i) (by omega)).1
  exact Go.of (fun t k' => A.1.baloadBytes A.2.1 (j := Int32.ofNat i) (v := .int x) (by rw [eT]; exact A2.1) (State.isArrayOf_alike hZ.alike A2.2.1) A2.2.2 (own_in r1 r2 hi) (by rw [q, ← hv]; exact r3 i hi) (g := mkF m pc ls (.int (Int32.ofNat i) :: .ref a :: st)) rfl rfl (hb A.2.2 hd) t k') k
theorem g_alen (A : Ax p l e R s m args below meth c T locs cells slots B) (hZ : Z.Warmed39 s.vm) (eT : T.heap = h) (F : Dar Z h a ty n f) (hd : decode B pc = .ok (.arraylength, 1)) {z : Int32} (hz : Int32.ofNat n = z) (hp : pc + 1 = pc') (k : Go p e below P T (mkF m pc' ls (.int z :: st))) : Go p e below P T (mkF m pc ls (.ref a :: st)) := by
  subst hp hz
  obtain ⟨cl, A2, r1, r2, r3⟩ := F
  exact Go.of (fun t k' => A.1.arraylength A.2.1 (cell := cl) (by rw [eT]; exact A2.1) (State.isArrayOf_alike hZ.alike A2.2.1) (g := mkF m pc ls (.ref a :: st)) rfl (rest := st) rfl (hb A.2.2 hd) t (by rw [r1]; exact k')) k
theorem s_dastore (A : Ax p l e R s m args below meth c T locs cells slots B) (hZ : Z.Warmed39 s.vm) (eT : T.heap = h) {j : Int32} {i : Nat} {x : UInt64} (F : Dar Z h a .double n f) (hi : i < n) (hj : j = Int32.ofNat i) (hd : decode B pc = .ok (.dastore, 1)) (hp : pc + 1 = pc') :
    ∃ T' h', Ax p l e R s m args below meth c T' (locs ++ [⟨a, i⟩]) cells slots B ∧ T'.heap = h' ∧ Wr h h' a i (.double x) ∧ ∀ {P : State → Outcome → Prop}, Go p e below P T' (mkF m pc' ls st) → Go p e below P T (mkF m pc ls (.double x :: .int j :: .ref a :: st)) := by
  subst hp hj
  obtain ⟨cl, A2, r1, r2, r3⟩ := F
  have q := (own_clamp (i := i) (by omega)).1
  obtain ⟨X', st'⟩ := A.1.dastore A.2.1 (by rw [eT]; exact A2.1) (State.isArrayOf_alike hZ.alike A2.2.1) A2.2.2 (own_in r1 r2 hi) (x := x) (g := mkF m pc ls (.double x :: .int (Int32.ofNat i) :: .ref a :: st)) rfl rfl (hb A.2.2 hd)
  rw [q] at X' st'
  exact ⟨_, _, ⟨X', A.2⟩, rfl, ⟨cl, A2.1, A2.plain, by rw [r1]; exact hi, by rw [← eT]; rfl⟩, fun k => Go.of st' k⟩
theorem s_iastore (A : Ax p l e R s m args below meth c T locs cells slots B) (hZ : Z.Warmed39 s.vm) (eT : T.heap = h) {j : Int32} {i : Nat} {x : Int32} (F : Dar Z h a .int n f) (hi : i < n) (hj : j = Int32.ofNat i) (hd : decode B pc = .ok (.iastore, 1)) (hp : pc + 1 = pc') :
    ∃ T' h', Ax p l e R s m args below meth c T' (locs ++ [⟨a, i⟩]) cells slots B ∧ T'.heap = h' ∧ Wr h h' a i (.int x) ∧ ∀ {P : State → Outcome → Prop}, Go p e below P T' (mkF m pc' ls st) → Go p e below P T (mkF m pc ls (.int x :: .int j :: .ref a :: st)) := by
  subst hp hj
  obtain ⟨cl, A2, r1, r2, r3⟩ := F
  have q := (own_clamp (i := i) (by omega)).1
  obtain ⟨T', h', X', e', W, st'⟩ := stI A.1 A.2.1 hZ eT A2 (own_in r1 r2 hi) (x := x) (g := mkF m pc ls (.int x :: .int (Int32.ofNat i) :: .ref a :: st)) rfl rfl (hb A.2.2 hd)
  rw [q] at X' W
  exact ⟨_, _, ⟨X', A.2⟩, e', W, fun k => Go.of st' k⟩
theorem s_zastore (A : Ax p l e R s m args below meth c T locs cells slots B) (hZ : Z.Warmed39 s.vm) (eT : T.heap = h) {j : Int32} {i : Nat} {x : Int32} (F : Dar Z h a .boolean n f) (hi : i < n) (hj : j = Int32.ofNat i) (hx1 : narrow .boolean (.int x) = .int x) (hd : decode B pc = .ok (.bastore, 1)) (hp : pc + 1 = pc') :
    ∃ T' h', Ax p l e R s m args below meth c T' (locs ++ [⟨a, i⟩]) cells slots B ∧ T'.heap = h' ∧ Wr h h' a i (.int x) ∧ ∀ {P : State → Outcome → Prop}, Go p e below P T' (mkF m pc' ls st) → Go p e below P T (mkF m pc ls (.int x :: .int j :: .ref a :: st)) := by
  subst hp hj
  obtain ⟨cl, A2, r1, r2, r3⟩ := F
  have q := (own_clamp (i := i) (by omega)).1
  obtain ⟨T', h', X', e', W, st'⟩ := stZ A.1 A.2.1 hZ eT A2 (own_in r1 r2 hi) (x := x) (g := mkF m pc ls (.int x :: .int (Int32.ofNat i) :: .ref a :: st)) rfl rfl (hb A.2.2 hd)
  have q2 : nar .boolean x = x := Value.int.inj hx1
  rw [q] at X' W; rw [q2] at W
  exact ⟨_, _, ⟨X', A.2⟩, e', W, fun k => Go.of st' k⟩
theorem s_bastoreB (A : Ax p l e R s m args below meth c T locs cells slots B) (hZ : Z.Warmed39 s.vm) (eT : T.heap = h) {j : Int32} {i : Nat} {x : Int32} (F : Dar Z h a .byte n f) (hi : i < n) (hj : j = Int32.ofNat i) (hd : decode B pc = .ok (.bastore, 1)) (hp : pc + 1 = pc') :
    ∃ T' h', Ax p l e R s m args below meth c T' (locs ++ [⟨a, i⟩]) cells slots B ∧ T'.heap = h' ∧ Wr h h' a i (.int (nar .byte x)) ∧ ∀ {P : State → Outcome → Prop}, Go p e below P T' (mkF m pc' ls st) → Go p e below P T (mkF m pc ls (.int x :: .int j :: .ref a :: st)) := by
  subst hp hj
  obtain ⟨cl, A2, r1, r2, r3⟩ := F
  have q := (own_clamp (i := i) (by omega)).1
  obtain ⟨T', h', X', e', W, st'⟩ := stB A.1 A.2.1 hZ eT A2 (own_in r1 r2 hi) (x := x) (g := mkF m pc ls (.int x :: .int (Int32.ofNat i) :: .ref a :: st)) rfl rfl (hb A.2.2 hd)
  rw [q] at X' W
  exact ⟨_, _, ⟨X', A.2⟩, e', W, fun k => Go.of st' k⟩
end own_go
section own_arr
variable {p : Program} {l : Launch} {e : Env} {R : Room} {s : State} {m : MethodId} {args : Array Value} {below : List Frame} {meth : Method} {c : Code} {T : State} {locs : List Loc} {cells slots : Nat} {P : State → Outcome → Prop} {B : ByteArray} {pc pc' : Nat} {ls ls' : Array Slot} {st : List Value} {Z : State} {h h' : Heap} {a b : Addr}
/-- the array's class is that of arrays of double[] -/
def Ovd (Z : State) (h : Heap) (a : Addr) : Prop := ∃ cl : Cell, h[a]? = some cl ∧ OvrA Z cl.cls .double "[D"
theorem Ovd.lt (F : Ovd Z h a) : a < h.size := by obtain ⟨cl, h1, -⟩ := F; exact (Array.getElem?_eq_some_iff.mp h1).1
theorem Ovd.ext (E : Ext h h') (F : Ovd Z h a) : Ovd Z h' a := by obtain ⟨cl, h1, h2⟩ := F; exact ⟨cl, E.2 _ _ h1, h2⟩
theorem Ovd.wr {sl : Nat} {v : Value} (W : Wr h h' b sl v) (F : Ovd Z h a) : Ovd Z h' a := by
  obtain ⟨cl, h1, h2⟩ := F
  obtain ⟨c', e1, e2, -⟩ := wr_at W h1
  exact ⟨c', e1, by rw [e2]; exact h2⟩
theorem Ovd.keep {ws : List Addr} (F : Ovd Z h a) (K : Keep h h' ws) : Ovd Z h' a := by
  obtain ⟨cl, h1, h2⟩ := F
  obtain ⟨c', e1, e2, -⟩ := K.2.2 a cl h1
  exact ⟨c', e1, by rw [e2]; exact h2⟩
theorem s_aastore (A : Ax p l e R s m args below meth c T locs cells slots B) (hZ : Z.Warmed39 s.vm) (eT : T.heap = h) {n : Nat} {f : Nat → Value} {j : Int32} {i : Nat} {y : Addr} (F : Dar Z h a (.array .double) n f) (O : Ovd Z h a) (I : Exa Z h y "[D") (hi : i < n) (hj : j = Int32.ofNat i) (hd : decode B pc = .ok (.aastore, 1)) (hp : pc + 1 = pc') :
    ∃ T' h', Ax p l e R s m args below meth c T' (locs ++ [⟨a, i⟩]) cells slots B ∧ T'.heap = h' ∧ Wr h h' a i (.ref y) ∧ ∀ {P : State → Outcome → Prop}, Go p e below P T' (mkF m pc' ls st) → Go p e below P T (mkF m pc ls (.ref y :: .int j :: .ref a :: st)) := by
  subst hp hj
  obtain ⟨cl, A2, r1, r2, r3⟩ := F
  obtain ⟨cl', o1, o2⟩ := O
  cases A2.1.symm.trans o1
  have q := (own_clamp (i := i) (by omega)).1
  obtain ⟨T', h', X', e', W, st'⟩ := stR A.1 A.2.1 hZ eT A2 (own_in r1 r2 hi) rfl (Sto.ofVA A2 rfl o2 (Ins.self I)) (g := mkF m pc ls (.ref y :: .int (Int32.ofNat i) :: .ref a :: st)) rfl rfl (hb A.2.2 hd)
  rw [q] at X' W
  exact ⟨_, _, ⟨X', A.2⟩, e', W, fun k => Go.of st' k⟩
theorem g_aaload (A : Ax p l e R s m args below meth c T locs cells slots B) (hZ : Z.Warmed39 s.vm) (eT : T.heap = h) {n : Nat} {f : Nat → Value} {j : Int32} {i : Nat} {v : Value} (F : Dar Z h a (.array .double) n f) (hi : i < n) (hj : j = Int32.ofNat i) (hv : f i = v) (hd : decode B pc = .ok (.aaload, 1)) (hp : pc + 1 = pc') (k : Go p e below P T (mkF m pc' ls (v :: st))) : Go p e below P T (mkF m pc ls (.int j :: .ref a :: st)) := by
  subst hp hj
  obtain ⟨cl, A2, r1, r2, r3⟩ := F
  have q := (own_clamp (i := i) (by omega)).1
  exact Go.of (fun t k' => A.1.aaload A.2.1 (j := Int32.ofNat i) (v := v) (by rw [eT]; exact A2.1) (State.isArrayOf_alike hZ.alike A2.2.1) rfl A2.2.2 (own_in r1 r2 hi) (by rw [q, ← hv]; exact r3 i hi) (g := mkF m pc ls (.int (Int32.ofNat i) :: .ref a :: st)) rfl rfl (hb A.2.2 hd) t k') k
theorem own_rg (x : Nat → UInt64) (n i : Nat) (hi : i < n) : ((List.range n).map fun j => Value.double (x j)).getD i (.double 0) = .double (x i) := by
  simp [hi]
theorem own_splice (x y : Nat → UInt64) (n n' sp nn i : Nat) (h4 : sp + nn ≤ n) (h5 : nn ≤ n') (hi : i < n') :
    (((List.range n').map (fun j => Value.double (y j))).take 0 ++ (List.range nn).map (fun i => ((List.range n).map fun j => Value.double (x j)).getD (sp + i) (.double 0)) ++ ((List.range n').map (fun j => Value.double (y j))).drop (0 + nn)).getD i (.double 0) = .double (if i < nn then x (sp + i) else y i) := by
  rw [List.getD_eq_getElem?_getD, List.take_zero, List.nil_append, List.getElem?_append]
  by_cases q : i < nn
  · rw [if_pos (by simpa using q), if_pos q]
    simp [q, show sp + i < n by omega]
  · rw [if_neg (by simpa using q), if_neg q]
    simp only [List.length_map, List.length_range, Nat.zero_add, List.getElem?_drop]
    rw [show nn + (i - nn) = i by omega]
    simp [hi]
theorem own_arv {n : Nat} {x : Nat → UInt64} (F : Dar Z h a .double n (fun j => .double (x j))) : ∃ k, Arv Z h a k .double (Int32.ofNat n) ((List.range n).map fun j => Value.double (x j)) (.double 0) := by
  obtain ⟨ca, A1, r1, r2, r3⟩ := F
  obtain ⟨c1, c2⟩ := own_clamp (i := n) r2
  refine ⟨ca.cls, ca, A1, rfl, by rw [c1]; exact r1, c2, fun k hk => ?_, fun i hi => ?_⟩
  · rw [own_rg x n k (by omega)]; exact r3 k (by omega)
  · rw [own_rg x n i (by omega)]; rfl
theorem s_acopy (A : Ax p l e R s m args below meth c T locs cells slots B) (hZ : Z.Warmed39 s.vm) (eT : T.heap = h) {a0 : Array Value} {own : String} {index : Nat} (hown : s.vm.findClass own = some m.cls) (w1 : (Jvm.Cond.methodLink own index Jvm.Stand.acN).before a0 Z = true) (w2 : (Jvm.Cond.native Jvm.Stand.acN).before a0 Z = true) (w3 : (Jvm.Cond.static Jvm.Stand.acN).before a0 Z = true) (w4 : (Jvm.Cond.initialized "java/lang/System").before a0 Z = true)
    {n n' sp nn n0 : Nat} {x y : Nat → UInt64} (F : Dar Z h a .double n (fun j => .double (x j))) (G : Dar Z h b .double n' (fun j => .double (y j))) (h4 : sp + nn ≤ n) (h5 : nn ≤ n') (N : Fr n0 locs) (ge : n0 ≤ b) {j1 j2 : Int32} (e1 : j1 = Int32.ofNat sp) (e2 : j2 = Int32.ofNat nn) (hsize : ls.size = c.maxLocals) (hd : decode B pc = .ok (.invokestatic index, 3)) (hp : pc + 3 = pc') (hf : 1 ≤ R.frames) {W : Nat} (hW : 2 * 0 + (st.map fun v => v.category).sum ≤ W) (hlo : W + (nativeFrameWords "java/lang/System" "arraycopy" 5 + 11) ≤ R.locals) :
    ∃ T' h' L, Ax p l e R s m args below meth c T' L cells slots B ∧ T'.heap = h' ∧ Fr n0 L ∧ Keep h h' [b] ∧ Dar Z h' b .double n' (fun j => .double (if j < nn then x (sp + j) else y j)) ∧ ∀ {P : State → Outcome → Prop}, Go p e below P T' (mkF m pc' ls st) → Go p e below P T (mkF m pc ls (.int j2 :: .int (0 : Int32) :: .ref b :: .int j1 :: .ref a :: st)) := by
  subst hp e1 e2
  have hn : n < 2147483648 := by obtain ⟨_, _, _, r, _⟩ := F; exact r
  have hn' : n' < 2147483648 := by obtain ⟨_, _, _, r, _⟩ := G; exact r
  obtain ⟨ka, FA⟩ := own_arv F
  obtain ⟨kb, GB⟩ := own_arv G
  obtain ⟨c1, c1'⟩ := own_clamp (i := sp) (by omega)
  obtain ⟨c2, c2'⟩ := own_clamp (i := nn) (by omega)
  obtain ⟨c3, c3'⟩ := own_clamp (i := n) (by omega)
  obtain ⟨c4, c4'⟩ := own_clamp (i := n') (by omega)
  have c0 : (0 : Int32).toNatClampNeg = 0 := rfl
  obtain ⟨T', h', L, X', e', N', K, D, st'⟩ := cpA A.1 A.2.1 hZ hown w1 w2 w3 w4 eT FA GB (Or.inl ⟨rfl, rfl⟩) (sp := Int32.ofNat sp) (dp := (0 : Int32)) (nn := Int32.ofNat nn) c1' (by decide) c2' (by rw [c1, c2, c3]; exact h4) (by rw [c0, c2, c4]; omega) rfl (by rw [c0, c2]; simp; exact h5) N ge (g := mkF m pc ls (.int (Int32.ofNat nn) :: .int (0 : Int32) :: .ref b :: .int (Int32.ofNat sp) :: .ref a :: st)) rfl hsize rfl (hb A.2.2 hd) hf hW hlo
  refine ⟨T', h', L, ⟨X', A.2⟩, e', N', K, ?_, fun k => Go.of st' k⟩
  obtain ⟨cd, D1, -, s1, -, s3, -⟩ := D
  refine ⟨cd, D1, by rw [s1, c4], hn', fun i hi => ?_⟩
  rw [s3 i (by rw [s1, c4]; exact hi), c0, c1, c2]
  exact congrArg some (own_splice x y n n' sp nn i h4 h5 hi)
end own_arr
theorem own_succ (i : Nat) : Int32.ofNat i + Int32.ofInt 1 = Int32.ofNat (i + 1) := by
  show Int32.ofNat i + Int32.ofNat 1 = Int32.ofNat (i + 1)
  rw [Int32.ofNat_add]
theorem own_olt {i n : Nat} (h : i < n) (hn : n < 2147483648) : Int32.ofNat i < Int32.ofNat n := by
  rw [Int32.lt_iff_toInt_lt, Int32.toInt_ofNat_of_lt (by omega), Int32.toInt_ofNat_of_lt hn]; omega
theorem own_onl {i n : Nat} (h : n ≤ i) (hn : i < 2147483648) : ¬ Int32.ofNat i < Int32.ofNat n := by
  rw [Int32.lt_iff_toInt_lt, Int32.toInt_ofNat_of_lt hn, Int32.toInt_ofNat_of_lt (by omega)]; omega
theorem own_osub {i j : Nat} (h : i ≤ j) : Int32.ofNat j - Int32.ofNat i = Int32.ofNat (j - i) := by
  have e : Int32.ofNat j = Int32.ofNat (j - i) + Int32.ofNat i := by rw [← Int32.ofNat_add]; congr 1; omega
  rw [e, Int32.add_sub_cancel]
theorem own_oinj {i j : Nat} (hi : i < 2147483648) (hj : j < 2147483648) (h : Int32.ofNat i = Int32.ofNat j) : i = j := by
  have e := congrArg Int32.toInt h
  rw [Int32.toInt_ofNat_of_lt hi, Int32.toInt_ofNat_of_lt hj] at e; omega
theorem own_pred {b : Nat} (h : 0 < b) : Int32.ofNat b - (1 : Int32) = Int32.ofNat (b - 1) := own_osub (i := 1) h
theorem own_pred' {b : Nat} (h : 0 < b) : Int32.ofNat b + Int32.ofInt (-1) = Int32.ofNat (b - 1) := by
  rw [← own_pred h, Int32.sub_eq_add_neg]; rfl
theorem own_ncl {u w N : Nat} (h : ¬ (u = 0 ∧ w = N)) (hw : w ≤ N) (hN : N < 2147483648) (hu : u ≤ w) (q : Int32.ofNat u = 0) : ¬ Int32.ofNat w = Int32.ofNat N := fun z => h ⟨own_oinj (j := 0) (by omega) (by omega) q, own_oinj (by omega) hN z⟩
/-- the double is a zero -/
abbrev own_zr (x : UInt64) : Prop := FP.dcmp x (0 : UInt64) = some .eq
/-- a, b: what the two searches find between F and E -/
def own_S (x : Nat → UInt64) (F E a b : Nat) : Prop := F ≤ a ∧ a ≤ b ∧ b ≤ E ∧ (∀ k, F ≤ k → k < a → own_zr (x k)) ∧ (∀ k, b ≤ k → k < E → own_zr (x k)) ∧ (a < b → ¬ own_zr (x a) ∧ ¬ own_zr (x (b - 1)))
def own_s (a b F : Nat) : Int32 := if Int32.ofNat a < Int32.ofNat b then (((0 : Int32) + Int32.ofNat a) - Int32.ofNat F) else (0 : Int32)
theorem d9_0 : decode jdk_65_method_131_code 0 = .ok (.iload_n 1, 1) := by decide +kernel
theorem d9_1 : decode jdk_65_method_131_code 1 = .ok (.iload_n 0, 1) := by decide +kernel
theorem d9_2 : decode jdk_65_method_131_code 2 = .ok (.if_icmp .ge 35, 3) := by decide +kernel
theorem d9_5 : decode jdk_65_method_131_code 5 = .ok (.new 43, 3) := by decide +kernel
theorem d9_8 : decode jdk_65_method_131_code 8 = .ok (.dup, 1) := by decide +kernel
theorem d9_9 : decode jdk_65_method_131_code 9 = .ok (.new 45, 3) := by decide +kernel
theorem d9_12 : decode jdk_65_method_131_code 12 = .ok (.dup, 1) := by decide +kernel
theorem d9_13 : decode jdk_65_method_131_code 13 = .ok (.invokespecial 47, 3) := by decide +kernel
theorem d9_16 : decode jdk_65_method_131_code 16 = .ok (.iload_n 0, 1) := by decide +kernel
theorem d9_17 : decode jdk_65_method_131_code 17 = .ok (.invokevirtual 54, 3) := by decide +kernel
theorem d9_20 : decode jdk_65_method_131_code 20 = .ok (.ldc_w 337, 3) := by decide +kernel
theorem d9_23 : decode jdk_65_method_131_code 23 = .ok (.invokevirtual 50, 3) := by decide +kernel
theorem d9_26 : decode jdk_65_method_131_code 26 = .ok (.iload_n 1, 1) := by decide +kernel
theorem d9_27 : decode jdk_65_method_131_code 27 = .ok (.invokevirtual 54, 3) := by decide +kernel
theorem d9_30 : decode jdk_65_method_131_code 30 = .ok (.invokevirtual 61, 3) := by decide +kernel
theorem d9_33 : decode jdk_65_method_131_code 33 = .ok (.invokespecial 65, 3) := by decide +kernel
theorem d9_36 : decode jdk_65_method_131_code 36 = .ok (.athrow, 1) := by decide +kernel
theorem d9_37 : decode jdk_65_method_131_code 37 = .ok (.return_, 1) := by decide +kernel
theorem pn_0 : plainName "java/util/Arrays" = true := by first | (simp [plainName, overriddenIn]; done) | decide +kernel
theorem ef1 (m : MethodId) (q0 : Int32) (q1 : Int32) : entryFrame m #[(.int q0), (.int q1)] 2 = mkF m 0 #[.val (.int q0), .val (.int q1)] [] := by first | (simp [entryFrame, mkF, argsToLocals, Value.category]; done) | rfl
def Q9 (Z : State) (q0 : Int32) (q1 : Int32) (h0 : Heap) (n0 : Nat) (v : Option Value) (h : Heap) (L : List Loc) : Prop := v = none ∧ Fr n0 L ∧ h = h0
set_option maxRecDepth 65536 in
set_option maxHeartbeats 40000000 in
theorem rm9 (l : Launch) (Z : State) (a0 : Array Value) (hw : ∀ d ∈ tables_1, d.before a0 Z = true) (ws : List Jvm.Cond) (q0 : Int32) (q1 : Int32) (h0 : Heap) (n0 : Nat) (Z0 : n0 ≤ h0.size) (h1 : ¬ q1 < q0) :
    MetFree l (⟨"java/util/Arrays", "checkLength", "(II)V"⟩ : MethodName) (head1 (Jvm.Cond.code (⟨"java/util/Arrays", "checkLength", "(II)V"⟩ : MethodName) jdk_65_method_131_code 2 none :: ws) ({ frames := 0, cells := 0, slots := 0, locals := 0 } : Room)) (fun a U => a = #[(.int q0), (.int q1)] ∧ Z.Warmed39 U.vm ∧ U.heap = h0) (fun _ _ _ _ _ => True) (fun _ U o U' => ∃ v L, o = .returned v ∧ Q9 Z q0 q1 h0 n0 v U'.heap L ∧ FrameEnd U o U' L 0 0) := by
  refine MetFree.of_bodySF (plainFor_of_name pn_0) hisR ?_
  intro p e s m args below meth c s₁ Bd hml0 hP hK
  obtain ⟨rfl, hZ, hh⟩ := hP
  have hx := Bd.exec
  have hby := Bd.bytes
  have hml : c.maxLocals = 2 := hml0
  have hown : s.vm.findClass "java/util/Arrays" = some m.cls := findClass_of_methodNamed Bd.named
  have hnm := (name_of_methodNamed Bd.named Bd.method).1
  have X0 : Stand p l e ({ frames := 0, cells := 0, slots := 0, locals := 0 } : Room) s m #[(.int q0), (.int q1)] below meth c s₁ [] 0 0 := Stand.of_body Bd
  have e0 : s₁.heap = h0 := by rw [← hh, Bd.state]; rfl
  have N0 := Fr.nil n0
  have A0 := (⟨X0, hx, hby⟩ : Ax _ _ _ _ _ _ _ _ _ _ _ _ _ _ _)
  show Go p e below (fun U o => ∃ v L, o = .returned v ∧ Q9 Z q0 q1 h0 n0 v U.heap L ∧ FrameEnd s o U L 0 0) s₁ (entryFrame m #[(.int q0), (.int q1)] 2)
  refine Go.cast (ef1 m q0 q1) ?_
  refine g_iloadN A0 d9_0 rfl (pc' := 1) rfl ?_
  refine g_iloadN A0 d9_1 rfl (pc' := 2) rfl ?_
  refine g_icY A0 d9_2 (c2_ge_t h1) (pc' := 37) rfl ?_
  exact g_retV (Q := Q9 Z q0 q1 h0 n0) A0 d9_37 Bd.notSynchronized Bd.returns (by decide) (by decide) (by rw [e0]; exact ⟨rfl, N0, rfl⟩)
theorem d10_0 : decode jdk_29_method_69_code 0 = .ok (.iload_n 0, 1) := by decide +kernel
theorem d10_1 : decode jdk_29_method_69_code 1 = .ok (.iload_n 1, 1) := by decide +kernel
theorem d10_2 : decode jdk_29_method_69_code 2 = .ok (.if_icmp .gt 7, 3) := by decide +kernel
theorem d10_5 : decode jdk_29_method_69_code 5 = .ok (.iload_n 0, 1) := by decide +kernel
theorem d10_6 : decode jdk_29_method_69_code 6 = .ok (.goto 4, 3) := by decide +kernel
theorem d10_9 : decode jdk_29_method_69_code 9 = .ok (.iload_n 1, 1) := by decide +kernel
theorem d10_10 : decode jdk_29_method_69_code 10 = .ok (.ireturn, 1) := by decide +kernel
theorem ef2 (m : MethodId) (u : Nat) (w : Nat) : entryFrame m #[(.int (Int32.ofNat u)), (.int (Int32.ofNat w))] 2 = mkF m 0 #[.val (.int (Int32.ofNat u)), .val (.int (Int32.ofNat w))] [] := by first | (simp [entryFrame, mkF, argsToLocals, Value.category]; done) | rfl
def Q10 (Z : State) (u : Nat) (w : Nat) (h0 : Heap) (n0 : Nat) (v : Option Value) (h : Heap) (L : List Loc) : Prop := v = some (.int (Int32.ofNat w)) ∧ Fr n0 L ∧ h = h0
set_option maxRecDepth 65536 in
set_option maxHeartbeats 40000000 in
theorem rm10 (l : Launch) (Z : State) (a0 : Array Value) (hw : ∀ d ∈ tables_1, d.before a0 Z = true) (ws : List Jvm.Cond) (u : Nat) (w : Nat) (h0 : Heap) (n0 : Nat) (Z0 : n0 ≤ h0.size) (h1 : w ≤ u) (h2 : u < 2147483648) :
    MetFree l (⟨"java/lang/Math", "min", "(II)I"⟩ : MethodName) (head1 (Jvm.Cond.code (⟨"java/lang/Math", "min", "(II)I"⟩ : MethodName) jdk_29_method_69_code 2 (some .int) :: ws) ({ frames := 0, cells := 0, slots := 0, locals := 0 } : Room)) (fun a U => a = #[(.int (Int32.ofNat u)), (.int (Int32.ofNat w))] ∧ Z.Warmed39 U.vm ∧ U.heap = h0) (fun _ _ _ _ _ => True) (fun _ U o U' => ∃ v L, o = .returned v ∧ Q10 Z u w h0 n0 v U'.heap L ∧ FrameEnd U o U' L 0 0) := by
  refine MetFree.of_bodySF (by decide +kernel) hisR ?_
  intro p e s m args below meth c s₁ Bd hml0 hP hK
  obtain ⟨rfl, hZ, hh⟩ := hP
  have hx := Bd.exec
  have hby := Bd.bytes
  have hml : c.maxLocals = 2 := hml0
  have hown : s.vm.findClass "java/lang/Math" = some m.cls := findClass_of_methodNamed Bd.named
  have hnm := (name_of_methodNamed Bd.named Bd.method).1
  have X0 : Stand p l e ({ frames := 0, cells := 0, slots := 0, locals := 0 } : Room) s m #[(.int (Int32.ofNat u)), (.int (Int32.ofNat w))] below meth c s₁ [] 0 0 := Stand.of_body Bd
  have e0 : s₁.heap = h0 := by rw [← hh, Bd.state]; rfl
  have N0 := Fr.nil n0
  have A0 := (⟨X0, hx, hby⟩ : Ax _ _ _ _ _ _ _ _ _ _ _ _ _ _ _)
  show Go p e below (fun U o => ∃ v L, o = .returned v ∧ Q10 Z u w h0 n0 v U.heap L ∧ FrameEnd s o U L 0 0) s₁ (entryFrame m #[(.int (Int32.ofNat u)), (.int (Int32.ofNat w))] 2)
  refine Go.cast (ef2 m u w) ?_
  refine g_iloadN A0 d10_0 rfl (pc' := 1) rfl ?_
  refine g_iloadN A0 d10_1 rfl (pc' := 2) rfl ?_
  by_cases hcm : (Int32.ofNat w) < (Int32.ofNat u)
  · skip
    refine g_icY A0 d10_2 (c2_gt_t hcm) (pc' := 9) rfl ?_
    refine g_iloadN A0 d10_9 rfl (pc' := 10) rfl ?_
    exact g_ret (Q := Q10 Z u w h0 n0) A0 d10_10 Bd.notSynchronized Bd.returns rfl (Or.inl ⟨rfl, by simp, _, rfl⟩) (by decide) (by decide) (by rw [e0]; exact ⟨rfl, N0, rfl⟩)
  · skip
    have euw : u = w := Nat.le_antisymm (Nat.le_of_not_lt fun z => hcm (own_olt z h2)) h1
    refine g_icN A0 d10_2 (c2_gt_f hcm) (pc' := 5) rfl ?_
    refine g_iloadN A0 d10_5 rfl (pc' := 6) rfl ?_
    refine g_goto A0 d10_6 (pc' := 10) rfl ?_
    exact g_ret (Q := Q10 Z u w h0 n0) A0 d10_10 Bd.notSynchronized Bd.returns rfl (Or.inl ⟨rfl, by simp, _, rfl⟩) (by decide) (by decide) (by rw [e0]; exact ⟨(by rw [euw]), N0, rfl⟩)
theorem d8_0 : decode jdk_65_method_145_code 0 = .ok (.iload_n 1, 1) := by decide +kernel
theorem d8_1 : decode jdk_65_method_145_code 1 = .ok (.iload_n 2, 1) := by decide +kernel
theorem d8_2 : decode jdk_65_method_145_code 2 = .ok (.invokestatic 343, 3) := by decide +kernel
theorem d8_5 : decode jdk_65_method_145_code 5 = .ok (.iload_n 2, 1) := by decide +kernel
theorem d8_6 : decode jdk_65_method_145_code 6 = .ok (.iload_n 1, 1) := by decide +kernel
theorem d8_7 : decode jdk_65_method_145_code 7 = .ok (.isub, 1) := by decide +kernel
theorem d8_8 : decode jdk_65_method_145_code 8 = .ok (.istore_n 3, 1) := by decide +kernel
theorem d8_9 : decode jdk_65_method_145_code 9 = .ok (.iload_n 3, 1) := by decide +kernel
theorem d8_10 : decode jdk_65_method_145_code 10 = .ok (.newarray .double, 2) := by decide +kernel
theorem d8_12 : decode jdk_65_method_145_code 12 = .ok (.astore 4, 2) := by decide +kernel
theorem d8_14 : decode jdk_65_method_145_code 14 = .ok (.aload_n 0, 1) := by decide +kernel
theorem d8_15 : decode jdk_65_method_145_code 15 = .ok (.iload_n 1, 1) := by decide +kernel
theorem d8_16 : decode jdk_65_method_145_code 16 = .ok (.aload 4, 2) := by decide +kernel
theorem d8_18 : decode jdk_65_method_145_code 18 = .ok (.iconst 0, 1) := by decide +kernel
theorem d8_19 : decode jdk_65_method_145_code 19 = .ok (.aload_n 0, 1) := by decide +kernel
theorem d8_20 : decode jdk_65_method_145_code 20 = .ok (.arraylength, 1) := by decide +kernel
theorem d8_21 : decode jdk_65_method_145_code 21 = .ok (.iload_n 1, 1) := by decide +kernel
theorem d8_22 : decode jdk_65_method_145_code 22 = .ok (.isub, 1) := by decide +kernel
theorem d8_23 : decode jdk_65_method_145_code 23 = .ok (.iload_n 3, 1) := by decide +kernel
theorem d8_24 : decode jdk_65_method_145_code 24 = .ok (.invokestatic 304, 3) := by decide +kernel
theorem d8_27 : decode jdk_65_method_145_code 27 = .ok (.invokestatic 150, 3) := by decide +kernel
theorem d8_30 : decode jdk_65_method_145_code 30 = .ok (.aload 4, 2) := by decide +kernel
theorem d8_32 : decode jdk_65_method_145_code 32 = .ok (.areturn, 1) := by decide +kernel
theorem ef3 (m : MethodId) (va : Addr) (u : Nat) (w : Nat) (N : Nat) (x : Nat → UInt64) : entryFrame m #[(.ref va), (.int (Int32.ofNat u)), (.int (Int32.ofNat w))] 5 = mkF m 0 #[.val (.ref va), .val (.int (Int32.ofNat u)), .val (.int (Int32.ofNat w)), .unset, .unset] [] := by first | (simp [entryFrame, mkF, argsToLocals, Value.category]; done) | rfl
def Q8 (Z : State) (va : Addr) (u : Nat) (w : Nat) (N : Nat) (x : Nat → UInt64) (h0 : Heap) (n0 : Nat) (v : Option Value) (h : Heap) (L : List Loc) : Prop := ∃ r : Addr, v = some (.ref r) ∧ Fr n0 L ∧ Keep h0 h [] ∧ h0.size ≤ r ∧ Exa Z h r "[D" ∧ Dar Z h r .double (w - u) (fun t => .double (x (u + t)))
theorem pd_0 : parseMethodDescriptor "(II)V" = some ⟨[.int, .int], none⟩ := by decide +kernel
theorem pd_1 : parseMethodDescriptor "(II)I" = some ⟨[.int, .int], some .int⟩ := by decide +kernel
set_option maxRecDepth 65536 in
set_option maxHeartbeats 40000000 in
theorem rm8 (l : Launch) (Z : State) (a0 : Array Value) (hw : ∀ d ∈ tables_1, d.before a0 Z = true) (ws : List Jvm.Cond) (va : Addr) (u : Nat) (w : Nat) (N : Nat) (x : Nat → UInt64) (h0 : Heap) (n0 : Nat) (Z0 : n0 ≤ h0.size) (V4 : Dar Z h0 va .double N (fun t => .double (x t))) (hu : u ≤ w) (hwN : w ≤ N) (hN : N < 2147483648) (hc : w - u ≤ 3) :
    MetFree l (⟨"java/util/Arrays", "copyOfRangeDouble", "([DII)[D"⟩ : MethodName) (head1 (Jvm.Cond.code (⟨"java/util/Arrays", "copyOfRangeDouble", "([DII)[D"⟩ : MethodName) jdk_65_method_145_code 5 (some (.array .double)) :: ws) ({ frames := 1, cells := 1, slots := 3, locals := 18 } : Room)) (fun a U => a = #[(.ref va), (.int (Int32.ofNat u)), (.int (Int32.ofNat w))] ∧ Z.Warmed39 U.vm ∧ U.heap = h0) (fun _ _ _ _ _ => True) (fun _ U o U' => ∃ v L, o = .returned v ∧ Q8 Z va u w N x h0 n0 v U'.heap L ∧ FrameEnd U o U' L 1 3) := by
  refine MetFree.of_bodySF (plainFor_of_name pn_0) hisR ?_
  intro p e s m args below meth c s₁ Bd hml0 hP hK
  obtain ⟨rfl, hZ, hh⟩ := hP
  have hx := Bd.exec
  have hby := Bd.bytes
  have hml : c.maxLocals = 5 := hml0
  have hown : s.vm.findClass "java/util/Arrays" = some m.cls := findClass_of_methodNamed Bd.named
  have hnm := (name_of_methodNamed Bd.named Bd.method).1
  have X0 : Stand p l e ({ frames := 1, cells := 1, slots := 3, locals := 18 } : Room) s m #[(.ref va), (.int (Int32.ofNat u)), (.int (Int32.ofNat w))] below meth c s₁ [] 0 0 := Stand.of_body Bd
  have e0 : s₁.heap = h0 := by rw [← hh, Bd.state]; rfl
  have N0 := Fr.nil n0
  have A0 := (⟨X0, hx, hby⟩ : Ax _ _ _ _ _ _ _ _ _ _ _ _ _ _ _)
  show Go p e below (fun U o => ∃ v L, o = .returned v ∧ Q8 Z va u w N x h0 n0 v U.heap L ∧ FrameEnd s o U L 1 3) s₁ (entryFrame m #[(.ref va), (.int (Int32.ofNat u)), (.int (Int32.ofNat w))] 5)
  refine Go.cast (ef3 m va u w N x) ?_
  refine g_iloadN A0 d8_0 rfl (pc' := 1) rfl ?_
  refine g_iloadN A0 d8_1 rfl (pc' := 2) rfl ?_
  have hp5 : ¬ (Int32.ofNat w) < (Int32.ofNat u) := (own_onl hu (by omega))
  obtain ⟨vv6, _, ⟨T6, L6, k6, n6⟩, -, X6, ⟨L6c, hQ6, l6, y6, z6⟩, st6⟩ := Jvm.LawKit.callS X0 hx (y := (⟨"java/util/Arrays", "checkLength", "(II)V"⟩ : MethodName)) hown (mvT hZ (hw _ (List.mem_of_getElem? (i := 45) rfl))) (mvT hZ (hw _ (List.mem_of_getElem? (i := 46) rfl))) (mvT hZ (hw _ (List.mem_of_getElem? (i := 40) rfl))) (mvT hZ (hw _ (List.mem_of_getElem? (i := 47) rfl))) (by decide) (backOf (W := 0) (rm9 l Z a0 hw [] (Int32.ofNat u) (Int32.ofNat w) h0 n0 Z0 hp5) hZ (hw _ (List.mem_of_getElem? (i := 47) rfl)) (hw _ (List.mem_of_getElem? (i := 40) rfl)) (by decide) (by decide)) (g := (mkF m 2 #[.val (.ref va), .val (.int (Int32.ofNat u)), .val (.int (Int32.ofNat w)), .unset, .unset] [(.int (Int32.ofNat w)), (.int (Int32.ofNat u))])) rfl (by rw [hml]; rfl) (argsL := [(.int (Int32.ofNat u)), (.int (Int32.ofNat w))]) (rest := []) (lenOf pd_0 rfl) rfl (by show 2 * 0 + _ ≤ _; exact Nat.le_of_eq rfl) (hb hby d8_2) (fun _ _ => ⟨rfl, e0, (by decide : 0 + 0 ≤ _), (by decide : 0 + 0 ≤ _)⟩)
  have hQ6b : Q9 Z (Int32.ofNat u) (Int32.ofNat w) h0 n0 vv6 T6.heap L6c := hQ6
  clear hQ6
  dsimp only [Pt.U, Pt.locs, Pt.cells, Pt.slots] at X6 l6 y6 z6 st6
  subst y6 z6
  obtain ⟨rfl, Nq7, Kq8⟩ := hQ6b
  have N9 : Fr n0 L6 := by rw [l6]; exact Fr.app N0 Nq7
  refine Go.of (g' := (mkF m 5 #[.val (.ref va), .val (.int (Int32.ofNat u)), .val (.int (Int32.ofNat w)), .unset, .unset] [])) st6 ?_
  have e10 : T6.heap = h0 := Kq8
  have A11 := (⟨X6, hx, hby⟩ : Ax _ _ _ _ _ _ _ _ _ _ _ _ _ _ _)
  refine g_iloadN A11 d8_5 rfl (pc' := 6) rfl ?_
  refine g_iloadN A11 d8_6 rfl (pc' := 7) rfl ?_
  refine g_isub A11 d8_7 (pc' := 8) rfl ?_
  rw [own_osub hu]
  refine g_istoreN A11 d8_8 (ls' := #[.val (.ref va), .val (.int (Int32.ofNat u)), .val (.int (Int32.ofNat w)), .val (.int (Int32.ofNat (w - u))), .unset]) rfl (pc' := 9) rfl ?_
  refine g_iloadN A11 d8_9 rfl (pc' := 10) rfl ?_
  obtain ⟨T12, h12, k12, X12, e12, E12, Ar12, Ex12, st12⟩ := newPE X6 hx hZ (hw _ (List.mem_of_getElem? (i := 0) rfl)) e10 (g := (mkF m 10 #[.val (.ref va), .val (.int (Int32.ofNat u)), .val (.int (Int32.ofNat w)), .val (.int (Int32.ofNat (w - u))), .unset] [(.int (Int32.ofNat (w - u)))])) rfl (hb hby d8_10) rfl (own_clamp (by omega)).2 (cap := 3) (by rw [(own_clamp (i := w - u) (by omega)).1]; omega) (by decide) (by decide) (by decide) (ad := "[D") rfl
  obtain ⟨b13, eb13⟩ : ∃ z, z = h0.size := ⟨_, rfl⟩
  rw [← eb13] at Ar12 st12 Ex12
  have ne14 : va ≠ b13 := own_ne eb13 V4.lt
  have g15 : n0 ≤ b13 := by rw [eb13]; exact Z0
  have gh16 : h0.size ≤ b13 := by rw [eb13]; exact (Keep.refl h0 []).1
  have K17 : Keep h0 h12 [] := (Keep.refl h0 []).ext E12
  have V18 : Dar Z h12 va .double N (fun t => .double (x t)) := Dar.ext E12 V4
  have Z19 : n0 ≤ h12.size := Nat.le_trans Z0 E12.1
  have V20 : Dar Z h12 b13 .double (w - u) (fun _ => .double (0 : UInt64)) := Dar.new Ar12 (own_clamp (by omega)).1
  refine Go.of (g' := (mkF m 12 #[.val (.ref va), .val (.int (Int32.ofNat u)), .val (.int (Int32.ofNat w)), .val (.int (Int32.ofNat (w - u))), .unset] [(.ref b13)])) st12 ?_
  have A21 := (⟨X12, hx, hby⟩ : Ax _ _ _ _ _ _ _ _ _ _ _ _ _ _ _)
  refine g_astore A21 d8_12 rfl (ls' := #[.val (.ref va), .val (.int (Int32.ofNat u)), .val (.int (Int32.ofNat w)), .val (.int (Int32.ofNat (w - u))), .val (.ref b13)]) rfl (pc' := 14) rfl ?_
  refine g_aloadN A21 d8_14 rfl rfl (pc' := 15) rfl ?_
  refine g_iloadN A21 d8_15 rfl (pc' := 16) rfl ?_
  refine g_aload A21 d8_16 rfl rfl (pc' := 18) rfl ?_
  refine g_iconst A21 d8_18 (v := (0 : Int32)) rfl (pc' := 19) rfl ?_
  refine g_aloadN A21 d8_19 rfl rfl (pc' := 20) rfl ?_
  refine g_alen A21 hZ e12 V18 d8_20 (z := (Int32.ofNat N)) rfl (pc' := 21) rfl ?_
  refine g_iloadN A21 d8_21 rfl (pc' := 22) rfl ?_
  refine g_isub A21 d8_22 (pc' := 23) rfl ?_
  rw [own_osub (show u ≤ N by omega)]
  refine g_iloadN A21 d8_23 rfl (pc' := 24) rfl ?_
  have hp22 : (w - u) ≤ (N - u) := (by omega)
  have hp23 : (N - u) < 2147483648 := (by omega)
  obtain ⟨vv24, _, ⟨T24, L24, k24, n24⟩, -, X24, ⟨L24c, hQ24, l24, y24, z24⟩, st24⟩ := Jvm.LawKit.callS X12 hx (y := (⟨"java/lang/Math", "min", "(II)I"⟩ : MethodName)) hown (mvT hZ (hw _ (List.mem_of_getElem? (i := 48) rfl))) (mvT hZ (hw _ (List.mem_of_getElem? (i := 49) rfl))) (mvT hZ (hw _ (List.mem_of_getElem? (i := 50) rfl))) (mvT hZ (hw _ (List.mem_of_getElem? (i := 51) rfl))) (by decide) (backOf (W := 4) (rm10 l Z a0 hw [] (N - u) (w - u) h12 n0 Z19 hp22 hp23) hZ (hw _ (List.mem_of_getElem? (i := 51) rfl)) (hw _ (List.mem_of_getElem? (i := 50) rfl)) (by decide) (by decide)) (g := (mkF m 24 #[.val (.ref va), .val (.int (Int32.ofNat u)), .val (.int (Int32.ofNat w)), .val (.int (Int32.ofNat (w - u))), .val (.ref b13)] [(.int (Int32.ofNat (w - u))), (.int (Int32.ofNat (N - u))), (.int (0 : Int32)), (.ref b13), (.int (Int32.ofNat u)), (.ref va)])) rfl (by rw [hml]; rfl) (argsL := [(.int (Int32.ofNat (N - u))), (.int (Int32.ofNat (w - u)))]) (rest := [(.int (0 : Int32)), (.ref b13), (.int (Int32.ofNat u)), (.ref va)]) (lenOf pd_1 rfl) rfl (by show 2 * 0 + _ ≤ _; exact Nat.le_of_eq rfl) (hb hby d8_24) (fun _ _ => ⟨rfl, e12, (by decide : 1 + 0 ≤ _), (by decide : 3 + 0 ≤ _)⟩)
  have hQ24b : Q10 Z (N - u) (w - u) h12 n0 vv24 T24.heap L24c := hQ24
  clear hQ24
  dsimp only [Pt.U, Pt.locs, Pt.cells, Pt.slots] at X24 l24 y24 z24 st24
  subst y24 z24
  obtain ⟨rfl, Nq25, Kq26⟩ := hQ24b
  have N27 : Fr n0 L24 := by rw [l24]; exact Fr.app N9 Nq25
  refine Go.of (g' := (mkF m 27 #[.val (.ref va), .val (.int (Int32.ofNat u)), .val (.int (Int32.ofNat w)), .val (.int (Int32.ofNat (w - u))), .val (.ref b13)] [(.int (Int32.ofNat (w - u))), (.int (0 : Int32)), (.ref b13), (.int (Int32.ofNat u)), (.ref va)])) st24 ?_
  have e28 : T24.heap = h12 := Kq26
  have A29 := (⟨X24, hx, hby⟩ : Ax _ _ _ _ _ _ _ _ _ _ _ _ _ _ _)
  obtain ⟨T30, h30, L30, A30, e30, N30, K30, V30, st30⟩ := s_acopy A29 hZ e28 hown (hw _ (List.mem_of_getElem? (i := 52) rfl)) (hw _ (List.mem_of_getElem? (i := 55) rfl)) (hw _ (List.mem_of_getElem? (i := 53) rfl)) (hw _ (List.mem_of_getElem? (i := 54) rfl)) (ls := #[.val (.ref va), .val (.int (Int32.ofNat u)), .val (.int (Int32.ofNat w)), .val (.int (Int32.ofNat (w - u))), .val (.ref b13)]) (st := []) (x := x) (y := (fun _ => (0 : UInt64))) V18 V20 (sp := u) (nn := (w - u)) (by omega) (Nat.le_refl _) N27 g15 (j1 := (Int32.ofNat u)) (j2 := (Int32.ofNat (w - u))) rfl rfl (by rw [hml]; rfl) d8_27 (pc' := 30) rfl (by decide) (W := 0) (Nat.le_of_eq rfl) (by decide)
  have V31 : Dar Z h30 va .double N (fun t => .double (x t)) := Dar.keep V18 K30 (ninS ne14 nin0)
  have E32 : Exa Z h30 b13 "[D" := Exa.keep Ex12 K30
  have Z33 : n0 ≤ h30.size := Nat.le_trans Z19 K30.1
  have K34 : Keep h0 h30 [] := K17.trans K30 (allS (Or.inr gh16) all0)
  refine st30 ?_
  refine g_aload A30 d8_30 rfl rfl (pc' := 32) rfl ?_
  have V35 : Dar Z h30 b13 .double (w - u) (fun t => .double (x (u + t))) := Dar.congr V30 (fun t ht => congrArg Value.double (if_pos ht))
  exact g_ret (Q := Q8 Z va u w N x h0 n0) A30 d8_32 Bd.notSynchronized Bd.returns rfl (Or.inr (Or.inr (Or.inr (Or.inr ⟨rfl, rfl, rfl⟩)))) (by decide) (by decide) (by rw [e30]; exact ⟨b13, rfl, N30, K34, gh16, E32, V35⟩)
theorem d7_0 : decode jdk_65_method_144_code 0 = .ok (.iload_n 1, 1) := by decide +kernel
theorem d7_1 : decode jdk_65_method_144_code 1 = .ok (.ifCond .ne 9, 3) := by decide +kernel
theorem d7_4 : decode jdk_65_method_144_code 4 = .ok (.iload_n 2, 1) := by decide +kernel
theorem d7_5 : decode jdk_65_method_144_code 5 = .ok (.aload_n 0, 1) := by decide +kernel
theorem d7_6 : decode jdk_65_method_144_code 6 = .ok (.arraylength, 1) := by decide +kernel
theorem d7_7 : decode jdk_65_method_144_code 7 = .ok (.if_icmp .eq 10, 3) := by decide +kernel
theorem d7_10 : decode jdk_65_method_144_code 10 = .ok (.aload_n 0, 1) := by decide +kernel
theorem d7_11 : decode jdk_65_method_144_code 11 = .ok (.iload_n 1, 1) := by decide +kernel
theorem d7_12 : decode jdk_65_method_144_code 12 = .ok (.iload_n 2, 1) := by decide +kernel
theorem d7_13 : decode jdk_65_method_144_code 13 = .ok (.invokestatic 367, 3) := by decide +kernel
theorem d7_16 : decode jdk_65_method_144_code 16 = .ok (.areturn, 1) := by decide +kernel
theorem d7_17 : decode jdk_65_method_144_code 17 = .ok (.aload_n 0, 1) := by decide +kernel
theorem d7_18 : decode jdk_65_method_144_code 18 = .ok (.invokevirtual 328, 3) := by decide +kernel
theorem d7_21 : decode jdk_65_method_144_code 21 = .ok (.checkcast 329, 3) := by decide +kernel
theorem d7_24 : decode jdk_65_method_144_code 24 = .ok (.areturn, 1) := by decide +kernel
theorem ef36 (m : MethodId) (va : Addr) (u : Nat) (w : Nat) (N : Nat) (x : Nat → UInt64) : entryFrame m #[(.ref va), (.int (Int32.ofNat u)), (.int (Int32.ofNat w))] 3 = mkF m 0 #[.val (.ref va), .val (.int (Int32.ofNat u)), .val (.int (Int32.ofNat w))] [] := by first | (simp [entryFrame, mkF, argsToLocals, Value.category]; done) | rfl
def Q7 (Z : State) (va : Addr) (u : Nat) (w : Nat) (N : Nat) (x : Nat → UInt64) (h0 : Heap) (n0 : Nat) (v : Option Value) (h : Heap) (L : List Loc) : Prop := ∃ r : Addr, v = some (.ref r) ∧ Fr n0 L ∧ Keep h0 h [] ∧ h0.size ≤ r ∧ Exa Z h r "[D" ∧ Dar Z h r .double (w - u) (fun t => .double (x (u + t)))
theorem pd_2 : parseMethodDescriptor "([DII)[D" = some ⟨[(.array .double), .int, .int], some (.array .double)⟩ := by decide +kernel
set_option maxRecDepth 65536 in
set_option maxHeartbeats 40000000 in
theorem rm7 (l : Launch) (Z : State) (a0 : Array Value) (hw : ∀ d ∈ tables_1, d.before a0 Z = true) (ws : List Jvm.Cond) (va : Addr) (u : Nat) (w : Nat) (N : Nat) (x : Nat → UInt64) (h0 : Heap) (n0 : Nat) (Z0 : n0 ≤ h0.size) (V37 : Dar Z h0 va .double N (fun t => .double (x t))) (hu : u ≤ w) (hwN : w ≤ N) (hN : N < 2147483648) (hc : w - u ≤ 3) (hcl : ¬ (u = 0 ∧ w = N)) :
    MetFree l (⟨"java/util/Arrays", "copyOfRange", "([DII)[D"⟩ : MethodName) (head1 (Jvm.Cond.code (⟨"java/util/Arrays", "copyOfRange", "([DII)[D"⟩ : MethodName) jdk_65_method_144_code 3 (some (.array .double)) :: ws) ({ frames := 2, cells := 1, slots := 3, locals := 34 } : Room)) (fun a U => a = #[(.ref va), (.int (Int32.ofNat u)), (.int (Int32.ofNat w))] ∧ Z.Warmed39 U.vm ∧ U.heap = h0) (fun _ _ _ _ _ => True) (fun _ U o U' => ∃ v L, o = .returned v ∧ Q7 Z va u w N x h0 n0 v U'.heap L ∧ FrameEnd U o U' L 1 3) := by
  refine MetFree.of_bodySF (plainFor_of_name pn_0) hisR ?_
  intro p e s m args below meth c s₁ Bd hml0 hP hK
  obtain ⟨rfl, hZ, hh⟩ := hP
  have hx := Bd.exec
  have hby := Bd.bytes
  have hml : c.maxLocals = 3 := hml0
  have hown : s.vm.findClass "java/util/Arrays" = some m.cls := findClass_of_methodNamed Bd.named
  have hnm := (name_of_methodNamed Bd.named Bd.method).1
  have X0 : Stand p l e ({ frames := 2, cells := 1, slots := 3, locals := 34 } : Room) s m #[(.ref va), (.int (Int32.ofNat u)), (.int (Int32.ofNat w))] below meth c s₁ [] 0 0 := Stand.of_body Bd
  have e0 : s₁.heap = h0 := by rw [← hh, Bd.state]; rfl
  have N0 := Fr.nil n0
  have A0 := (⟨X0, hx, hby⟩ : Ax _ _ _ _ _ _ _ _ _ _ _ _ _ _ _)
  show Go p e below (fun U o => ∃ v L, o = .returned v ∧ Q7 Z va u w N x h0 n0 v U.heap L ∧ FrameEnd s o U L 1 3) s₁ (entryFrame m #[(.ref va), (.int (Int32.ofNat u)), (.int (Int32.ofNat w))] 3)
  refine Go.cast (ef36 m va u w N x) ?_
  refine g_iloadN A0 d7_0 rfl (pc' := 1) rfl ?_
  by_cases hc38 : (Int32.ofNat u) = 0
  · skip
    refine g_ifN A0 d7_1 (c0_ne_f hc38) (pc' := 4) rfl ?_
    refine g_iloadN A0 d7_4 rfl (pc' := 5) rfl ?_
    refine g_aloadN A0 d7_5 rfl rfl (pc' := 6) rfl ?_
    refine g_alen A0 hZ e0 V37 d7_6 (z := (Int32.ofNat N)) rfl (pc' := 7) rfl ?_
    refine g_icN A0 d7_7 (c2_eq_f (own_ncl hcl hwN hN hu hc38)) (pc' := 10) rfl ?_
    refine g_aloadN A0 d7_10 rfl rfl (pc' := 11) rfl ?_
    refine g_iloadN A0 d7_11 rfl (pc' := 12) rfl ?_
    refine g_iloadN A0 d7_12 rfl (pc' := 13) rfl ?_
    obtain ⟨vv39, _, ⟨T39, L39, k39, n39⟩, -, X39, ⟨L39c, hQ39, l39, y39, z39⟩, st39⟩ := Jvm.LawKit.callS X0 hx (y := (⟨"java/util/Arrays", "copyOfRangeDouble", "([DII)[D"⟩ : MethodName)) hown (mvT hZ (hw _ (List.mem_of_getElem? (i := 42) rfl))) (mvT hZ (hw _ (List.mem_of_getElem? (i := 43) rfl))) (mvT hZ (hw _ (List.mem_of_getElem? (i := 40) rfl))) (mvT hZ (hw _ (List.mem_of_getElem? (i := 44) rfl))) (by decide) (backOf (W := 0) (rm8 l Z a0 hw [] va u w N x h0 n0 Z0 V37 hu hwN hN hc) hZ (hw _ (List.mem_of_getElem? (i := 44) rfl)) (hw _ (List.mem_of_getElem? (i := 40) rfl)) (by decide) (by decide)) (g := (mkF m 13 #[.val (.ref va), .val (.int (Int32.ofNat u)), .val (.int (Int32.ofNat w))] [(.int (Int32.ofNat w)), (.int (Int32.ofNat u)), (.ref va)])) rfl (by rw [hml]; rfl) (argsL := [(.ref va), (.int (Int32.ofNat u)), (.int (Int32.ofNat w))]) (rest := []) (lenOf pd_2 rfl) rfl (by show 2 * 0 + _ ≤ _; exact Nat.le_of_eq rfl) (hb hby d7_13) (fun _ _ => ⟨rfl, e0, (by decide : 0 + 1 ≤ _), (by decide : 0 + 3 ≤ _)⟩)
    have hQ39b : Q8 Z va u w N x h0 n0 vv39 T39.heap L39c := hQ39
    clear hQ39
    dsimp only [Pt.U, Pt.locs, Pt.cells, Pt.slots] at X39 l39 y39 z39 st39
    subst y39 z39
    obtain ⟨r40, rfl, Nq41, Kq42, gx43, E44, V45⟩ := hQ39b
    have N46 : Fr n0 L39 := by rw [l39]; exact Fr.app N0 Nq41
    refine Go.of (g' := (mkF m 16 #[.val (.ref va), .val (.int (Int32.ofNat u)), .val (.int (Int32.ofNat w))] [(.ref r40)])) st39 ?_
    have V47 : Dar Z T39.heap va .double N (fun t => .double (x t)) := Dar.keep V37 Kq42 nin0
    have Z48 : n0 ≤ T39.heap.size := Nat.le_trans Z0 Kq42.1
    have K49 : Keep h0 T39.heap [] := (Keep.refl h0 []).trans Kq42 all0
    have A50 := (⟨X39, hx, hby⟩ : Ax _ _ _ _ _ _ _ _ _ _ _ _ _ _ _)
    have g51 : n0 ≤ r40 := Nat.le_trans Z0 gx43
    have gh52 : h0.size ≤ r40 := Nat.le_trans (Keep.refl h0 []).1 gx43
    have ne53 : va ≠ r40 := Nat.ne_of_lt (Nat.lt_of_lt_of_le V37.lt gx43)
    exact g_ret (Q := Q7 Z va u w N x h0 n0) A50 d7_16 Bd.notSynchronized Bd.returns rfl (Or.inr (Or.inr (Or.inr (Or.inr ⟨rfl, rfl, rfl⟩)))) (by decide) (by decide) ⟨r40, rfl, N46, K49, gh52, E44, V45⟩
  · skip
    refine g_ifY A0 d7_1 (c0_ne_t hc38) (pc' := 10) rfl ?_
    refine g_aloadN A0 d7_10 rfl rfl (pc' := 11) rfl ?_
    refine g_iloadN A0 d7_11 rfl (pc' := 12) rfl ?_
    refine g_iloadN A0 d7_12 rfl (pc' := 13) rfl ?_
    obtain ⟨vv54, _, ⟨T54, L54, k54, n54⟩, -, X54, ⟨L54c, hQ54, l54, y54, z54⟩, st54⟩ := Jvm.LawKit.callS X0 hx (y := (⟨"java/util/Arrays", "copyOfRangeDouble", "([DII)[D"⟩ : MethodName)) hown (mvT hZ (hw _ (List.mem_of_getElem? (i := 42) rfl))) (mvT hZ (hw _ (List.mem_of_getElem? (i := 43) rfl))) (mvT hZ (hw _ (List.mem_of_getElem? (i := 40) rfl))) (mvT hZ (hw _ (List.mem_of_getElem? (i := 44) rfl))) (by decide) (backOf (W := 0) (rm8 l Z a0 hw [] va u w N x h0 n0 Z0 V37 hu hwN hN hc) hZ (hw _ (List.mem_of_getElem? (i := 44) rfl)) (hw _ (List.mem_of_getElem? (i := 40) rfl)) (by decide) (by decide)) (g := (mkF m 13 #[.val (.ref va), .val (.int (Int32.ofNat u)), .val (.int (Int32.ofNat w))] [(.int (Int32.ofNat w)), (.int (Int32.ofNat u)), (.ref va)])) rfl (by rw [hml]; rfl) (argsL := [(.ref va), (.int (Int32.ofNat u)), (.int (Int32.ofNat w))]) (rest := []) (lenOf pd_2 rfl) rfl (by show 2 * 0 + _ ≤ _; exact Nat.le_of_eq rfl) (hb hby d7_13) (fun _ _ => ⟨rfl, e0, (by decide : 0 + 1 ≤ _), (by decide : 0 + 3 ≤ _)⟩)
    have hQ54b : Q8 Z va u w N x h0 n0 vv54 T54.heap L54c := hQ54
    clear hQ54
    dsimp only [Pt.U, Pt.locs, Pt.cells, Pt.slots] at X54 l54 y54 z54 st54
    subst y54 z54
    obtain ⟨r55, rfl, Nq56, Kq57, gx58, E59, V60⟩ := hQ54b
    have N61 : Fr n0 L54 := by rw [l54]; exact Fr.app N0 Nq56
    refine Go.of (g' := (mkF m 16 #[.val (.ref va), .val (.int (Int32.ofNat u)), .val (.int (Int32.ofNat w))] [(.ref r55)])) st54 ?_
    have V62 : Dar Z T54.heap va .double N (fun t => .double (x t)) := Dar.keep V37 Kq57 nin0
    have Z63 : n0 ≤ T54.heap.size := Nat.le_trans Z0 Kq57.1
    have K64 : Keep h0 T54.heap [] := (Keep.refl h0 []).trans Kq57 all0
    have A65 := (⟨X54, hx, hby⟩ : Ax _ _ _ _ _ _ _ _ _ _ _ _ _ _ _)
    have g66 : n0 ≤ r55 := Nat.le_trans Z0 gx58
    have gh67 : h0.size ≤ r55 := Nat.le_trans (Keep.refl h0 []).1 gx58
    have ne68 : va ≠ r55 := Nat.ne_of_lt (Nat.lt_of_lt_of_le V37.lt gx58)
    exact g_ret (Q := Q7 Z va u w N x h0 n0) A65 d7_16 Bd.notSynchronized Bd.returns rfl (Or.inr (Or.inr (Or.inr (Or.inr ⟨rfl, rfl, rfl⟩)))) (by decide) (by decide) ⟨r55, rfl, N61, K64, gh67, E59, V60⟩
theorem d6_0 : decode prog_1_method_14_code 0 = .ok (.iload_n 3, 1) := by decide +kernel
theorem d6_1 : decode prog_1_method_14_code 1 = .ok (.istore 6, 2) := by decide +kernel
theorem d6_3 : decode prog_1_method_14_code 3 = .ok (.iload 6, 2) := by decide +kernel
theorem d6_5 : decode prog_1_method_14_code 5 = .ok (.iload 4, 2) := by decide +kernel
theorem d6_7 : decode prog_1_method_14_code 7 = .ok (.if_icmp .ge 18, 3) := by decide +kernel
theorem d6_10 : decode prog_1_method_14_code 10 = .ok (.aload_n 2, 1) := by decide +kernel
theorem d6_11 : decode prog_1_method_14_code 11 = .ok (.iload 6, 2) := by decide +kernel
theorem d6_13 : decode prog_1_method_14_code 13 = .ok (.daload, 1) := by decide +kernel
theorem d6_14 : decode prog_1_method_14_code 14 = .ok (.dconst 0, 1) := by decide +kernel
theorem d6_15 : decode prog_1_method_14_code 15 = .ok (.dcmp .l, 1) := by decide +kernel
theorem d6_16 : decode prog_1_method_14_code 16 = .ok (.ifCond .ne 9, 3) := by decide +kernel
theorem d6_19 : decode prog_1_method_14_code 19 = .ok (.iinc 6 1, 3) := by decide +kernel
theorem d6_22 : decode prog_1_method_14_code 22 = .ok (.goto (-19), 3) := by decide +kernel
theorem d6_25 : decode prog_1_method_14_code 25 = .ok (.iload 4, 2) := by decide +kernel
theorem d6_27 : decode prog_1_method_14_code 27 = .ok (.istore 7, 2) := by decide +kernel
theorem d6_29 : decode prog_1_method_14_code 29 = .ok (.iload 7, 2) := by decide +kernel
theorem d6_31 : decode prog_1_method_14_code 31 = .ok (.iload 6, 2) := by decide +kernel
theorem d6_33 : decode prog_1_method_14_code 33 = .ok (.if_icmp .le 20, 3) := by decide +kernel
theorem d6_36 : decode prog_1_method_14_code 36 = .ok (.aload_n 2, 1) := by decide +kernel
theorem d6_37 : decode prog_1_method_14_code 37 = .ok (.iload 7, 2) := by decide +kernel
theorem d6_39 : decode prog_1_method_14_code 39 = .ok (.iconst 1, 1) := by decide +kernel
theorem d6_40 : decode prog_1_method_14_code 40 = .ok (.isub, 1) := by decide +kernel
theorem d6_41 : decode prog_1_method_14_code 41 = .ok (.daload, 1) := by decide +kernel
theorem d6_42 : decode prog_1_method_14_code 42 = .ok (.dconst 0, 1) := by decide +kernel
theorem d6_43 : decode prog_1_method_14_code 43 = .ok (.dcmp .l, 1) := by decide +kernel
theorem d6_44 : decode prog_1_method_14_code 44 = .ok (.ifCond .ne 9, 3) := by decide +kernel
theorem d6_47 : decode prog_1_method_14_code 47 = .ok (.iinc 7 (-1), 3) := by decide +kernel
theorem d6_50 : decode prog_1_method_14_code 50 = .ok (.goto (-21), 3) := by decide +kernel
theorem d6_53 : decode prog_1_method_14_code 53 = .ok (.aload_n 0, 1) := by decide +kernel
theorem d6_54 : decode prog_1_method_14_code 54 = .ok (.getfield 13, 3) := by decide +kernel
theorem d6_57 : decode prog_1_method_14_code 57 = .ok (.iload_n 1, 1) := by decide +kernel
theorem d6_58 : decode prog_1_method_14_code 58 = .ok (.iload 6, 2) := by decide +kernel
theorem d6_60 : decode prog_1_method_14_code 60 = .ok (.iload 7, 2) := by decide +kernel
theorem d6_62 : decode prog_1_method_14_code 62 = .ok (.if_icmp .ge 13, 3) := by decide +kernel
theorem d6_65 : decode prog_1_method_14_code 65 = .ok (.iload 5, 2) := by decide +kernel
theorem d6_67 : decode prog_1_method_14_code 67 = .ok (.iload 6, 2) := by decide +kernel
theorem d6_69 : decode prog_1_method_14_code 69 = .ok (.iadd, 1) := by decide +kernel
theorem d6_70 : decode prog_1_method_14_code 70 = .ok (.iload_n 3, 1) := by decide +kernel
theorem d6_71 : decode prog_1_method_14_code 71 = .ok (.isub, 1) := by decide +kernel
theorem d6_72 : decode prog_1_method_14_code 72 = .ok (.goto 4, 3) := by decide +kernel
theorem d6_75 : decode prog_1_method_14_code 75 = .ok (.iconst 0, 1) := by decide +kernel
theorem d6_76 : decode prog_1_method_14_code 76 = .ok (.iastore, 1) := by decide +kernel
theorem d6_77 : decode prog_1_method_14_code 77 = .ok (.aload_n 0, 1) := by decide +kernel
theorem d6_78 : decode prog_1_method_14_code 78 = .ok (.getfield 19, 3) := by decide +kernel
theorem d6_81 : decode prog_1_method_14_code 81 = .ok (.iload_n 1, 1) := by decide +kernel
theorem d6_82 : decode prog_1_method_14_code 82 = .ok (.aload_n 2, 1) := by decide +kernel
theorem d6_83 : decode prog_1_method_14_code 83 = .ok (.iload 6, 2) := by decide +kernel
theorem d6_85 : decode prog_1_method_14_code 85 = .ok (.iload 7, 2) := by decide +kernel
theorem d6_87 : decode prog_1_method_14_code 87 = .ok (.invokestatic 122, 3) := by decide +kernel
theorem d6_90 : decode prog_1_method_14_code 90 = .ok (.aastore, 1) := by decide +kernel
theorem d6_91 : decode prog_1_method_14_code 91 = .ok (.return_, 1) := by decide +kernel
theorem own_l1 {p : Program} {l : Launch} {e : Env} {R : Room} {s : State} {m : MethodId} {args : Array Value} {below : List Frame} {meth : Method} {c : Code} {T : State} {locs : List Loc} {cells slots : Nat} {P : State → Outcome → Prop} {Z : State} {h : Heap} (A : Ax p l e R s m args below meth c T locs cells slots prog_1_method_14_code) (hZ : Z.Warmed39 s.vm) (eT : T.heap = h) {N F E : Nat} {x : Nat → UInt64} {o1 va : Addr} {i1 q5 : Int32} {sl : Slot} (V : Dar Z h va .double N (fun t => .double (x t))) (hE : E ≤ N) (hN : N < 2147483648)
    (done : ∀ a, F ≤ a → a ≤ E → (∀ k, F ≤ k → k < a → own_zr (x k)) → (a < E → ¬ own_zr (x a)) → Go p e below P T (mkF m 25 #[.val (.ref o1), .val (.int i1), .val (.ref va), .val (.int (Int32.ofNat F)), .val (.int (Int32.ofNat E)), .val (.int q5), .val (.int (Int32.ofNat a)), sl] [])) :
    ∀ (k a : Nat), a + k = E → F ≤ a → (∀ k, F ≤ k → k < a → own_zr (x k)) → Go p e below P T (mkF m 3 #[.val (.ref o1), .val (.int i1), .val (.ref va), .val (.int (Int32.ofNat F)), .val (.int (Int32.ofNat E)), .val (.int q5), .val (.int (Int32.ofNat a)), sl] []) := by
  intro k
  induction k with
  | zero =>
    intro a ha hF hz
    obtain rfl : a = E := by omega
    refine g_iload A d6_3 rfl (pc' := 5) rfl ?_
    refine g_iload A d6_5 rfl (pc' := 7) rfl ?_
    refine g_icY A d6_7 (c2_ge_t Int32.lt_irrefl) (pc' := 25) rfl ?_
    exact done a hF (Nat.le_refl _) hz (fun q => absurd q (Nat.lt_irrefl _))
  | succ k ih =>
    intro a ha hF hz
    refine g_iload A d6_3 rfl (pc' := 5) rfl ?_
    refine g_iload A d6_5 rfl (pc' := 7) rfl ?_
    refine g_icN A d6_7 (c2_ge_f (own_olt (by omega) (by omega))) (pc' := 10) rfl ?_
    refine g_aloadN A d6_10 rfl rfl (pc' := 11) rfl ?_
    refine g_iload A d6_11 rfl (pc' := 13) rfl ?_
    refine g_daload A hZ eT V (i := a) (by omega) rfl (x := x a) rfl d6_13 (pc' := 14) rfl ?_
    refine g_dconst0 A d6_14 (pc' := 15) rfl ?_
    refine g_dcmp A d6_15 (pc' := 16) rfl ?_
    by_cases q : FP.dcmp (x a) (0 : UInt64) = some .eq
    · refine g_ifN A d6_16 (d_l_ne_f q) (pc' := 19) rfl ?_
      refine g_iinc A d6_19 rfl (y := Int32.ofNat (a + 1)) (own_succ a) (ls' := #[.val (.ref o1), .val (.int i1), .val (.ref va), .val (.int (Int32.ofNat F)), .val (.int (Int32.ofNat E)), .val (.int q5), .val (.int (Int32.ofNat (a + 1))), sl]) rfl (pc' := 22) rfl ?_
      refine g_goto A d6_22 (pc' := 3) rfl ?_
      refine ih (a + 1) (by omega) (by omega) (fun j h1 h2 => ?_)
      by_cases r : j = a
      · subst r; exact q
      · exact hz j h1 (by omega)
    · refine g_ifY A d6_16 (d_l_ne_t q) (pc' := 25) rfl ?_
      exact done a hF (by omega) hz (fun _ => q)
theorem own_l2 {p : Program} {l : Launch} {e : Env} {R : Room} {s : State} {m : MethodId} {args : Array Value} {below : List Frame} {meth : Method} {c : Code} {T : State} {locs : List Loc} {cells slots : Nat} {P : State → Outcome → Prop} {Z : State} {h : Heap} (A : Ax p l e R s m args below meth c T locs cells slots prog_1_method_14_code) (hZ : Z.Warmed39 s.vm) (eT : T.heap = h) {N F E : Nat} {x : Nat → UInt64} {o1 va : Addr} {i1 q5 : Int32} {a : Nat} (V : Dar Z h va .double N (fun t => .double (x t))) (hE : E ≤ N) (hN : N < 2147483648)
    (done : ∀ b, a ≤ b → b ≤ E → (∀ k, b ≤ k → k < E → own_zr (x k)) → (a < b → ¬ own_zr (x (b - 1))) → Go p e below P T (mkF m 53 #[.val (.ref o1), .val (.int i1), .val (.ref va), .val (.int (Int32.ofNat F)), .val (.int (Int32.ofNat E)), .val (.int q5), .val (.int (Int32.ofNat a)), .val (.int (Int32.ofNat b))] [])) :
    ∀ (k b : Nat), a + k = b → b ≤ E → (∀ k, b ≤ k → k < E → own_zr (x k)) → Go p e below P T (mkF m 29 #[.val (.ref o1), .val (.int i1), .val (.ref va), .val (.int (Int32.ofNat F)), .val (.int (Int32.ofNat E)), .val (.int q5), .val (.int (Int32.ofNat a)), .val (.int (Int32.ofNat b))] []) := by
  intro k
  induction k with
  | zero =>
    intro b hb0 hbE hz
    obtain rfl : a = b := by omega
    refine g_iload A d6_29 rfl (pc' := 31) rfl ?_
    refine g_iload A d6_31 rfl (pc' := 33) rfl ?_
    refine g_icY A d6_33 (c2_le_t Int32.lt_irrefl) (pc' := 53) rfl ?_
    exact done a (Nat.le_refl _) hbE hz (fun q => absurd q (Nat.lt_irrefl _))
  | succ k ih =>
    intro b hb0 hbE hz
    refine g_iload A d6_29 rfl (pc' := 31) rfl ?_
    refine g_iload A d6_31 rfl (pc' := 33) rfl ?_
    refine g_icN A d6_33 (c2_le_f (own_olt (by omega) (by omega))) (pc' := 36) rfl ?_
    refine g_aloadN A d6_36 rfl rfl (pc' := 37) rfl ?_
    refine g_iload A d6_37 rfl (pc' := 39) rfl ?_
    refine g_iconst A d6_39 (v := (1 : Int32)) rfl (pc' := 40) rfl ?_
    refine g_isub A d6_40 (pc' := 41) rfl ?_
    refine g_daload A hZ eT V (i := b - 1) (by omega) (own_pred (by omega)) (x := x (b - 1)) rfl d6_41 (pc' := 42) rfl ?_
    refine g_dconst0 A d6_42 (pc' := 43) rfl ?_
    refine g_dcmp A d6_43 (pc' := 44) rfl ?_
    by_cases q : FP.dcmp (x (b - 1)) (0 : UInt64) = some .eq
    · refine g_ifN A d6_44 (d_l_ne_f q) (pc' := 47) rfl ?_
      refine g_iinc A d6_47 rfl (y := Int32.ofNat (b - 1)) (own_pred' (by omega)) (ls' := #[.val (.ref o1), .val (.int i1), .val (.ref va), .val (.int (Int32.ofNat F)), .val (.int (Int32.ofNat E)), .val (.int q5), .val (.int (Int32.ofNat a)), .val (.int (Int32.ofNat (b - 1)))]) rfl (pc' := 50) rfl ?_
      refine g_goto A d6_50 (pc' := 29) rfl ?_
      refine ih (b - 1) (by omega) (by omega) (fun j h1 h2 => ?_)
      by_cases r : j = b - 1
      · subst r; exact q
      · exact hz j (by omega) h2
    · refine g_ifY A d6_44 (d_l_ne_t q) (pc' := 53) rfl ?_
      exact done b (by omega) hbE hz (fun _ => q)
theorem pn_1 : plainName "com/example/pursuant/pursuant/dictionary/BandDictionary" = true := by first | (simp [plainName, overriddenIn]; done) | decide +kernel
theorem ef69 (m : MethodId) (a1 : Addr) (i : Nat) (va : Addr) (F : Nat) (E : Nat) (N : Nat) (K : Nat) (x : Nat → UInt64) (sa : Addr) (ta : Addr) (fs : Nat → Value) (ft : Nat → Value) : entryFrame m #[(.ref a1), (.int (Int32.ofNat i)), (.ref va), (.int (Int32.ofNat F)), (.int (Int32.ofNat E)), (.int (0 : Int32))] 8 = mkF m 0 #[.val (.ref a1), .val (.int (Int32.ofNat i)), .val (.ref va), .val (.int (Int32.ofNat F)), .val (.int (Int32.ofNat E)), .val (.int (0 : Int32)), .unset, .unset] [] := by first | (simp [entryFrame, mkF, argsToLocals, Value.category]; done) | rfl
def Q6 (Z : State) (a1 : Addr) (i : Nat) (va : Addr) (F : Nat) (E : Nat) (N : Nat) (K : Nat) (x : Nat → UInt64) (sa : Addr) (ta : Addr) (fs : Nat → Value) (ft : Nat → Value) (h0 : Heap) (n0 : Nat) (v : Option Value) (h : Heap) (L : List Loc) : Prop := ∃ ra : Nat, ∃ rb : Nat, ∃ r : Addr, v = none ∧ Fr n0 L ∧ Keep h0 h [sa, ta] ∧ h0.size ≤ r ∧ Dar Z h r .double (rb - ra) (fun t => .double (x (ra + t))) ∧ Dar Z h sa .int K (fun j => if j = i then .int (own_s ra rb F) else fs j) ∧ Dar Z h ta (.array .double) K (fun j => if j = i then .ref r else ft j) ∧ own_S x F E ra rb
set_option maxRecDepth 65536 in
set_option maxHeartbeats 40000000 in
theorem rm6 (l : Launch) (Z : State) (a0 : Array Value) (hw : ∀ d ∈ tables_1, d.before a0 Z = true) (ws : List Jvm.Cond) (a1 : Addr) (i : Nat) (va : Addr) (F : Nat) (E : Nat) (N : Nat) (K : Nat) (x : Nat → UInt64) (sa : Addr) (ta : Addr) (fs : Nat → Value) (ft : Nat → Value) (h0 : Heap) (n0 : Nat) (Z0 : n0 ≤ h0.size) (E70 : Exa Z h0 a1 "com/example/pursuant/pursuant/dictionary/BandDictionary") (F71 : Fld Z h0 a1 "com/example/pursuant/pursuant/dictionary/BandDictionary" "starts" "[I" (.ref sa)) (F72 : Fld Z h0 a1 "com/example/pursuant/pursuant/dictionary/BandDictionary" "stretches" "[[D" (.ref ta)) (V73 : Dar Z h0 va .double N (fun t => .double (x t))) (V74 : Dar Z h0 sa .int K fs) (V75 : Dar Z h0 ta (.array .double) K ft) (O76 : Ovd Z h0 ta) (ne77 : a1 ≠ sa) (ne78 : a1 ≠ ta) (ne79 : sa ≠ ta) (ne80 : va ≠ sa) (ne81 : va ≠ ta) (g82 : n0 ≤ sa) (g83 : n0 ≤ ta) (hi : i < K) (hF : F ≤ E) (hE : E ≤ N) (hN : N < 2147483648) (hc : E - F ≤ 3) (hz : 0 < F ∨ E < N) :
    MetFree l (⟨"com/example/pursuant/pursuant/dictionary/BandDictionary", "keepStretch", "(I[DIII)V"⟩ : MethodName) (head1 (Jvm.Cond.code (⟨"com/example/pursuant/pursuant/dictionary/BandDictionary", "keepStretch", "(I[DIII)V"⟩ : MethodName) prog_1_method_14_code 8 none :: ws) ({ frames := 3, cells := 1, slots := 3, locals := 50 } : Room)) (fun a U => a = #[(.ref a1), (.int (Int32.ofNat i)), (.ref va), (.int (Int32.ofNat F)), (.int (Int32.ofNat E)), (.int (0 : Int32))] ∧ Z.Warmed39 U.vm ∧ U.heap = h0) (fun _ _ _ _ _ => True) (fun _ U o U' => ∃ v L, o = .returned v ∧ Q6 Z a1 i va F E N K x sa ta fs ft h0 n0 v U'.heap L ∧ FrameEnd U o U' L 1 3) := by
  refine MetFree.of_bodySF (plainFor_of_name pn_1) hisR ?_
  intro p e s m args below meth c s₁ Bd hml0 hP hK
  obtain ⟨rfl, hZ, hh⟩ := hP
  have hx := Bd.exec
  have hby := Bd.bytes
  have hml : c.maxLocals = 8 := hml0
  have hown : s.vm.findClass "com/example/pursuant/pursuant/dictionary/BandDictionary" = some m.cls := findClass_of_methodNamed Bd.named
  have hnm := (name_of_methodNamed Bd.named Bd.method).1
  have X0 : Stand p l e ({ frames := 3, cells := 1, slots := 3, locals := 50 } : Room) s m #[(.ref a1), (.int (Int32.ofNat i)), (.ref va), (.int (Int32.ofNat F)), (.int (Int32.ofNat E)), (.int (0 : Int32))] below meth c s₁ [] 0 0 := Stand.of_body Bd
  have e0 : s₁.heap = h0 := by rw [← hh, Bd.state]; rfl
  have N0 := Fr.nil n0
  have A0 := (⟨X0, hx, hby⟩ : Ax _ _ _ _ _ _ _ _ _ _ _ _ _ _ _)
  show Go p e below (fun U o => ∃ v L, o = .returned v ∧ Q6 Z a1 i va F E N K x sa ta fs ft h0 n0 v U.heap L ∧ FrameEnd s o U L 1 3) s₁ (entryFrame m #[(.ref a1), (.int (Int32.ofNat i)), (.ref va), (.int (Int32.ofNat F)), (.int (Int32.ofNat E)), (.int (0 : Int32))] 8)
  refine Go.cast (ef69 m a1 i va F E N K x sa ta fs ft) ?_
  refine g_iloadN A0 d6_0 rfl (pc' := 1) rfl ?_
  refine g_istore A0 d6_1 (ls' := #[.val (.ref a1), .val (.int (Int32.ofNat i)), .val (.ref va), .val (.int (Int32.ofNat F)), .val (.int (Int32.ofNat E)), .val (.int (0 : Int32)), .val (.int (Int32.ofNat F)), .unset]) rfl (pc' := 3) rfl ?_
  refine own_l1 A0 hZ e0 V73 hE hN ?_ (E - F) F (by omega) (Nat.le_refl _) (fun k q1 q2 => absurd q1 (Nat.not_le.mpr q2))
  intro a a1F a1E a1z a1n
  refine g_iload A0 d6_25 rfl (pc' := 27) rfl ?_
  refine g_istore A0 d6_27 (ls' := #[.val (.ref a1), .val (.int (Int32.ofNat i)), .val (.ref va), .val (.int (Int32.ofNat F)), .val (.int (Int32.ofNat E)), .val (.int (0 : Int32)), .val (.int (Int32.ofNat a)), .val (.int (Int32.ofNat E))]) rfl (pc' := 29) rfl ?_
  refine own_l2 A0 hZ e0 V73 hE hN ?_ (E - a) E (by omega) (Nat.le_refl _) (fun k q1 q2 => absurd q1 (Nat.not_le.mpr q2))
  intro b b1a b1E b1z b1n
  refine g_aloadN A0 d6_53 rfl rfl (pc' := 54) rfl ?_
  obtain ⟨T84, X84, e84, st84⟩ := getF X0 hx hZ hown (host := "") (Or.inl (hw _ (List.mem_of_getElem? (i := 28) rfl))) Via.refl e0 F71 (g := (mkF m 54 #[.val (.ref a1), .val (.int (Int32.ofNat i)), .val (.ref va), .val (.int (Int32.ofNat F)), .val (.int (Int32.ofNat E)), .val (.int (0 : Int32)), .val (.int (Int32.ofNat a)), .val (.int (Int32.ofNat b))] [(.ref a1)])) rfl rfl (hb hby d6_54)
  refine Go.of (g' := (mkF m 57 #[.val (.ref a1), .val (.int (Int32.ofNat i)), .val (.ref va), .val (.int (Int32.ofNat F)), .val (.int (Int32.ofNat E)), .val (.int (0 : Int32)), .val (.int (Int32.ofNat a)), .val (.int (Int32.ofNat b))] [(.ref sa)])) st84 ?_
  have A85 := (⟨X84, hx, hby⟩ : Ax _ _ _ _ _ _ _ _ _ _ _ _ _ _ _)
  refine g_iloadN A85 d6_57 rfl (pc' := 58) rfl ?_
  refine g_iload A85 d6_58 rfl (pc' := 60) rfl ?_
  refine g_iload A85 d6_60 rfl (pc' := 62) rfl ?_
  obtain ⟨v86, hv86⟩ : ∃ z : Int32, z = (if (Int32.ofNat a) < (Int32.ofNat b) then (((0 : Int32) + (Int32.ofNat a)) - (Int32.ofNat F)) else (0 : Int32)) := ⟨_, rfl⟩
  have sg87 : ∀ {P : State → Outcome → Prop}, Go p e below P T84 (mkF m 76 #[.val (.ref a1), .val (.int (Int32.ofNat i)), .val (.ref va), .val (.int (Int32.ofNat F)), .val (.int (Int32.ofNat E)), .val (.int (0 : Int32)), .val (.int (Int32.ofNat a)), .val (.int (Int32.ofNat b))] [(.int v86), (.int (Int32.ofNat i)), (.ref sa)]) → Go p e below P T84 (mkF m 62 #[.val (.ref a1), .val (.int (Int32.ofNat i)), .val (.ref va), .val (.int (Int32.ofNat F)), .val (.int (Int32.ofNat E)), .val (.int (0 : Int32)), .val (.int (Int32.ofNat a)), .val (.int (Int32.ofNat b))] [(.int (Int32.ofNat b)), (.int (Int32.ofNat a)), (.int (Int32.ofNat i)), (.ref sa)]) := by
    intro P hr
    by_cases c88 : (Int32.ofNat a) < (Int32.ofNat b)
    · skip
      refine g_icN A85 d6_62 (c2_ge_f c88) (pc' := 65) rfl ?_
      refine g_iload A85 d6_65 rfl (pc' := 67) rfl ?_
      refine g_iload A85 d6_67 rfl (pc' := 69) rfl ?_
      refine g_iadd A85 d6_69 (pc' := 70) rfl ?_
      refine g_iloadN A85 d6_70 rfl (pc' := 71) rfl ?_
      refine g_isub A85 d6_71 (pc' := 72) rfl ?_
      refine g_goto A85 d6_72 (pc' := 76) rfl ?_
      obtain rfl : v86 = (((0 : Int32) + (Int32.ofNat a)) - (Int32.ofNat F)) := hv86.trans ((if_pos c88).trans rfl)
      exact hr
    · skip
      refine g_icY A85 d6_62 (c2_ge_t c88) (pc' := 75) rfl ?_
      refine g_iconst A85 d6_75 (v := (0 : Int32)) rfl (pc' := 76) rfl ?_
      obtain rfl : v86 = (0 : Int32) := hv86.trans ((if_neg c88).trans rfl)
      exact hr
  refine sg87 ?_
  rw [show v86 = own_s a b F from hv86]
  obtain ⟨T89, h89, A89, e89, W89, st89⟩ := s_iastore A85 hZ e84 (ls := #[.val (.ref a1), .val (.int (Int32.ofNat i)), .val (.ref va), .val (.int (Int32.ofNat F)), .val (.int (Int32.ofNat E)), .val (.int (0 : Int32)), .val (.int (Int32.ofNat a)), .val (.int (Int32.ofNat b))]) (st := []) (x := (own_s a b F)) V74 (i := i) hi (j := (Int32.ofNat i)) rfl d6_76 (pc' := 77) rfl
  have N90 := Fr.snoc A89.1 N0 g82
  have K91 : Keep h0 h89 [sa, ta] := (Keep.refl h0 [sa, ta]).wr W89 (Or.inl (List.mem_of_getElem? (i := 0) rfl))
  have E92 : Exa Z h89 a1 "com/example/pursuant/pursuant/dictionary/BandDictionary" := Exa.wr W89 E70
  have F93 : Fld Z h89 a1 "com/example/pursuant/pursuant/dictionary/BandDictionary" "starts" "[I" (.ref sa) := Fld.other W89 F71 (Or.inl ne77)
  have F94 : Fld Z h89 a1 "com/example/pursuant/pursuant/dictionary/BandDictionary" "stretches" "[[D" (.ref ta) := Fld.other W89 F72 (Or.inl ne77)
  have V95 : Dar Z h89 va .double N (fun t => .double (x t)) := Dar.other W89 V73 ne80
  have V96 : Dar Z h89 ta (.array .double) K ft := Dar.other W89 V75 (Ne.symm ne79)
  have O97 : Ovd Z h89 ta := Ovd.wr W89 O76
  have V98 : Dar Z h89 sa .int K (fun j => if j = i then .int (own_s a b F) else fs j) := Dar.set V74 W89 (fun _ _ => rfl)
  have Z99 : n0 ≤ h89.size := by rw [W89.size]; exact Z0
  refine st89 ?_
  refine g_aloadN A89 d6_77 rfl rfl (pc' := 78) rfl ?_
  obtain ⟨T100, X100, e100, st100⟩ := getF A89.1 hx hZ hown (host := "") (Or.inl (hw _ (List.mem_of_getElem? (i := 32) rfl))) Via.refl e89 F94 (g := (mkF m 78 #[.val (.ref a1), .val (.int (Int32.ofNat i)), .val (.ref va), .val (.int (Int32.ofNat F)), .val (.int (Int32.ofNat E)), .val (.int (0 : Int32)), .val (.int (Int32.ofNat a)), .val (.int (Int32.ofNat b))] [(.ref a1)])) rfl rfl (hb hby d6_78)
  refine Go.of (g' := (mkF m 81 #[.val (.ref a1), .val (.int (Int32.ofNat i)), .val (.ref va), .val (.int (Int32.ofNat F)), .val (.int (Int32.ofNat E)), .val (.int (0 : Int32)), .val (.int (Int32.ofNat a)), .val (.int (Int32.ofNat b))] [(.ref ta)])) st100 ?_
  have A101 := (⟨X100, hx, hby⟩ : Ax _ _ _ _ _ _ _ _ _ _ _ _ _ _ _)
  refine g_iloadN A101 d6_81 rfl (pc' := 82) rfl ?_
  refine g_aloadN A101 d6_82 rfl rfl (pc' := 83) rfl ?_
  refine g_iload A101 d6_83 rfl (pc' := 85) rfl ?_
  refine g_iload A101 d6_85 rfl (pc' := 87) rfl ?_
  have hp102 : b ≤ N := (by omega)
  have hp103 : b - a ≤ 3 := (by omega)
  have hp104 : ¬ (a = 0 ∧ b = N) := (by omega)
  obtain ⟨vv105, _, ⟨T105, L105, k105, n105⟩, -, X105, ⟨L105c, hQ105, l105, y105, z105⟩, st105⟩ := Jvm.LawKit.callS X100 hx (y := (⟨"java/util/Arrays", "copyOfRange", "([DII)[D"⟩ : MethodName)) hown (mvT hZ (hw _ (List.mem_of_getElem? (i := 38) rfl))) (mvT hZ (hw _ (List.mem_of_getElem? (i := 39) rfl))) (mvT hZ (hw _ (List.mem_of_getElem? (i := 40) rfl))) (mvT hZ (hw _ (List.mem_of_getElem? (i := 41) rfl))) (by decide) (backOf (W := 2) (rm7 l Z a0 hw [] va a b N x h89 n0 Z99 V95 b1a hp102 hN hp103 hp104) hZ (hw _ (List.mem_of_getElem? (i := 41) rfl)) (hw _ (List.mem_of_getElem? (i := 40) rfl)) (by decide) (by decide)) (g := (mkF m 87 #[.val (.ref a1), .val (.int (Int32.ofNat i)), .val (.ref va), .val (.int (Int32.ofNat F)), .val (.int (Int32.ofNat E)), .val (.int (0 : Int32)), .val (.int (Int32.ofNat a)), .val (.int (Int32.ofNat b))] [(.int (Int32.ofNat b)), (.int (Int32.ofNat a)), (.ref va), (.int (Int32.ofNat i)), (.ref ta)])) rfl (by rw [hml]; rfl) (argsL := [(.ref va), (.int (Int32.ofNat a)), (.int (Int32.ofNat b))]) (rest := [(.int (Int32.ofNat i)), (.ref ta)]) (lenOf pd_2 rfl) rfl (by show 2 * 0 + _ ≤ _; exact Nat.le_of_eq rfl) (hb hby d6_87) (fun _ _ => ⟨rfl, e100, (by decide : 0 + 1 ≤ _), (by decide : 0 + 3 ≤ _)⟩)
  have hQ105b : Q7 Z va a b N x h89 n0 vv105 T105.heap L105c := hQ105
  clear hQ105
  dsimp only [Pt.U, Pt.locs, Pt.cells, Pt.slots] at X105 l105 y105 z105 st105
  subst y105 z105
  obtain ⟨r106, rfl, Nq107, Kq108, gx109, E110, V111⟩ := hQ105b
  have N112 : Fr n0 L105 := by rw [l105]; exact Fr.app N90 Nq107
  refine Go.of (g' := (mkF m 90 #[.val (.ref a1), .val (.int (Int32.ofNat i)), .val (.ref va), .val (.int (Int32.ofNat F)), .val (.int (Int32.ofNat E)), .val (.int (0 : Int32)), .val (.int (Int32.ofNat a)), .val (.int (Int32.ofNat b))] [(.ref r106), (.int (Int32.ofNat i)), (.ref ta)])) st105 ?_
  have E113 : Exa Z T105.heap a1 "com/example/pursuant/pursuant/dictionary/BandDictionary" := Exa.keep E92 Kq108
  have F114 : Fld Z T105.heap a1 "com/example/pursuant/pursuant/dictionary/BandDictionary" "starts" "[I" (.ref sa) := Fld.keep F93 Kq108 nin0
  have F115 : Fld Z T105.heap a1 "com/example/pursuant/pursuant/dictionary/BandDictionary" "stretches" "[[D" (.ref ta) := Fld.keep F94 Kq108 nin0
  have V116 : Dar Z T105.heap va .double N (fun t => .double (x t)) := Dar.keep V95 Kq108 nin0
  have V117 : Dar Z T105.heap ta (.array .double) K ft := Dar.keep V96 Kq108 nin0
  have O118 : Ovd Z T105.heap ta := Ovd.keep O97 Kq108
  have V119 : Dar Z T105.heap sa .int K (fun j => if j = i then .int (own_s a b F) else fs j) := Dar.keep V98 Kq108 nin0
  have Z120 : n0 ≤ T105.heap.size := Nat.le_trans Z99 Kq108.1
  have K121 : Keep h0 T105.heap [sa, ta] := K91.trans Kq108 all0
  have A122 := (⟨X105, hx, hby⟩ : Ax _ _ _ _ _ _ _ _ _ _ _ _ _ _ _)
  have g123 : n0 ≤ r106 := Nat.le_trans Z99 gx109
  have gh124 : h0.size ≤ r106 := Nat.le_trans K91.1 gx109
  have ne125 : a1 ≠ r106 := Nat.ne_of_lt (Nat.lt_of_lt_of_le E92.lt gx109)
  have ne126 : sa ≠ r106 := Nat.ne_of_lt (Nat.lt_of_lt_of_le V98.lt gx109)
  have ne127 : ta ≠ r106 := Nat.ne_of_lt (Nat.lt_of_lt_of_le V96.lt gx109)
  have ne128 : va ≠ r106 := Nat.ne_of_lt (Nat.lt_of_lt_of_le V95.lt gx109)
  obtain ⟨T129, h129, A129, e129, W129, st129⟩ := s_aastore A122 hZ rfl (ls := #[.val (.ref a1), .val (.int (Int32.ofNat i)), .val (.ref va), .val (.int (Int32.ofNat F)), .val (.int (Int32.ofNat E)), .val (.int (0 : Int32)), .val (.int (Int32.ofNat a)), .val (.int (Int32.ofNat b))]) (st := []) (y := r106) V117 O118 E110 (i := i) hi (j := (Int32.ofNat i)) rfl d6_90 (pc' := 91) rfl
  have N130 := Fr.snoc A129.1 N112 g83
  have K131 : Keep h0 h129 [sa, ta] := K121.wr W129 (Or.inl (List.mem_of_getElem? (i := 1) rfl))
  have E132 : Exa Z h129 a1 "com/example/pursuant/pursuant/dictionary/BandDictionary" := Exa.wr W129 E113
  have F133 : Fld Z h129 a1 "com/example/pursuant/pursuant/dictionary/BandDictionary" "starts" "[I" (.ref sa) := Fld.other W129 F114 (Or.inl ne78)
  have F134 : Fld Z h129 a1 "com/example/pursuant/pursuant/dictionary/BandDictionary" "stretches" "[[D" (.ref ta) := Fld.other W129 F115 (Or.inl ne78)
  have V135 : Dar Z h129 va .double N (fun t => .double (x t)) := Dar.other W129 V116 ne81
  have O136 : Ovd Z h129 ta := Ovd.wr W129 O118
  have V137 : Dar Z h129 sa .int K (fun j => if j = i then .int (own_s a b F) else fs j) := Dar.other W129 V119 ne79
  have E138 : Exa Z h129 r106 "[D" := Exa.wr W129 E110
  have V139 : Dar Z h129 r106 .double (b - a) (fun t => .double (x (a + t))) := Dar.other W129 V111 (Ne.symm ne127)
  have V140 : Dar Z h129 ta (.array .double) K (fun j => if j = i then .ref r106 else ft j) := Dar.set V117 W129 (fun _ _ => rfl)
  have Z141 : n0 ≤ h129.size := by rw [W129.size]; exact Z120
  refine st129 ?_
  exact g_retV (Q := Q6 Z a1 i va F E N K x sa ta fs ft h0 n0) A129 d6_91 Bd.notSynchronized Bd.returns (by decide) (by decide) (by rw [e129]; exact ⟨a, b, r106, rfl, N130, K131, gh124, V139, V137, V140, ⟨a1F, b1a, b1E, a1z, b1z, fun q => ⟨a1n (Nat.lt_of_lt_of_le q b1E), b1n q⟩⟩⟩)
theorem d3_0 : decode prog_4_method_1_code 0 = .ok (.aload_n 0, 1) := by decide +kernel
theorem d3_1 : decode prog_4_method_1_code 1 = .ok (.invokespecial 1, 3) := by decide +kernel
theorem d3_4 : decode prog_4_method_1_code 4 = .ok (.iload_n 1, 1) := by decide +kernel
theorem d3_5 : decode prog_4_method_1_code 5 = .ok (.iconst 1, 1) := by decide +kernel
theorem d3_6 : decode prog_4_method_1_code 6 = .ok (.if_icmp .lt 8, 3) := by decide +kernel
theorem d3_9 : decode prog_4_method_1_code 9 = .ok (.iload_n 2, 1) := by decide +kernel
theorem d3_10 : decode prog_4_method_1_code 10 = .ok (.iconst 1, 1) := by decide +kernel
theorem d3_11 : decode prog_4_method_1_code 11 = .ok (.if_icmp .ge 18, 3) := by decide +kernel
theorem d3_14 : decode prog_4_method_1_code 14 = .ok (.new 7, 3) := by decide +kernel
theorem d3_17 : decode prog_4_method_1_code 17 = .ok (.dup, 1) := by decide +kernel
theorem d3_18 : decode prog_4_method_1_code 18 = .ok (.iload_n 1, 1) := by decide +kernel
theorem d3_19 : decode prog_4_method_1_code 19 = .ok (.iload_n 2, 1) := by decide +kernel
theorem d3_20 : decode prog_4_method_1_code 20 = .ok (.invokedynamic 9, 5) := by decide +kernel
theorem d3_25 : decode prog_4_method_1_code 25 = .ok (.invokespecial 13, 3) := by decide +kernel
theorem d3_28 : decode prog_4_method_1_code 28 = .ok (.athrow, 1) := by decide +kernel
theorem d3_29 : decode prog_4_method_1_code 29 = .ok (.aload_n 0, 1) := by decide +kernel
theorem d3_30 : decode prog_4_method_1_code 30 = .ok (.iload_n 1, 1) := by decide +kernel
theorem d3_31 : decode prog_4_method_1_code 31 = .ok (.putfield 16, 3) := by decide +kernel
theorem d3_34 : decode prog_4_method_1_code 34 = .ok (.aload_n 0, 1) := by decide +kernel
theorem d3_35 : decode prog_4_method_1_code 35 = .ok (.iload_n 2, 1) := by decide +kernel
theorem d3_36 : decode prog_4_method_1_code 36 = .ok (.putfield 22, 3) := by decide +kernel
theorem d3_39 : decode prog_4_method_1_code 39 = .ok (.return_, 1) := by decide +kernel
theorem pn_2 : plainName "com/example/pursuant/pursuant/dictionary/Dictionary" = true := by first | (simp [plainName, overriddenIn]; done) | decide +kernel
theorem ef142 (m : MethodId) (a1 : Addr) (u0 : Value) (u1 : Value) (u2 : Value) (u3 : Value) : entryFrame m #[(.ref a1), (.int (3 : Int32)), (.int (3 : Int32))] 3 = mkF m 0 #[.val (.ref a1), .val (.int (3 : Int32)), .val (.int (3 : Int32))] [] := by first | (simp [entryFrame, mkF, argsToLocals, Value.category]; done) | rfl
def Q3 (Z : State) (a1 : Addr) (u0 : Value) (u1 : Value) (u2 : Value) (u3 : Value) (h0 : Heap) (n0 : Nat) (v : Option Value) (h : Heap) (L : List Loc) : Prop := v = none ∧ Fr n0 L ∧ Keep h0 h [a1] ∧ Fld Z h a1 "com/example/pursuant/pursuant/dictionary/BandDictionary" "starts" "[I" u2 ∧ Fld Z h a1 "com/example/pursuant/pursuant/dictionary/BandDictionary" "stretches" "[[D" u3
set_option maxRecDepth 65536 in
set_option maxHeartbeats 40000000 in
theorem rm3 (l : Launch) (Z : State) (a0 : Array Value) (hw : ∀ d ∈ tables_1, d.before a0 Z = true) (ws : List Jvm.Cond) (a1 : Addr) (u0 : Value) (u1 : Value) (u2 : Value) (u3 : Value) (h0 : Heap) (n0 : Nat) (Z0 : n0 ≤ h0.size) (E143 : Exa Z h0 a1 "com/example/pursuant/pursuant/dictionary/BandDictionary") (F144 : Fld Z h0 a1 "com/example/pursuant/pursuant/dictionary/Dictionary" "n" "I" u0) (F145 : Fld Z h0 a1 "com/example/pursuant/pursuant/dictionary/Dictionary" "k" "I" u1) (F146 : Fld Z h0 a1 "com/example/pursuant/pursuant/dictionary/BandDictionary" "starts" "[I" u2) (F147 : Fld Z h0 a1 "com/example/pursuant/pursuant/dictionary/BandDictionary" "stretches" "[[D" u3) (g148 : n0 ≤ a1) :
    MetFree l (⟨"com/example/pursuant/pursuant/dictionary/Dictionary", "<init>", "(II)V"⟩ : MethodName) (head1 (Jvm.Cond.code (⟨"com/example/pursuant/pursuant/dictionary/Dictionary", "<init>", "(II)V"⟩ : MethodName) prog_4_method_1_code 3 none :: ws) ({ frames := 1, cells := 0, slots := 0, locals := 12 } : Room)) (fun a U => a = #[(.ref a1), (.int (3 : Int32)), (.int (3 : Int32))] ∧ Z.Warmed39 U.vm ∧ U.heap = h0) (fun _ _ _ _ _ => True) (fun _ U o U' => ∃ v L, o = .returned v ∧ Q3 Z a1 u0 u1 u2 u3 h0 n0 v U'.heap L ∧ FrameEnd U o U' L 0 0) := by
  refine MetFree.of_bodySF (plainFor_of_name pn_2) hisR ?_
  intro p e s m args below meth c s₁ Bd hml0 hP hK
  obtain ⟨rfl, hZ, hh⟩ := hP
  have hx := Bd.exec
  have hby := Bd.bytes
  have hml : c.maxLocals = 3 := hml0
  have hown : s.vm.findClass "com/example/pursuant/pursuant/dictionary/Dictionary" = some m.cls := findClass_of_methodNamed Bd.named
  have hnm := (name_of_methodNamed Bd.named Bd.method).1
  have X0 : Stand p l e ({ frames := 1, cells := 0, slots := 0, locals := 12 } : Room) s m #[(.ref a1), (.int (3 : Int32)), (.int (3 : Int32))] below meth c s₁ [] 0 0 := Stand.of_body Bd
  have e0 : s₁.heap = h0 := by rw [← hh, Bd.state]; rfl
  have N0 := Fr.nil n0
  have A0 := (⟨X0, hx, hby⟩ : Ax _ _ _ _ _ _ _ _ _ _ _ _ _ _ _)
  show Go p e below (fun U o => ∃ v L, o = .returned v ∧ Q3 Z a1 u0 u1 u2 u3 h0 n0 v U.heap L ∧ FrameEnd s o U L 0 0) s₁ (entryFrame m #[(.ref a1), (.int (3 : Int32)), (.int (3 : Int32))] 3)
  refine Go.cast (ef142 m a1 u0 u1 u2 u3) ?_
  refine g_aloadN A0 d3_0 rfl rfl (pc' := 1) rfl ?_
  obtain ⟨T149, X149, e149, st149⟩ := initO X0 hx hZ hown (hw _ (List.mem_of_getElem? (i := 16) rfl)) (hw _ (List.mem_of_getElem? (i := 17) rfl)) (hw _ (List.mem_of_getElem? (i := 18) rfl)) e0 (g := (mkF m 1 #[.val (.ref a1), .val (.int (3 : Int32)), .val (.int (3 : Int32))] [(.ref a1)])) rfl (by rw [hml]; rfl) rfl (hb hby d3_1) (by decide) (W := 0) (by show 2 * 0 + _ ≤ _; exact Nat.le_of_eq rfl) (by decide)
  refine Go.of (g' := (mkF m 4 #[.val (.ref a1), .val (.int (3 : Int32)), .val (.int (3 : Int32))] [])) st149 ?_
  have A150 := (⟨X149, hx, hby⟩ : Ax _ _ _ _ _ _ _ _ _ _ _ _ _ _ _)
  refine g_iloadN A150 d3_4 rfl (pc' := 5) rfl ?_
  refine g_iconst A150 d3_5 (v := (1 : Int32)) rfl (pc' := 6) rfl ?_
  refine g_icN A150 d3_6 (c2_lt_f (by decide)) (pc' := 9) rfl ?_
  refine g_iloadN A150 d3_9 rfl (pc' := 10) rfl ?_
  refine g_iconst A150 d3_10 (v := (1 : Int32)) rfl (pc' := 11) rfl ?_
  refine g_icY A150 d3_11 (c2_ge_t (by decide)) (pc' := 29) rfl ?_
  refine g_aloadN A150 d3_29 rfl rfl (pc' := 30) rfl ?_
  refine g_iloadN A150 d3_30 rfl (pc' := 31) rfl ?_
  obtain ⟨T151, h151, X151, e151, W151, st151⟩ := putF X149 hx hZ hown (host := "") (Or.inl (hw _ (List.mem_of_getElem? (i := 19) rfl))) Via.refl e149 F144 E143 (Or.inr ⟨(hw _ (List.mem_of_getElem? (i := 20) rfl)), rfl, hnm⟩) (hw _ (List.mem_of_getElem? (i := 6) rfl)) (ty := .int) (by decide) rfl rfl (g := (mkF m 31 #[.val (.ref a1), .val (.int (3 : Int32)), .val (.int (3 : Int32))] [(.int (3 : Int32)), (.ref a1)])) rfl rfl (hb hby d3_31)
  have N152 := Fr.snoc X151 N0 g148
  have K153 : Keep h0 h151 [a1] := (Keep.refl h0 [a1]).wr W151 (Or.inl (List.mem_of_getElem? (i := 0) rfl))
  have E154 : Exa Z h151 a1 "com/example/pursuant/pursuant/dictionary/BandDictionary" := Exa.wr W151 E143
  have F155 : Fld Z h151 a1 "com/example/pursuant/pursuant/dictionary/Dictionary" "k" "I" u1 := Fld.other W151 F145 (Or.inr (slot_ne (Or.inr (hw _ (List.mem_of_getElem? (i := 22) rfl))) (Or.inr (hw _ (List.mem_of_getElem? (i := 20) rfl))) (by decide) (t := .int) (t' := .int) (by decide) (by decide)))
  have F156 : Fld Z h151 a1 "com/example/pursuant/pursuant/dictionary/BandDictionary" "starts" "[I" u2 := Fld.other W151 F146 (Or.inr (slot_ne (Or.inr (hw _ (List.mem_of_getElem? (i := 29) rfl))) (Or.inr (hw _ (List.mem_of_getElem? (i := 20) rfl))) (by decide) (t := (.array .int)) (t' := .int) (by decide) (by decide)))
  have F157 : Fld Z h151 a1 "com/example/pursuant/pursuant/dictionary/BandDictionary" "stretches" "[[D" u3 := Fld.other W151 F147 (Or.inr (slot_ne (Or.inr (hw _ (List.mem_of_getElem? (i := 33) rfl))) (Or.inr (hw _ (List.mem_of_getElem? (i := 20) rfl))) (by decide) (t := (.array (.array .double))) (t' := .int) (by decide) (by decide)))
  have F158 : Fld Z h151 a1 "com/example/pursuant/pursuant/dictionary/Dictionary" "n" "I" (.int (3 : Int32)) := Fld.same W151 F144
  have Z159 : n0 ≤ h151.size := by rw [W151.size]; exact Z0
  refine Go.of (g' := (mkF m 34 #[.val (.ref a1), .val (.int (3 : Int32)), .val (.int (3 : Int32))] [])) st151 ?_
  have A160 := (⟨X151, hx, hby⟩ : Ax _ _ _ _ _ _ _ _ _ _ _ _ _ _ _)
  refine g_aloadN A160 d3_34 rfl rfl (pc' := 35) rfl ?_
  refine g_iloadN A160 d3_35 rfl (pc' := 36) rfl ?_
  obtain ⟨T161, h161, X161, e161, W161, st161⟩ := putF X151 hx hZ hown (host := "") (Or.inl (hw _ (List.mem_of_getElem? (i := 21) rfl))) Via.refl e151 F155 E154 (Or.inr ⟨(hw _ (List.mem_of_getElem? (i := 22) rfl)), rfl, hnm⟩) (hw _ (List.mem_of_getElem? (i := 6) rfl)) (ty := .int) (by decide) rfl rfl (g := (mkF m 36 #[.val (.ref a1), .val (.int (3 : Int32)), .val (.int (3 : Int32))] [(.int (3 : Int32)), (.ref a1)])) rfl rfl (hb hby d3_36)
  have N162 := Fr.snoc X161 N152 g148
  have K163 : Keep h0 h161 [a1] := K153.wr W161 (Or.inl (List.mem_of_getElem? (i := 0) rfl))
  have E164 : Exa Z h161 a1 "com/example/pursuant/pursuant/dictionary/BandDictionary" := Exa.wr W161 E154
  have F165 : Fld Z h161 a1 "com/example/pursuant/pursuant/dictionary/BandDictionary" "starts" "[I" u2 := Fld.other W161 F156 (Or.inr (slot_ne (Or.inr (hw _ (List.mem_of_getElem? (i := 29) rfl))) (Or.inr (hw _ (List.mem_of_getElem? (i := 22) rfl))) (by decide) (t := (.array .int)) (t' := .int) (by decide) (by decide)))
  have F166 : Fld Z h161 a1 "com/example/pursuant/pursuant/dictionary/BandDictionary" "stretches" "[[D" u3 := Fld.other W161 F157 (Or.inr (slot_ne (Or.inr (hw _ (List.mem_of_getElem? (i := 33) rfl))) (Or.inr (hw _ (List.mem_of_getElem? (i := 22) rfl))) (by decide) (t := (.array (.array .double))) (t' := .int) (by decide) (by decide)))
  have F167 : Fld Z h161 a1 "com/example/pursuant/pursuant/dictionary/Dictionary" "n" "I" (.int (3 : Int32)) := Fld.other W161 F158 (Or.inr (slot_ne (Or.inr (hw _ (List.mem_of_getElem? (i := 20) rfl))) (Or.inr (hw _ (List.mem_of_getElem? (i := 22) rfl))) (by decide) (t := .int) (t' := .int) (by decide) (by decide)))
  have F168 : Fld Z h161 a1 "com/example/pursuant/pursuant/dictionary/Dictionary" "k" "I" (.int (3 : Int32)) := Fld.same W161 F155
  have Z169 : n0 ≤ h161.size := by rw [W161.size]; exact Z159
  refine Go.of (g' := (mkF m 39 #[.val (.ref a1), .val (.int (3 : Int32)), .val (.int (3 : Int32))] [])) st161 ?_
  have A170 := (⟨X161, hx, hby⟩ : Ax _ _ _ _ _ _ _ _ _ _ _ _ _ _ _)
  exact g_retV (Q := Q3 Z a1 u0 u1 u2 u3 h0 n0) A170 d3_39 Bd.notSynchronized Bd.returns (by decide) (by decide) (by rw [e161]; exact ⟨rfl, N162, K163, F165, F166⟩)
theorem d5_0 : decode prog_4_method_28_code 0 = .ok (.aload_n 2, 1) := by decide +kernel
theorem d5_1 : decode prog_4_method_28_code 1 = .ok (.arraylength, 1) := by decide +kernel
theorem d5_2 : decode prog_4_method_28_code 2 = .ok (.i2l, 1) := by decide +kernel
theorem d5_3 : decode prog_4_method_28_code 3 = .ok (.iload_n 0, 1) := by decide +kernel
theorem d5_4 : decode prog_4_method_28_code 4 = .ok (.i2l, 1) := by decide +kernel
theorem d5_5 : decode prog_4_method_28_code 5 = .ok (.iload_n 1, 1) := by decide +kernel
theorem d5_6 : decode prog_4_method_28_code 6 = .ok (.i2l, 1) := by decide +kernel
theorem d5_7 : decode prog_4_method_28_code 7 = .ok (.lmul, 1) := by decide +kernel
theorem d5_8 : decode prog_4_method_28_code 8 = .ok (.lcmp, 1) := by decide +kernel
theorem d5_9 : decode prog_4_method_28_code 9 = .ok (.ifCond .eq 25, 3) := by decide +kernel
theorem d5_12 : decode prog_4_method_28_code 12 = .ok (.new 7, 3) := by decide +kernel
theorem d5_15 : decode prog_4_method_28_code 15 = .ok (.dup, 1) := by decide +kernel
theorem d5_16 : decode prog_4_method_28_code 16 = .ok (.aload_n 2, 1) := by decide +kernel
theorem d5_17 : decode prog_4_method_28_code 17 = .ok (.arraylength, 1) := by decide +kernel
theorem d5_18 : decode prog_4_method_28_code 18 = .ok (.iload_n 0, 1) := by decide +kernel
theorem d5_19 : decode prog_4_method_28_code 19 = .ok (.i2l, 1) := by decide +kernel
theorem d5_20 : decode prog_4_method_28_code 20 = .ok (.iload_n 1, 1) := by decide +kernel
theorem d5_21 : decode prog_4_method_28_code 21 = .ok (.i2l, 1) := by decide +kernel
theorem d5_22 : decode prog_4_method_28_code 22 = .ok (.lmul, 1) := by decide +kernel
theorem d5_23 : decode prog_4_method_28_code 23 = .ok (.iload_n 0, 1) := by decide +kernel
theorem d5_24 : decode prog_4_method_28_code 24 = .ok (.iload_n 1, 1) := by decide +kernel
theorem d5_25 : decode prog_4_method_28_code 25 = .ok (.invokedynamic 117, 5) := by decide +kernel
theorem d5_30 : decode prog_4_method_28_code 30 = .ok (.invokespecial 13, 3) := by decide +kernel
theorem d5_33 : decode prog_4_method_28_code 33 = .ok (.athrow, 1) := by decide +kernel
theorem d5_34 : decode prog_4_method_28_code 34 = .ok (.return_, 1) := by decide +kernel
theorem ef171 (m : MethodId) (va : Addr) (f : Nat → Value) : entryFrame m #[(.int (3 : Int32)), (.int (3 : Int32)), (.ref va)] 3 = mkF m 0 #[.val (.int (3 : Int32)), .val (.int (3 : Int32)), .val (.ref va)] [] := by first | (simp [entryFrame, mkF, argsToLocals, Value.category]; done) | rfl
def Q5 (Z : State) (va : Addr) (f : Nat → Value) (h0 : Heap) (n0 : Nat) (v : Option Value) (h : Heap) (L : List Loc) : Prop := v = none ∧ Fr n0 L ∧ h = h0
set_option maxRecDepth 65536 in
set_option maxHeartbeats 40000000 in
theorem rm5 (l : Launch) (Z : State) (a0 : Array Value) (hw : ∀ d ∈ tables_1, d.before a0 Z = true) (ws : List Jvm.Cond) (va : Addr) (f : Nat → Value) (h0 : Heap) (n0 : Nat) (Z0 : n0 ≤ h0.size) (V172 : Dar Z h0 va .double 9 f) :
    MetFree l (⟨"com/example/pursuant/pursuant/dictionary/Dictionary", "checkValueCount", "(II[D)V"⟩ : MethodName) (head1 (Jvm.Cond.code (⟨"com/example/pursuant/pursuant/dictionary/Dictionary", "checkValueCount", "(II[D)V"⟩ : MethodName) prog_4_method_28_code 3 none :: ws) ({ frames := 0, cells := 0, slots := 0, locals := 0 } : Room)) (fun a U => a = #[(.int (3 : Int32)), (.int (3 : Int32)), (.ref va)] ∧ Z.Warmed39 U.vm ∧ U.heap = h0) (fun _ _ _ _ _ => True) (fun _ U o U' => ∃ v L, o = .returned v ∧ Q5 Z va f h0 n0 v U'.heap L ∧ FrameEnd U o U' L 0 0) := by
  refine MetFree.of_bodySF (plainFor_of_name pn_2) hisR ?_
  intro p e s m args below meth c s₁ Bd hml0 hP hK
  obtain ⟨rfl, hZ, hh⟩ := hP
  have hx := Bd.exec
  have hby := Bd.bytes
  have hml : c.maxLocals = 3 := hml0
  have hown : s.vm.findClass "com/example/pursuant/pursuant/dictionary/Dictionary" = some m.cls := findClass_of_methodNamed Bd.named
  have hnm := (name_of_methodNamed Bd.named Bd.method).1
  have X0 : Stand p l e ({ frames := 0, cells := 0, slots := 0, locals := 0 } : Room) s m #[(.int (3 : Int32)), (.int (3 : Int32)), (.ref va)] below meth c s₁ [] 0 0 := Stand.of_body Bd
  have e0 : s₁.heap = h0 := by rw [← hh, Bd.state]; rfl
  have N0 := Fr.nil n0
  have A0 := (⟨X0, hx, hby⟩ : Ax _ _ _ _ _ _ _ _ _ _ _ _ _ _ _)
  show Go p e below (fun U o => ∃ v L, o = .returned v ∧ Q5 Z va f h0 n0 v U.heap L ∧ FrameEnd s o U L 0 0) s₁ (entryFrame m #[(.int (3 : Int32)), (.int (3 : Int32)), (.ref va)] 3)
  refine Go.cast (ef171 m va f) ?_
  refine g_aloadN A0 d5_0 rfl rfl (pc' := 1) rfl ?_
  refine g_alen A0 hZ e0 V172 d5_1 (z := (9 : Int32)) rfl (pc' := 2) rfl ?_
  refine g_i2l A0 d5_2 (pc' := 3) rfl ?_
  refine g_iloadN A0 d5_3 rfl (pc' := 4) rfl ?_
  refine g_i2l A0 d5_4 (pc' := 5) rfl ?_
  refine g_iloadN A0 d5_5 rfl (pc' := 6) rfl ?_
  refine g_i2l A0 d5_6 (pc' := 7) rfl ?_
  refine g_lmul A0 d5_7 (pc' := 8) rfl ?_
  refine g_lcmp A0 d5_8 (pc' := 9) rfl ?_
  refine g_ifY A0 d5_9 (c0_eq_t ((l_eq ((9 : Int32).toInt64) (((3 : Int32).toInt64) * ((3 : Int32).toInt64))).mpr (by decide))) (pc' := 34) rfl ?_
  exact g_retV (Q := Q5 Z va f h0 n0) A0 d5_34 Bd.notSynchronized Bd.returns (by decide) (by decide) (by rw [e0]; exact ⟨rfl, N0, rfl⟩)
theorem d2_0 : decode prog_1_method_1_code 0 = .ok (.aload_n 0, 1) := by decide +kernel
theorem d2_1 : decode prog_1_method_1_code 1 = .ok (.iload_n 1, 1) := by decide +kernel
theorem d2_2 : decode prog_1_method_1_code 2 = .ok (.iload_n 2, 1) := by decide +kernel
theorem d2_3 : decode prog_1_method_1_code 3 = .ok (.invokespecial 1, 3) := by decide +kernel
theorem d2_6 : decode prog_1_method_1_code 6 = .ok (.iload_n 1, 1) := by decide +kernel
theorem d2_7 : decode prog_1_method_1_code 7 = .ok (.iload_n 2, 1) := by decide +kernel
theorem d2_8 : decode prog_1_method_1_code 8 = .ok (.aload_n 3, 1) := by decide +kernel
theorem d2_9 : decode prog_1_method_1_code 9 = .ok (.invokestatic 7, 3) := by decide +kernel
theorem d2_12 : decode prog_1_method_1_code 12 = .ok (.aload_n 0, 1) := by decide +kernel
theorem d2_13 : decode prog_1_method_1_code 13 = .ok (.iload_n 2, 1) := by decide +kernel
theorem d2_14 : decode prog_1_method_1_code 14 = .ok (.newarray .int, 2) := by decide +kernel
theorem d2_16 : decode prog_1_method_1_code 16 = .ok (.putfield 13, 3) := by decide +kernel
theorem d2_19 : decode prog_1_method_1_code 19 = .ok (.aload_n 0, 1) := by decide +kernel
theorem d2_20 : decode prog_1_method_1_code 20 = .ok (.iload_n 2, 1) := by decide +kernel
theorem d2_21 : decode prog_1_method_1_code 21 = .ok (.anewarray 17, 3) := by decide +kernel
theorem d2_24 : decode prog_1_method_1_code 24 = .ok (.putfield 19, 3) := by decide +kernel
theorem d2_27 : decode prog_1_method_1_code 27 = .ok (.iconst 0, 1) := by decide +kernel
theorem d2_28 : decode prog_1_method_1_code 28 = .ok (.istore 4, 2) := by decide +kernel
theorem d2_30 : decode prog_1_method_1_code 30 = .ok (.iload 4, 2) := by decide +kernel
theorem d2_32 : decode prog_1_method_1_code 32 = .ok (.iload_n 2, 1) := by decide +kernel
theorem d2_33 : decode prog_1_method_1_code 33 = .ok (.if_icmp .ge 27, 3) := by decide +kernel
theorem d2_36 : decode prog_1_method_1_code 36 = .ok (.aload_n 0, 1) := by decide +kernel
theorem d2_37 : decode prog_1_method_1_code 37 = .ok (.iload 4, 2) := by decide +kernel
theorem d2_39 : decode prog_1_method_1_code 39 = .ok (.aload_n 3, 1) := by decide +kernel
theorem d2_40 : decode prog_1_method_1_code 40 = .ok (.iload 4, 2) := by decide +kernel
theorem d2_42 : decode prog_1_method_1_code 42 = .ok (.iload_n 1, 1) := by decide +kernel
theorem d2_43 : decode prog_1_method_1_code 43 = .ok (.imul, 1) := by decide +kernel
theorem d2_44 : decode prog_1_method_1_code 44 = .ok (.iload 4, 2) := by decide +kernel
theorem d2_46 : decode prog_1_method_1_code 46 = .ok (.iload_n 1, 1) := by decide +kernel
theorem d2_47 : decode prog_1_method_1_code 47 = .ok (.imul, 1) := by decide +kernel
theorem d2_48 : decode prog_1_method_1_code 48 = .ok (.iload_n 1, 1) := by decide +kernel
theorem d2_49 : decode prog_1_method_1_code 49 = .ok (.iadd, 1) := by decide +kernel
theorem d2_50 : decode prog_1_method_1_code 50 = .ok (.iconst 0, 1) := by decide +kernel
theorem d2_51 : decode prog_1_method_1_code 51 = .ok (.invokevirtual 23, 3) := by decide +kernel
theorem d2_54 : decode prog_1_method_1_code 54 = .ok (.iinc 4 1, 3) := by decide +kernel
theorem d2_57 : decode prog_1_method_1_code 57 = .ok (.goto (-27), 3) := by decide +kernel
theorem d2_60 : decode prog_1_method_1_code 60 = .ok (.return_, 1) := by decide +kernel
theorem ef173 (m : MethodId) (a1 : Addr) (va : Addr) (x : Nat → UInt64) (u0 : Value) (u1 : Value) (u2 : Value) (u3 : Value) : entryFrame m #[(.ref a1), (.int (3 : Int32)), (.int (3 : Int32)), (.ref va)] 5 = mkF m 0 #[.val (.ref a1), .val (.int (3 : Int32)), .val (.int (3 : Int32)), .val (.ref va), .unset] [] := by first | (simp [entryFrame, mkF, argsToLocals, Value.category]; done) | rfl
def Q2 (Z : State) (a1 : Addr) (va : Addr) (x : Nat → UInt64) (u0 : Value) (u1 : Value) (u2 : Value) (u3 : Value) (h0 : Heap) (n0 : Nat) (v : Option Value) (h : Heap) (L : List Loc) : Prop := ∃ sa : Addr, ∃ ta : Addr, ∃ ra0 : Nat, ∃ rb0 : Nat, ∃ r0 : Addr, ∃ ra1 : Nat, ∃ rb1 : Nat, ∃ r1 : Addr, ∃ ra2 : Nat, ∃ rb2 : Nat, ∃ r2 : Addr, v = none ∧ Fr n0 L ∧ Keep h0 h [a1] ∧ h0.size ≤ sa ∧ h0.size ≤ ta ∧ Fld Z h a1 "com/example/pursuant/pursuant/dictionary/BandDictionary" "starts" "[I" (.ref sa) ∧ Fld Z h a1 "com/example/pursuant/pursuant/dictionary/BandDictionary" "stretches" "[[D" (.ref ta) ∧ h0.size ≤ r0 ∧ Dar Z h r0 .double (rb0 - ra0) (fun t => .double (x (ra0 + t))) ∧ h0.size ≤ r1 ∧ Dar Z h r1 .double (rb1 - ra1) (fun t => .double (x (ra1 + t))) ∧ h0.size ≤ r2 ∧ Dar Z h r2 .double (rb2 - ra2) (fun t => .double (x (ra2 + t))) ∧ Dar Z h sa .int 3 (fun j => if j = 2 then .int (own_s ra2 rb2 6) else (fun j => if j = 1 then .int (own_s ra1 rb1 3) else (fun j => if j = 0 then .int (own_s ra0 rb0 0) else (fun _ => .int (0 : Int32)) j) j) j) ∧ Dar Z h ta (.array .double) 3 (fun j => if j = 2 then .ref r2 else (fun j => if j = 1 then .ref r1 else (fun j => if j = 0 then .ref r0 else (fun _ => .null) j) j) j) ∧ own_S x 0 3 ra0 rb0 ∧ own_S x 3 6 ra1 rb1 ∧ own_S x 6 9 ra2 rb2
theorem pd_3 : parseMethodDescriptor "(II[D)V" = some ⟨[.int, .int, (.array .double)], none⟩ := by decide +kernel
theorem own_callSU {p : Program} {l : Launch} {e : Env} {R : Room} {s : State} {m : MethodId} {args : Array Value} {below : List Frame} {meth : Method} {c : Code} {T : State} {locs : List Loc} {cells slots : Nat} (X : Stand p l e R s m args below meth c T locs cells slots) (hexec : p.tables.exec = Jvm.exec) {own owner : String} {index : Nat} {x : MethodName} {bytes : ByteArray} {maxL : Nat} {ret : Option FieldType}
    (hown : s.vm.findClass own = some m.cls) (hlink : (Jvm.Cond.methodLink own index x).before args s = true) (hsame : (Jvm.Cond.sameMethod x.cls owner x.name x.desc).before args s = true)
    (hstat : (Jvm.Cond.static ⟨owner, x.name, x.desc⟩).before args s = true) (hinit : (Jvm.Cond.initialized owner).before args s = true) (hcode : (Jvm.Cond.code ⟨owner, x.name, x.desc⟩ bytes maxL ret).before args s = true)
    (howner : owner ≠ "java/lang/invoke/MethodHandle" ∧ owner ≠ "java/lang/invoke/VarHandle")
    {W : Nat} {Pre : Pt → Array Value → Prop} {Post : Pt → Array Value → Option Value → Pt → Prop} (hK : Back l R p e below s args ⟨owner, x.name, x.desc⟩ 3 W Pre Post)
    {g : JFrame} (hg : g.method = m) (hsize : g.locals.size = c.maxLocals) {argsL rest : List Value} (hlen : ∀ sig, parseMethodDescriptor x.desc = some sig → argsL.length = sig.parameters.length)
    (hstack : g.stack = argsL.reverse ++ rest) (hW : 2 * g.monitorRoom + (rest.map fun v => v.category).sum ≤ W) (hdg : decode c.code g.pc = .ok (.invokestatic index, 3))
    (hpre : ∀ vm₁, s.WarmedH vm₁ → Pre ⟨T.setVm vm₁, locs, cells, slots⟩ argsL.toArray) :
    ∃ (v : Option Value) (vm₁ : Vm) (B : Pt), s.WarmedH vm₁ ∧ Stand p l e R s m args below meth c B.U B.locs B.cells B.slots ∧ Post ⟨T.setVm vm₁, locs, cells, slots⟩ argsL.toArray v B ∧
      ∀ target, Steps p.tables e below (B.U.setTop { g with pc := g.pc + 3, stack := v.toList ++ rest }) target → Steps p.tables e below (T.setTop g) target := by
  obtain ⟨mk, hnamed⟩ := Cond.code_named hcode
  obtain ⟨methM, cM, hmethM, -, -, -, -, -, -, hsigM⟩ := Cond.code_spec hnamed hcode
  obtain ⟨v, vm₁, B, h1, h2, h3, h4⟩ := X.staticBackUp hexec hown hlink hsame hstat hinit hnamed hmethM hsigM howner hK hg hsize (Steps.refl _) hlen hstack hW hdg hpre
  exact ⟨v, vm₁, B, h1, h2, h3, fun target h => h4.trans h⟩
theorem pd_4 : parseMethodDescriptor "(I[DIII)V" = some ⟨[.int, (.array .double), .int, .int, .int], none⟩ := by decide +kernel
theorem own_selP {s : State} {args : Array Value} {y : MethodName} {n : Nat} (hi : (Jvm.Cond.instantiable y.cls n).before args s = true) (hpriv : s.PrivateAt y) (hinst : (Jvm.Cond.instanceMethod y).before args s = true) (hy : y.cls ≠ "java/lang/invoke/MethodHandle" ∧ y.cls ≠ "java/lang/invoke/VarHandle") : (Jvm.Cond.selects y.cls y y).before args s = true := by
  obtain ⟨c, k, h1, h2, -, h3, -⟩ := Cond.instantiable_spec hi
  exact Stand.selects_self_of_private h1 h2 (by cases q : k.isInterface with | false => rfl | true => rw [q] at h3; cases h3) hpriv hinst hy
set_option maxRecDepth 65536 in
set_option maxHeartbeats 40000000 in
theorem rm2 (l : Launch) (Z : State) (a0 : Array Value) (hw : ∀ d ∈ tables_1, d.before a0 Z = true) (ws : List Jvm.Cond) (a1 : Addr) (va : Addr) (x : Nat → UInt64) (u0 : Value) (u1 : Value) (u2 : Value) (u3 : Value) (h0 : Heap) (n0 : Nat) (Z0 : n0 ≤ h0.size) (E174 : Exa Z h0 a1 "com/example/pursuant/pursuant/dictionary/BandDictionary") (F175 : Fld Z h0 a1 "com/example/pursuant/pursuant/dictionary/Dictionary" "n" "I" u0) (F176 : Fld Z h0 a1 "com/example/pursuant/pursuant/dictionary/Dictionary" "k" "I" u1) (F177 : Fld Z h0 a1 "com/example/pursuant/pursuant/dictionary/BandDictionary" "starts" "[I" u2) (F178 : Fld Z h0 a1 "com/example/pursuant/pursuant/dictionary/BandDictionary" "stretches" "[[D" u3) (V179 : Dar Z h0 va .double 9 (fun t => .double (x t))) (g180 : n0 ≤ a1) (ne181 : va ≠ a1) :
    MetFree l (⟨"com/example/pursuant/pursuant/dictionary/BandDictionary", "<init>", "(II[D)V"⟩ : MethodName) (head1 (Jvm.Cond.code (⟨"com/example/pursuant/pursuant/dictionary/BandDictionary", "<init>", "(II[D)V"⟩ : MethodName) prog_1_method_1_code 5 none :: ws) ({ frames := 4, cells := 5, slots := 15, locals := 69 } : Room)) (fun a U => a = #[(.ref a1), (.int (3 : Int32)), (.int (3 : Int32)), (.ref va)] ∧ Z.Warmed39 U.vm ∧ U.heap = h0) (fun _ _ _ _ _ => True) (fun _ U o U' => ∃ v L, o = .returned v ∧ Q2 Z a1 va x u0 u1 u2 u3 h0 n0 v U'.heap L ∧ FrameEnd U o U' L 5 15) := by
  refine MetFree.of_bodySF (plainFor_of_name pn_1) hisR ?_
  intro p e s m args below meth c s₁ Bd hml0 hP hK
  obtain ⟨rfl, hZ, hh⟩ := hP
  have hx := Bd.exec
  have hby := Bd.bytes
  have hml : c.maxLocals = 5 := hml0
  have hown : s.vm.findClass "com/example/pursuant/pursuant/dictionary/BandDictionary" = some m.cls := findClass_of_methodNamed Bd.named
  have hnm := (name_of_methodNamed Bd.named Bd.method).1
  have X0 : Stand p l e ({ frames := 4, cells := 5, slots := 15, locals := 69 } : Room) s m #[(.ref a1), (.int (3 : Int32)), (.int (3 : Int32)), (.ref va)] below meth c s₁ [] 0 0 := Stand.of_body Bd
  have e0 : s₁.heap = h0 := by rw [← hh, Bd.state]; rfl
  have N0 := Fr.nil n0
  have A0 := (⟨X0, hx, hby⟩ : Ax _ _ _ _ _ _ _ _ _ _ _ _ _ _ _)
  show Go p e below (fun U o => ∃ v L, o = .returned v ∧ Q2 Z a1 va x u0 u1 u2 u3 h0 n0 v U.heap L ∧ FrameEnd s o U L 5 15) s₁ (entryFrame m #[(.ref a1), (.int (3 : Int32)), (.int (3 : Int32)), (.ref va)] 5)
  refine Go.cast (ef173 m a1 va x u0 u1 u2 u3) ?_
  refine g_aloadN A0 d2_0 rfl rfl (pc' := 1) rfl ?_
  refine g_iloadN A0 d2_1 rfl (pc' := 2) rfl ?_
  refine g_iloadN A0 d2_2 rfl (pc' := 3) rfl ?_
  obtain ⟨vv182, _, ⟨T182, L182, k182, n182⟩, -, X182, ⟨L182c, hQ182, l182, y182, z182⟩, st182⟩ := X0.specialBack hx (y := (⟨"com/example/pursuant/pursuant/dictionary/Dictionary", "<init>", "(II)V"⟩ : MethodName)) rfl hown (mvT hZ (hw _ (List.mem_of_getElem? (i := 11) rfl))) (mvT hZ (hw _ (List.mem_of_getElem? (i := 12) rfl))) (mvT hZ (hw _ (List.mem_of_getElem? (i := 15) rfl))) (by decide) (backOf (W := 0) (rm3 l Z a0 hw [] a1 u0 u1 u2 u3 h0 n0 Z0 E174 F175 F176 F177 F178 g180) hZ (hw _ (List.mem_of_getElem? (i := 15) rfl)) (hw _ (List.mem_of_getElem? (i := 14) rfl)) (by decide) (by decide)) (g := (mkF m 3 #[.val (.ref a1), .val (.int (3 : Int32)), .val (.int (3 : Int32)), .val (.ref va), .unset] [(.int (3 : Int32)), (.int (3 : Int32)), (.ref a1)])) rfl (by rw [hml]; rfl) (Steps.refl _) (a := a1) (argsL := [(.int (3 : Int32)), (.int (3 : Int32))]) (rest := []) (lenOf pd_0 rfl) rfl (by show 2 * 0 + _ ≤ _; exact Nat.le_of_eq rfl) (hb hby d2_3) (fun _ _ => ⟨rfl, e0, (by decide : 0 + 0 ≤ _), (by decide : 0 + 0 ≤ _)⟩)
  have hQ182b : Q3 Z a1 u0 u1 u2 u3 h0 n0 vv182 T182.heap L182c := hQ182
  clear hQ182
  dsimp only [Pt.U, Pt.locs, Pt.cells, Pt.slots] at X182 l182 y182 z182 st182
  subst y182 z182
  obtain ⟨rfl, Nq183, Kq184, F185, F186⟩ := hQ182b
  have N187 : Fr n0 L182 := by rw [l182]; exact Fr.app N0 Nq183
  refine Go.tr (g' := (mkF m 6 #[.val (.ref a1), .val (.int (3 : Int32)), .val (.int (3 : Int32)), .val (.ref va), .unset] [])) st182 ?_
  have E188 : Exa Z T182.heap a1 "com/example/pursuant/pursuant/dictionary/BandDictionary" := Exa.keep E174 Kq184
  have V189 : Dar Z T182.heap va .double 9 (fun t => .double (x t)) := Dar.keep V179 Kq184 (ninS ne181 nin0)
  have Z190 : n0 ≤ T182.heap.size := Nat.le_trans Z0 Kq184.1
  have K191 : Keep h0 T182.heap [a1] := (Keep.refl h0 [a1]).trans Kq184 (allS (Or.inl (List.mem_of_getElem? (i := 0) rfl)) all0)
  have A192 := (⟨X182, hx, hby⟩ : Ax _ _ _ _ _ _ _ _ _ _ _ _ _ _ _)
  refine g_iloadN A192 d2_6 rfl (pc' := 7) rfl ?_
  refine g_iloadN A192 d2_7 rfl (pc' := 8) rfl ?_
  refine g_aloadN A192 d2_8 rfl rfl (pc' := 9) rfl ?_
  obtain ⟨vv193, _, ⟨T193, L193, k193, n193⟩, -, X193, ⟨L193c, hQ193, l193, y193, z193⟩, st193⟩ := own_callSU X182 hx (x := (⟨"com/example/pursuant/pursuant/dictionary/BandDictionary", "checkValueCount", "(II[D)V"⟩ : MethodName)) (owner := "com/example/pursuant/pursuant/dictionary/Dictionary") hown (mvT hZ (hw _ (List.mem_of_getElem? (i := 23) rfl))) (mvT hZ (hw _ (List.mem_of_getElem? (i := 24) rfl))) (mvT hZ (hw _ (List.mem_of_getElem? (i := 25) rfl))) (mvT hZ (hw _ (List.mem_of_getElem? (i := 14) rfl))) (mvT hZ (hw _ (List.mem_of_getElem? (i := 26) rfl))) (by decide) (backOf (W := 0) (rm5 l Z a0 hw [] va (fun t => .double (x t)) T182.heap n0 Z190 V189) hZ (hw _ (List.mem_of_getElem? (i := 26) rfl)) (hw _ (List.mem_of_getElem? (i := 14) rfl)) (by decide) (by decide)) (g := (mkF m 9 #[.val (.ref a1), .val (.int (3 : Int32)), .val (.int (3 : Int32)), .val (.ref va), .unset] [(.ref va), (.int (3 : Int32)), (.int (3 : Int32))])) rfl (by rw [hml]; rfl) (argsL := [(.int (3 : Int32)), (.int (3 : Int32)), (.ref va)]) (rest := []) (lenOf pd_3 rfl) rfl (by show 2 * 0 + _ ≤ _; exact Nat.le_of_eq rfl) (hb hby d2_9) (fun _ _ => ⟨rfl, rfl, (by decide : 0 + 0 ≤ _), (by decide : 0 + 0 ≤ _)⟩)
  have hQ193b : Q5 Z va (fun t => .double (x t)) T182.heap n0 vv193 T193.heap L193c := hQ193
  clear hQ193
  dsimp only [Pt.U, Pt.locs, Pt.cells, Pt.slots] at X193 l193 y193 z193 st193
  subst y193 z193
  obtain ⟨rfl, Nq194, Kq195⟩ := hQ193b
  have N196 : Fr n0 L193 := by rw [l193]; exact Fr.app N187 Nq194
  refine Go.of (g' := (mkF m 12 #[.val (.ref a1), .val (.int (3 : Int32)), .val (.int (3 : Int32)), .val (.ref va), .unset] [])) st193 ?_
  have e197 : T193.heap = T182.heap := Kq195
  have A198 := (⟨X193, hx, hby⟩ : Ax _ _ _ _ _ _ _ _ _ _ _ _ _ _ _)
  refine g_aloadN A198 d2_12 rfl rfl (pc' := 13) rfl ?_
  refine g_iloadN A198 d2_13 rfl (pc' := 14) rfl ?_
  obtain ⟨T199, h199, k199, X199, e199, E199, Ar199, Ex199, st199⟩ := newPE X193 hx hZ (hw _ (List.mem_of_getElem? (i := 27) rfl)) e197 (g := (mkF m 14 #[.val (.ref a1), .val (.int (3 : Int32)), .val (.int (3 : Int32)), .val (.ref va), .unset] [(.int (3 : Int32)), (.ref a1)])) rfl (hb hby d2_14) rfl (by decide) (cap := 3) (by decide) (by decide) (by decide) (by decide) (ad := "[I") rfl
  obtain ⟨b200, eb200⟩ : ∃ z, z = T182.heap.size := ⟨_, rfl⟩
  rw [← eb200] at Ar199 st199 Ex199
  have ne201 : a1 ≠ b200 := own_ne eb200 E188.lt
  have ne202 : va ≠ b200 := own_ne eb200 V189.lt
  have g203 : n0 ≤ b200 := by rw [eb200]; exact Z190
  have gh204 : h0.size ≤ b200 := by rw [eb200]; exact K191.1
  have K205 : Keep h0 h199 [a1] := K191.ext E199
  have E206 : Exa Z h199 a1 "com/example/pursuant/pursuant/dictionary/BandDictionary" := Exa.ext E199 E188
  have V207 : Dar Z h199 va .double 9 (fun t => .double (x t)) := Dar.ext E199 V189
  have F208 : Fld Z h199 a1 "com/example/pursuant/pursuant/dictionary/BandDictionary" "starts" "[I" u2 := Fld.ext E199 F185
  have F209 : Fld Z h199 a1 "com/example/pursuant/pursuant/dictionary/BandDictionary" "stretches" "[[D" u3 := Fld.ext E199 F186
  have Z210 : n0 ≤ h199.size := Nat.le_trans Z190 E199.1
  have V211 : Dar Z h199 b200 .int 3 (fun _ => .int (0 : Int32)) := Dar.new Ar199 (by decide)
  refine Go.of (g' := (mkF m 16 #[.val (.ref a1), .val (.int (3 : Int32)), .val (.int (3 : Int32)), .val (.ref va), .unset] [(.ref b200), (.ref a1)])) st199 ?_
  have A212 := (⟨X199, hx, hby⟩ : Ax _ _ _ _ _ _ _ _ _ _ _ _ _ _ _)
  obtain ⟨T213, h213, X213, e213, W213, st213⟩ := putF X199 hx hZ hown (host := "") (Or.inl (hw _ (List.mem_of_getElem? (i := 28) rfl))) Via.refl e199 F208 E206 (Or.inr ⟨(hw _ (List.mem_of_getElem? (i := 29) rfl)), rfl, hnm⟩) (hw _ (List.mem_of_getElem? (i := 6) rfl)) (ty := (.array .int)) (by decide) rfl rfl (g := (mkF m 16 #[.val (.ref a1), .val (.int (3 : Int32)), .val (.int (3 : Int32)), .val (.ref va), .unset] [(.ref b200), (.ref a1)])) rfl rfl (hb hby d2_16)
  have N214 := Fr.snoc X213 N196 g180
  have K215 : Keep h0 h213 [a1] := K205.wr W213 (Or.inl (List.mem_of_getElem? (i := 0) rfl))
  have E216 : Exa Z h213 a1 "com/example/pursuant/pursuant/dictionary/BandDictionary" := Exa.wr W213 E206
  have V217 : Dar Z h213 va .double 9 (fun t => .double (x t)) := Dar.other W213 V207 ne181
  have F218 : Fld Z h213 a1 "com/example/pursuant/pursuant/dictionary/BandDictionary" "stretches" "[[D" u3 := Fld.other W213 F209 (Or.inr (slot_ne (Or.inr (hw _ (List.mem_of_getElem? (i := 33) rfl))) (Or.inr (hw _ (List.mem_of_getElem? (i := 29) rfl))) (by decide) (t := (.array (.array .double))) (t' := (.array .int)) (by decide) (by decide)))
  have V219 : Dar Z h213 b200 .int 3 (fun _ => .int (0 : Int32)) := Dar.other W213 V211 (Ne.symm ne201)
  have E220 : Exa Z h213 b200 "[I" := Exa.wr W213 Ex199
  have F221 : Fld Z h213 a1 "com/example/pursuant/pursuant/dictionary/BandDictionary" "starts" "[I" (.ref b200) := Fld.same W213 F208
  have Z222 : n0 ≤ h213.size := by rw [W213.size]; exact Z210
  refine Go.of (g' := (mkF m 19 #[.val (.ref a1), .val (.int (3 : Int32)), .val (.int (3 : Int32)), .val (.ref va), .unset] [])) st213 ?_
  have A223 := (⟨X213, hx, hby⟩ : Ax _ _ _ _ _ _ _ _ _ _ _ _ _ _ _)
  refine g_aloadN A223 d2_19 rfl rfl (pc' := 20) rfl ?_
  refine g_iloadN A223 d2_20 rfl (pc' := 21) rfl ?_
  obtain ⟨T224, h224, k224, X224, e224, E224, Ar224, Ex224, Ov224, st224⟩ := newRA X213 hx hZ hown (C := "[D") rfl (hw _ (List.mem_of_getElem? (i := 30) rfl)) (hw _ (List.mem_of_getElem? (i := 31) rfl)) e213 (g := (mkF m 21 #[.val (.ref a1), .val (.int (3 : Int32)), .val (.int (3 : Int32)), .val (.ref va), .unset] [(.int (3 : Int32)), (.ref a1)])) rfl (hb hby d2_21) rfl (by decide) (cap := 3) (by decide) (by decide) (by decide) (by decide) (ad := "[[D") rfl
  obtain ⟨b225, eb225⟩ : ∃ z, z = h213.size := ⟨_, rfl⟩
  rw [← eb225] at Ar224 st224
  have ne226 : a1 ≠ b225 := own_ne eb225 E216.lt
  have ne227 : b200 ≠ b225 := own_ne eb225 V219.lt
  have ne228 : va ≠ b225 := own_ne eb225 V217.lt
  have g229 : n0 ≤ b225 := by rw [eb225]; exact Z222
  have gh230 : h0.size ≤ b225 := by rw [eb225]; exact K215.1
  have K231 : Keep h0 h224 [a1] := K215.ext E224
  have E232 : Exa Z h224 a1 "com/example/pursuant/pursuant/dictionary/BandDictionary" := Exa.ext E224 E216
  have V233 : Dar Z h224 va .double 9 (fun t => .double (x t)) := Dar.ext E224 V217
  have F234 : Fld Z h224 a1 "com/example/pursuant/pursuant/dictionary/BandDictionary" "stretches" "[[D" u3 := Fld.ext E224 F218
  have V235 : Dar Z h224 b200 .int 3 (fun _ => .int (0 : Int32)) := Dar.ext E224 V219
  have E236 : Exa Z h224 b200 "[I" := Exa.ext E224 E220
  have F237 : Fld Z h224 a1 "com/example/pursuant/pursuant/dictionary/BandDictionary" "starts" "[I" (.ref b200) := Fld.ext E224 F221
  have Z238 : n0 ≤ h224.size := Nat.le_trans Z222 E224.1
  have V239 : Dar Z h224 b225 (.array .double) 3 (fun _ => .null) := Dar.new Ar224 (by decide)
  have O240 : Ovd Z h224 b225 := ⟨_, Ar224.1, Ov224⟩
  refine Go.of (g' := (mkF m 24 #[.val (.ref a1), .val (.int (3 : Int32)), .val (.int (3 : Int32)), .val (.ref va), .unset] [(.ref b225), (.ref a1)])) st224 ?_
  have A241 := (⟨X224, hx, hby⟩ : Ax _ _ _ _ _ _ _ _ _ _ _ _ _ _ _)
  obtain ⟨T242, h242, X242, e242, W242, st242⟩ := putF X224 hx hZ hown (host := "") (Or.inl (hw _ (List.mem_of_getElem? (i := 32) rfl))) Via.refl e224 F234 E232 (Or.inr ⟨(hw _ (List.mem_of_getElem? (i := 33) rfl)), rfl, hnm⟩) (hw _ (List.mem_of_getElem? (i := 6) rfl)) (ty := (.array (.array .double))) (by decide) rfl rfl (g := (mkF m 24 #[.val (.ref a1), .val (.int (3 : Int32)), .val (.int (3 : Int32)), .val (.ref va), .unset] [(.ref b225), (.ref a1)])) rfl rfl (hb hby d2_24)
  have N243 := Fr.snoc X242 N214 g180
  have K244 : Keep h0 h242 [a1] := K231.wr W242 (Or.inl (List.mem_of_getElem? (i := 0) rfl))
  have E245 : Exa Z h242 a1 "com/example/pursuant/pursuant/dictionary/BandDictionary" := Exa.wr W242 E232
  have V246 : Dar Z h242 va .double 9 (fun t => .double (x t)) := Dar.other W242 V233 ne181
  have V247 : Dar Z h242 b200 .int 3 (fun _ => .int (0 : Int32)) := Dar.other W242 V235 (Ne.symm ne201)
  have E248 : Exa Z h242 b200 "[I" := Exa.wr W242 E236
  have F249 : Fld Z h242 a1 "com/example/pursuant/pursuant/dictionary/BandDictionary" "starts" "[I" (.ref b200) := Fld.other W242 F237 (Or.inr (slot_ne (Or.inr (hw _ (List.mem_of_getElem? (i := 29) rfl))) (Or.inr (hw _ (List.mem_of_getElem? (i := 33) rfl))) (by decide) (t := (.array .int)) (t' := (.array (.array .double))) (by decide) (by decide)))
  have V250 : Dar Z h242 b225 (.array .double) 3 (fun _ => .null) := Dar.other W242 V239 (Ne.symm ne226)
  have O251 : Ovd Z h242 b225 := Ovd.wr W242 O240
  have F252 : Fld Z h242 a1 "com/example/pursuant/pursuant/dictionary/BandDictionary" "stretches" "[[D" (.ref b225) := Fld.same W242 F234
  have Z253 : n0 ≤ h242.size := by rw [W242.size]; exact Z238
  refine Go.of (g' := (mkF m 27 #[.val (.ref a1), .val (.int (3 : Int32)), .val (.int (3 : Int32)), .val (.ref va), .unset] [])) st242 ?_
  have A254 := (⟨X242, hx, hby⟩ : Ax _ _ _ _ _ _ _ _ _ _ _ _ _ _ _)
  refine g_iconst A254 d2_27 (v := (0 : Int32)) rfl (pc' := 28) rfl ?_
  refine g_istore A254 d2_28 (ls' := #[.val (.ref a1), .val (.int (3 : Int32)), .val (.int (3 : Int32)), .val (.ref va), .val (.int (0 : Int32))]) rfl (pc' := 30) rfl ?_
  refine g_iload A254 d2_30 rfl (pc' := 32) rfl ?_
  refine g_iloadN A254 d2_32 rfl (pc' := 33) rfl ?_
  refine g_icN A254 d2_33 (c2_ge_f (by decide)) (pc' := 36) rfl ?_
  refine g_aloadN A254 d2_36 rfl rfl (pc' := 37) rfl ?_
  refine g_iload A254 d2_37 rfl (pc' := 39) rfl ?_
  refine g_aloadN A254 d2_39 rfl rfl (pc' := 40) rfl ?_
  refine g_iload A254 d2_40 rfl (pc' := 42) rfl ?_
  refine g_iloadN A254 d2_42 rfl (pc' := 43) rfl ?_
  refine g_imulL A254 d2_43 (z := (0 : Int32)) (by decide) (pc' := 44) rfl ?_
  refine g_iload A254 d2_44 rfl (pc' := 46) rfl ?_
  refine g_iloadN A254 d2_46 rfl (pc' := 47) rfl ?_
  refine g_imulL A254 d2_47 (z := (0 : Int32)) (by decide) (pc' := 48) rfl ?_
  refine g_iloadN A254 d2_48 rfl (pc' := 49) rfl ?_
  refine g_iaddL A254 d2_49 (z := (3 : Int32)) (by decide) (pc' := 50) rfl ?_
  refine g_iconst A254 d2_50 (v := (0 : Int32)) rfl (pc' := 51) rfl ?_
  have hp255 : 0 < 3 := (by decide)
  have hp256 : 0 ≤ 3 := (by decide)
  have hp257 : 3 ≤ 9 := (by decide)
  have hp258 : 9 < 2147483648 := (by decide)
  have hp259 : 3 - 0 ≤ 3 := (by decide)
  have hp260 : 0 < 0 ∨ 3 < 9 := (by decide)
  obtain ⟨cq262, q262a, q262b⟩ := E245.cell
  obtain ⟨vv261, _, ⟨T261, L261, k261, n261⟩, -, X261, ⟨L261c, hQ261, l261, y261, z261⟩, st261⟩ := X242.privateBack hx (y := (⟨"com/example/pursuant/pursuant/dictionary/BandDictionary", "keepStretch", "(I[DIII)V"⟩ : MethodName)) hown (mvT hZ (hw _ (List.mem_of_getElem? (i := 34) rfl))) (mvT hZ (hw _ (List.mem_of_getElem? (i := 35) rfl))) (own_selP (mvT hZ (hw _ (List.mem_of_getElem? (i := 6) rfl))) (Cond.privateMethod_at (mvP hZ (hw _ (List.mem_of_getElem? (i := 36) rfl)) (args := #[]))) (mvT hZ (hw _ (List.mem_of_getElem? (i := 35) rfl))) (by decide)) (Cond.privateMethod_at (mvP hZ (hw _ (List.mem_of_getElem? (i := 36) rfl)) (args := #[]))) (mvT hZ (hw _ (List.mem_of_getElem? (i := 37) rfl))) (by decide) (backOf (W := 0) (rm6 l Z a0 hw [] a1 0 va 0 3 9 3 x b200 b225 (fun _ => .int (0 : Int32)) (fun _ => .null) h242 n0 Z253 E245 F249 F252 V246 V247 V250 O251 ne201 ne226 ne227 ne202 ne228 g203 g229 hp255 hp256 hp257 hp258 hp259 hp260) hZ (hw _ (List.mem_of_getElem? (i := 37) rfl)) (hw _ (List.mem_of_getElem? (i := 7) rfl)) (by decide) (by decide)) (g := (mkF m 51 #[.val (.ref a1), .val (.int (3 : Int32)), .val (.int (3 : Int32)), .val (.ref va), .val (.int (0 : Int32))] [(.int (0 : Int32)), (.int (3 : Int32)), (.int (0 : Int32)), (.ref va), (.int (0 : Int32)), (.ref a1)])) rfl (by rw [hml]; rfl) (Steps.refl _) (a := a1) (by rw [e242]; exact q262a) q262b (argsL := [(.int (0 : Int32)), (.ref va), (.int (0 : Int32)), (.int (3 : Int32)), (.int (0 : Int32))]) (rest := []) (lenOf pd_4 rfl) rfl (by show 2 * 0 + _ ≤ _; exact Nat.le_of_eq rfl) (hb hby d2_51) (fun _ _ => ⟨rfl, e242, (by decide : 2 + 1 ≤ _), (by decide : 6 + 3 ≤ _)⟩)
  have hQ261b : Q6 Z a1 0 va 0 3 9 3 x b200 b225 (fun _ => .int (0 : Int32)) (fun _ => .null) h242 n0 vv261 T261.heap L261c := hQ261
  clear hQ261
  dsimp only [Pt.U, Pt.locs, Pt.cells, Pt.slots] at X261 l261 y261 z261 st261
  subst y261 z261
  obtain ⟨ra263, rb264, r265, rfl, Nq266, Kq267, gx268, V269, V270, V271, hq272⟩ := hQ261b
  have N273 : Fr n0 L261 := by rw [l261]; exact Fr.app N243 Nq266
  refine Go.tr (g' := (mkF m 54 #[.val (.ref a1), .val (.int (3 : Int32)), .val (.int (3 : Int32)), .val (.ref va), .val (.int (0 : Int32))] [])) st261 ?_
  have E274 : Exa Z T261.heap a1 "com/example/pursuant/pursuant/dictionary/BandDictionary" := Exa.keep E245 Kq267
  have V275 : Dar Z T261.heap va .double 9 (fun t => .double (x t)) := Dar.keep V246 Kq267 (ninS ne202 (ninS ne228 nin0))
  have E276 : Exa Z T261.heap b200 "[I" := Exa.keep E248 Kq267
  have F277 : Fld Z T261.heap a1 "com/example/pursuant/pursuant/dictionary/BandDictionary" "starts" "[I" (.ref b200) := Fld.keep F249 Kq267 (ninS ne201 (ninS ne226 nin0))
  have O278 : Ovd Z T261.heap b225 := Ovd.keep O251 Kq267
  have F279 : Fld Z T261.heap a1 "com/example/pursuant/pursuant/dictionary/BandDictionary" "stretches" "[[D" (.ref b225) := Fld.keep F252 Kq267 (ninS ne201 (ninS ne226 nin0))
  have Z280 : n0 ≤ T261.heap.size := Nat.le_trans Z253 Kq267.1
  have K281 : Keep h0 T261.heap [a1] := K244.trans Kq267 (allS (Or.inr gh204) (allS (Or.inr gh230) all0))
  have A282 := (⟨X261, hx, hby⟩ : Ax _ _ _ _ _ _ _ _ _ _ _ _ _ _ _)
  have g283 : n0 ≤ r265 := Nat.le_trans Z253 gx268
  have gh284 : h0.size ≤ r265 := Nat.le_trans K244.1 gx268
  have ne285 : a1 ≠ r265 := Nat.ne_of_lt (Nat.lt_of_lt_of_le E245.lt gx268)
  have ne286 : b200 ≠ r265 := Nat.ne_of_lt (Nat.lt_of_lt_of_le V247.lt gx268)
  have ne287 : b225 ≠ r265 := Nat.ne_of_lt (Nat.lt_of_lt_of_le V250.lt gx268)
  have ne288 : va ≠ r265 := Nat.ne_of_lt (Nat.lt_of_lt_of_le V246.lt gx268)
  refine g_iinc A282 d2_54 rfl (y := (1 : Int32)) (by decide) (ls' := #[.val (.ref a1), .val (.int (3 : Int32)), .val (.int (3 : Int32)), .val (.ref va), .val (.int (1 : Int32))]) rfl (pc' := 57) rfl ?_
  refine g_goto A282 d2_57 (pc' := 30) rfl ?_
  refine g_iload A282 d2_30 rfl (pc' := 32) rfl ?_
  refine g_iloadN A282 d2_32 rfl (pc' := 33) rfl ?_
  refine g_icN A282 d2_33 (c2_ge_f (by decide)) (pc' := 36) rfl ?_
  refine g_aloadN A282 d2_36 rfl rfl (pc' := 37) rfl ?_
  refine g_iload A282 d2_37 rfl (pc' := 39) rfl ?_
  refine g_aloadN A282 d2_39 rfl rfl (pc' := 40) rfl ?_
  refine g_iload A282 d2_40 rfl (pc' := 42) rfl ?_
  refine g_iloadN A282 d2_42 rfl (pc' := 43) rfl ?_
  refine g_imulL A282 d2_43 (z := (3 : Int32)) (by decide) (pc' := 44) rfl ?_
  refine g_iload A282 d2_44 rfl (pc' := 46) rfl ?_
  refine g_iloadN A282 d2_46 rfl (pc' := 47) rfl ?_
  refine g_imulL A282 d2_47 (z := (3 : Int32)) (by decide) (pc' := 48) rfl ?_
  refine g_iloadN A282 d2_48 rfl (pc' := 49) rfl ?_
  refine g_iaddL A282 d2_49 (z := (6 : Int32)) (by decide) (pc' := 50) rfl ?_
  refine g_iconst A282 d2_50 (v := (0 : Int32)) rfl (pc' := 51) rfl ?_
  have hp289 : 1 < 3 := (by decide)
  have hp290 : 3 ≤ 6 := (by decide)
  have hp291 : 6 ≤ 9 := (by decide)
  have hp292 : 9 < 2147483648 := (by decide)
  have hp293 : 6 - 3 ≤ 3 := (by decide)
  have hp294 : 0 < 3 ∨ 6 < 9 := (by decide)
  obtain ⟨cq296, q296a, q296b⟩ := E274.cell
  obtain ⟨vv295, _, ⟨T295, L295, k295, n295⟩, -, X295, ⟨L295c, hQ295, l295, y295, z295⟩, st295⟩ := X261.privateBack hx (y := (⟨"com/example/pursuant/pursuant/dictionary/BandDictionary", "keepStretch", "(I[DIII)V"⟩ : MethodName)) hown (mvT hZ (hw _ (List.mem_of_getElem? (i := 34) rfl))) (mvT hZ (hw _ (List.mem_of_getElem? (i := 35) rfl))) (own_selP (mvT hZ (hw _ (List.mem_of_getElem? (i := 6) rfl))) (Cond.privateMethod_at (mvP hZ (hw _ (List.mem_of_getElem? (i := 36) rfl)) (args := #[]))) (mvT hZ (hw _ (List.mem_of_getElem? (i := 35) rfl))) (by decide)) (Cond.privateMethod_at (mvP hZ (hw _ (List.mem_of_getElem? (i := 36) rfl)) (args := #[]))) (mvT hZ (hw _ (List.mem_of_getElem? (i := 37) rfl))) (by decide) (backOf (W := 0) (rm6 l Z a0 hw [] a1 1 va 3 6 9 3 x b200 b225 (fun j => if j = 0 then .int (own_s ra263 rb264 0) else (fun _ => .int (0 : Int32)) j) (fun j => if j = 0 then .ref r265 else (fun _ => .null) j) T261.heap n0 Z280 E274 F277 F279 V275 V270 V271 O278 ne201 ne226 ne227 ne202 ne228 g203 g229 hp289 hp290 hp291 hp292 hp293 hp294) hZ (hw _ (List.mem_of_getElem? (i := 37) rfl)) (hw _ (List.mem_of_getElem? (i := 7) rfl)) (by decide) (by decide)) (g := (mkF m 51 #[.val (.ref a1), .val (.int (3 : Int32)), .val (.int (3 : Int32)), .val (.ref va), .val (.int (1 : Int32))] [(.int (0 : Int32)), (.int (6 : Int32)), (.int (3 : Int32)), (.ref va), (.int (1 : Int32)), (.ref a1)])) rfl (by rw [hml]; rfl) (Steps.refl _) (a := a1) q296a q296b (argsL := [(.int (1 : Int32)), (.ref va), (.int (3 : Int32)), (.int (6 : Int32)), (.int (0 : Int32))]) (rest := []) (lenOf pd_4 rfl) rfl (by show 2 * 0 + _ ≤ _; exact Nat.le_of_eq rfl) (hb hby d2_51) (fun _ _ => ⟨rfl, rfl, (by decide : 3 + 1 ≤ _), (by decide : 9 + 3 ≤ _)⟩)
  have hQ295b : Q6 Z a1 1 va 3 6 9 3 x b200 b225 (fun j => if j = 0 then .int (own_s ra263 rb264 0) else (fun _ => .int (0 : Int32)) j) (fun j => if j = 0 then .ref r265 else (fun _ => .null) j) T261.heap n0 vv295 T295.heap L295c := hQ295
  clear hQ295
  dsimp only [Pt.U, Pt.locs, Pt.cells, Pt.slots] at X295 l295 y295 z295 st295
  subst y295 z295
  obtain ⟨ra297, rb298, r299, rfl, Nq300, Kq301, gx302, V303, V304, V305, hq306⟩ := hQ295b
  have N307 : Fr n0 L295 := by rw [l295]; exact Fr.app N273 Nq300
  refine Go.tr (g' := (mkF m 54 #[.val (.ref a1), .val (.int (3 : Int32)), .val (.int (3 : Int32)), .val (.ref va), .val (.int (1 : Int32))] [])) st295 ?_
  have E308 : Exa Z T295.heap a1 "com/example/pursuant/pursuant/dictionary/BandDictionary" := Exa.keep E274 Kq301
  have V309 : Dar Z T295.heap va .double 9 (fun t => .double (x t)) := Dar.keep V275 Kq301 (ninS ne202 (ninS ne228 nin0))
  have E310 : Exa Z T295.heap b200 "[I" := Exa.keep E276 Kq301
  have F311 : Fld Z T295.heap a1 "com/example/pursuant/pursuant/dictionary/BandDictionary" "starts" "[I" (.ref b200) := Fld.keep F277 Kq301 (ninS ne201 (ninS ne226 nin0))
  have O312 : Ovd Z T295.heap b225 := Ovd.keep O278 Kq301
  have F313 : Fld Z T295.heap a1 "com/example/pursuant/pursuant/dictionary/BandDictionary" "stretches" "[[D" (.ref b225) := Fld.keep F279 Kq301 (ninS ne201 (ninS ne226 nin0))
  have V314 : Dar Z T295.heap r265 .double (rb264 - ra263) (fun t => .double (x (ra263 + t))) := Dar.keep V269 Kq301 (ninS (Ne.symm ne286) (ninS (Ne.symm ne287) nin0))
  have Z315 : n0 ≤ T295.heap.size := Nat.le_trans Z280 Kq301.1
  have K316 : Keep h0 T295.heap [a1] := K281.trans Kq301 (allS (Or.inr gh204) (allS (Or.inr gh230) all0))
  have A317 := (⟨X295, hx, hby⟩ : Ax _ _ _ _ _ _ _ _ _ _ _ _ _ _ _)
  have g318 : n0 ≤ r299 := Nat.le_trans Z280 gx302
  have gh319 : h0.size ≤ r299 := Nat.le_trans K281.1 gx302
  have ne320 : a1 ≠ r299 := Nat.ne_of_lt (Nat.lt_of_lt_of_le E274.lt gx302)
  have ne321 : b200 ≠ r299 := Nat.ne_of_lt (Nat.lt_of_lt_of_le E276.lt gx302)
  have ne322 : b225 ≠ r299 := Nat.ne_of_lt (Nat.lt_of_lt_of_le V271.lt gx302)
  have ne323 : r265 ≠ r299 := Nat.ne_of_lt (Nat.lt_of_lt_of_le V269.lt gx302)
  have ne324 : va ≠ r299 := Nat.ne_of_lt (Nat.lt_of_lt_of_le V275.lt gx302)
  refine g_iinc A317 d2_54 rfl (y := (2 : Int32)) (by decide) (ls' := #[.val (.ref a1), .val (.int (3 : Int32)), .val (.int (3 : Int32)), .val (.ref va), .val (.int (2 : Int32))]) rfl (pc' := 57) rfl ?_
  refine g_goto A317 d2_57 (pc' := 30) rfl ?_
  refine g_iload A317 d2_30 rfl (pc' := 32) rfl ?_
  refine g_iloadN A317 d2_32 rfl (pc' := 33) rfl ?_
  refine g_icN A317 d2_33 (c2_ge_f (by decide)) (pc' := 36) rfl ?_
  refine g_aloadN A317 d2_36 rfl rfl (pc' := 37) rfl ?_
  refine g_iload A317 d2_37 rfl (pc' := 39) rfl ?_
  refine g_aloadN A317 d2_39 rfl rfl (pc' := 40) rfl ?_
  refine g_iload A317 d2_40 rfl (pc' := 42) rfl ?_
  refine g_iloadN A317 d2_42 rfl (pc' := 43) rfl ?_
  refine g_imulL A317 d2_43 (z := (6 : Int32)) (by decide) (pc' := 44) rfl ?_
  refine g_iload A317 d2_44 rfl (pc' := 46) rfl ?_
  refine g_iloadN A317 d2_46 rfl (pc' := 47) rfl ?_
  refine g_imulL A317 d2_47 (z := (6 : Int32)) (by decide) (pc' := 48) rfl ?_
  refine g_iloadN A317 d2_48 rfl (pc' := 49) rfl ?_
  refine g_iaddL A317 d2_49 (z := (9 : Int32)) (by decide) (pc' := 50) rfl ?_
  refine g_iconst A317 d2_50 (v := (0 : Int32)) rfl (pc' := 51) rfl ?_
  have hp325 : 2 < 3 := (by decide)
  have hp326 : 6 ≤ 9 := (by decide)
  have hp327 : 9 ≤ 9 := (by decide)
  have hp328 : 9 < 2147483648 := (by decide)
  have hp329 : 9 - 6 ≤ 3 := (by decide)
  have hp330 : 0 < 6 ∨ 9 < 9 := (by decide)
  obtain ⟨cq332, q332a, q332b⟩ := E308.cell
  obtain ⟨vv331, _, ⟨T331, L331, k331, n331⟩, -, X331, ⟨L331c, hQ331, l331, y331, z331⟩, st331⟩ := X295.privateBack hx (y := (⟨"com/example/pursuant/pursuant/dictionary/BandDictionary", "keepStretch", "(I[DIII)V"⟩ : MethodName)) hown (mvT hZ (hw _ (List.mem_of_getElem? (i := 34) rfl))) (mvT hZ (hw _ (List.mem_of_getElem? (i := 35) rfl))) (own_selP (mvT hZ (hw _ (List.mem_of_getElem? (i := 6) rfl))) (Cond.privateMethod_at (mvP hZ (hw _ (List.mem_of_getElem? (i := 36) rfl)) (args := #[]))) (mvT hZ (hw _ (List.mem_of_getElem? (i := 35) rfl))) (by decide)) (Cond.privateMethod_at (mvP hZ (hw _ (List.mem_of_getElem? (i := 36) rfl)) (args := #[]))) (mvT hZ (hw _ (List.mem_of_getElem? (i := 37) rfl))) (by decide) (backOf (W := 0) (rm6 l Z a0 hw [] a1 2 va 6 9 9 3 x b200 b225 (fun j => if j = 1 then .int (own_s ra297 rb298 3) else (fun j => if j = 0 then .int (own_s ra263 rb264 0) else (fun _ => .int (0 : Int32)) j) j) (fun j => if j = 1 then .ref r299 else (fun j => if j = 0 then .ref r265 else (fun _ => .null) j) j) T295.heap n0 Z315 E308 F311 F313 V309 V304 V305 O312 ne201 ne226 ne227 ne202 ne228 g203 g229 hp325 hp326 hp327 hp328 hp329 hp330) hZ (hw _ (List.mem_of_getElem? (i := 37) rfl)) (hw _ (List.mem_of_getElem? (i := 7) rfl)) (by decide) (by decide)) (g := (mkF m 51 #[.val (.ref a1), .val (.int (3 : Int32)), .val (.int (3 : Int32)), .val (.ref va), .val (.int (2 : Int32))] [(.int (0 : Int32)), (.int (9 : Int32)), (.int (6 : Int32)), (.ref va), (.int (2 : Int32)), (.ref a1)])) rfl (by rw [hml]; rfl) (Steps.refl _) (a := a1) q332a q332b (argsL := [(.int (2 : Int32)), (.ref va), (.int (6 : Int32)), (.int (9 : Int32)), (.int (0 : Int32))]) (rest := []) (lenOf pd_4 rfl) rfl (by show 2 * 0 + _ ≤ _; exact Nat.le_of_eq rfl) (hb hby d2_51) (fun _ _ => ⟨rfl, rfl, (by decide : 4 + 1 ≤ _), (by decide : 12 + 3 ≤ _)⟩)
  have hQ331b : Q6 Z a1 2 va 6 9 9 3 x b200 b225 (fun j => if j = 1 then .int (own_s ra297 rb298 3) else (fun j => if j = 0 then .int (own_s ra263 rb264 0) else (fun _ => .int (0 : Int32)) j) j) (fun j => if j = 1 then .ref r299 else (fun j => if j = 0 then .ref r265 else (fun _ => .null) j) j) T295.heap n0 vv331 T331.heap L331c := hQ331
  clear hQ331
  dsimp only [Pt.U, Pt.locs, Pt.cells, Pt.slots] at X331 l331 y331 z331 st331
  subst y331 z331
  obtain ⟨ra333, rb334, r335, rfl, Nq336, Kq337, gx338, V339, V340, V341, hq342⟩ := hQ331b
  have N343 : Fr n0 L331 := by rw [l331]; exact Fr.app N307 Nq336
  refine Go.tr (g' := (mkF m 54 #[.val (.ref a1), .val (.int (3 : Int32)), .val (.int (3 : Int32)), .val (.ref va), .val (.int (2 : Int32))] [])) st331 ?_
  have E344 : Exa Z T331.heap a1 "com/example/pursuant/pursuant/dictionary/BandDictionary" := Exa.keep E308 Kq337
  have V345 : Dar Z T331.heap va .double 9 (fun t => .double (x t)) := Dar.keep V309 Kq337 (ninS ne202 (ninS ne228 nin0))
  have E346 : Exa Z T331.heap b200 "[I" := Exa.keep E310 Kq337
  have F347 : Fld Z T331.heap a1 "com/example/pursuant/pursuant/dictionary/BandDictionary" "starts" "[I" (.ref b200) := Fld.keep F311 Kq337 (ninS ne201 (ninS ne226 nin0))
  have O348 : Ovd Z T331.heap b225 := Ovd.keep O312 Kq337
  have F349 : Fld Z T331.heap a1 "com/example/pursuant/pursuant/dictionary/BandDictionary" "stretches" "[[D" (.ref b225) := Fld.keep F313 Kq337 (ninS ne201 (ninS ne226 nin0))
  have V350 : Dar Z T331.heap r265 .double (rb264 - ra263) (fun t => .double (x (ra263 + t))) := Dar.keep V314 Kq337 (ninS (Ne.symm ne286) (ninS (Ne.symm ne287) nin0))
  have V351 : Dar Z T331.heap r299 .double (rb298 - ra297) (fun t => .double (x (ra297 + t))) := Dar.keep V303 Kq337 (ninS (Ne.symm ne321) (ninS (Ne.symm ne322) nin0))
  have Z352 : n0 ≤ T331.heap.size := Nat.le_trans Z315 Kq337.1
  have K353 : Keep h0 T331.heap [a1] := K316.trans Kq337 (allS (Or.inr gh204) (allS (Or.inr gh230) all0))
  have A354 := (⟨X331, hx, hby⟩ : Ax _ _ _ _ _ _ _ _ _ _ _ _ _ _ _)
  have g355 : n0 ≤ r335 := Nat.le_trans Z315 gx338
  have gh356 : h0.size ≤ r335 := Nat.le_trans K316.1 gx338
  have ne357 : a1 ≠ r335 := Nat.ne_of_lt (Nat.lt_of_lt_of_le E308.lt gx338)
  have ne358 : b200 ≠ r335 := Nat.ne_of_lt (Nat.lt_of_lt_of_le E310.lt gx338)
  have ne359 : b225 ≠ r335 := Nat.ne_of_lt (Nat.lt_of_lt_of_le V305.lt gx338)
  have ne360 : r265 ≠ r335 := Nat.ne_of_lt (Nat.lt_of_lt_of_le V314.lt gx338)
  have ne361 : r299 ≠ r335 := Nat.ne_of_lt (Nat.lt_of_lt_of_le V303.lt gx338)
  have ne362 : va ≠ r335 := Nat.ne_of_lt (Nat.lt_of_lt_of_le V309.lt gx338)
  refine g_iinc A354 d2_54 rfl (y := (3 : Int32)) (by decide) (ls' := #[.val (.ref a1), .val (.int (3 : Int32)), .val (.int (3 : Int32)), .val (.ref va), .val (.int (3 : Int32))]) rfl (pc' := 57) rfl ?_
  refine g_goto A354 d2_57 (pc' := 30) rfl ?_
  refine g_iload A354 d2_30 rfl (pc' := 32) rfl ?_
  refine g_iloadN A354 d2_32 rfl (pc' := 33) rfl ?_
  refine g_icY A354 d2_33 (c2_ge_t (by decide)) (pc' := 60) rfl ?_
  exact g_retV (Q := Q2 Z a1 va x u0 u1 u2 u3 h0 n0) A354 d2_60 Bd.notSynchronized Bd.returns (by decide) (by decide) ⟨b200, b225, ra263, rb264, r265, ra297, rb298, r299, ra333, rb334, r335, rfl, N343, K353, gh204, gh230, F347, F349, gh284, V350, gh319, V351, gh356, V339, V340, V341, hq272, hq306, hq342⟩
def own_r_rm1 (q0 : Int32) : UInt64 := (if (q0 &&& (3 : Int32)) = 0 then (0 : UInt64) else (if (q0 &&& (3 : Int32)) = (1 : Int32) then (9223372036854775808 : UInt64) else (if (q0 &&& (3 : Int32)) = (2 : Int32) then (4607182418800017408 : UInt64) else (13837309855095848960 : UInt64))))
theorem d1_0 : decode method_3_code 0 = .ok (.iload_n 0, 1) := by decide +kernel
theorem d1_1 : decode method_3_code 1 = .ok (.iconst 3, 1) := by decide +kernel
theorem d1_2 : decode method_3_code 2 = .ok (.iand, 1) := by decide +kernel
theorem d1_3 : decode method_3_code 3 = .ok (.istore_n 1, 1) := by decide +kernel
theorem d1_4 : decode method_3_code 4 = .ok (.iload_n 1, 1) := by decide +kernel
theorem d1_5 : decode method_3_code 5 = .ok (.ifCond .ne 5, 3) := by decide +kernel
theorem d1_8 : decode method_3_code 8 = .ok (.dconst 0, 1) := by decide +kernel
theorem d1_9 : decode method_3_code 9 = .ok (.dreturn, 1) := by decide +kernel
theorem d1_10 : decode method_3_code 10 = .ok (.iload_n 1, 1) := by decide +kernel
theorem d1_11 : decode method_3_code 11 = .ok (.iconst 1, 1) := by decide +kernel
theorem d1_12 : decode method_3_code 12 = .ok (.if_icmp .ne 7, 3) := by decide +kernel
theorem d1_15 : decode method_3_code 15 = .ok (.ldc2_w 26, 3) := by decide +kernel
theorem d1_18 : decode method_3_code 18 = .ok (.dreturn, 1) := by decide +kernel
theorem d1_19 : decode method_3_code 19 = .ok (.iload_n 1, 1) := by decide +kernel
theorem d1_20 : decode method_3_code 20 = .ok (.iconst 2, 1) := by decide +kernel
theorem d1_21 : decode method_3_code 21 = .ok (.if_icmp .ne 5, 3) := by decide +kernel
theorem d1_24 : decode method_3_code 24 = .ok (.dconst 1, 1) := by decide +kernel
theorem d1_25 : decode method_3_code 25 = .ok (.dreturn, 1) := by decide +kernel
theorem d1_26 : decode method_3_code 26 = .ok (.ldc2_w 28, 3) := by decide +kernel
theorem d1_29 : decode method_3_code 29 = .ok (.dreturn, 1) := by decide +kernel
theorem pn_3 : plainName "com/example/pursuant/pursuant/dictionary/BandDictionaryGetStoredCountPinLaw" = true := by first | (simp [plainName, overriddenIn]; done) | decide +kernel
theorem ef363 (m : MethodId) (q0 : Int32) : entryFrame m #[(.int q0)] 2 = mkF m 0 #[.val (.int q0), .unset] [] := by first | (simp [entryFrame, mkF, argsToLocals, Value.category]; done) | rfl
def Q1 (Z : State) (q0 : Int32) (h0 : Heap) (n0 : Nat) (v : Option Value) (h : Heap) (L : List Loc) : Prop := v = some (.double (own_r_rm1 q0)) ∧ Fr n0 L ∧ h = h0
set_option maxRecDepth 65536 in
set_option maxHeartbeats 40000000 in
theorem rm1 (l : Launch) (Z : State) (a0 : Array Value) (hw : ∀ d ∈ tables_1, d.before a0 Z = true) (ws : List Jvm.Cond) (q0 : Int32) (h0 : Heap) (n0 : Nat) (Z0 : n0 ≤ h0.size)  :
    MetFree l (⟨"com/example/pursuant/pursuant/dictionary/BandDictionaryGetStoredCountPinLaw", "entry", "(I)D"⟩ : MethodName) (head1 (Jvm.Cond.code (⟨"com/example/pursuant/pursuant/dictionary/BandDictionaryGetStoredCountPinLaw", "entry", "(I)D"⟩ : MethodName) method_3_code 2 (some .double) :: ws) ({ frames := 0, cells := 0, slots := 0, locals := 0 } : Room)) (fun a U => a = #[(.int q0)] ∧ Z.Warmed39 U.vm ∧ U.heap = h0) (fun _ _ _ _ _ => True) (fun _ U o U' => ∃ v L, o = .returned v ∧ Q1 Z q0 h0 n0 v U'.heap L ∧ FrameEnd U o U' L 0 0) := by
  refine MetFree.of_bodySF (plainFor_of_name pn_3) hisR ?_
  intro p e s m args below meth c s₁ Bd hml0 hP hK
  obtain ⟨rfl, hZ, hh⟩ := hP
  have hx := Bd.exec
  have hby := Bd.bytes
  have hml : c.maxLocals = 2 := hml0
  have hown : s.vm.findClass "com/example/pursuant/pursuant/dictionary/BandDictionaryGetStoredCountPinLaw" = some m.cls := findClass_of_methodNamed Bd.named
  have hnm := (name_of_methodNamed Bd.named Bd.method).1
  have X0 : Stand p l e ({ frames := 0, cells := 0, slots := 0, locals := 0 } : Room) s m #[(.int q0)] below meth c s₁ [] 0 0 := Stand.of_body Bd
  have e0 : s₁.heap = h0 := by rw [← hh, Bd.state]; rfl
  have N0 := Fr.nil n0
  have A0 := (⟨X0, hx, hby⟩ : Ax _ _ _ _ _ _ _ _ _ _ _ _ _ _ _)
  show Go p e below (fun U o => ∃ v L, o = .returned v ∧ Q1 Z q0 h0 n0 v U.heap L ∧ FrameEnd s o U L 0 0) s₁ (entryFrame m #[(.int q0)] 2)
  refine Go.cast (ef363 m q0) ?_
  refine g_iloadN A0 d1_0 rfl (pc' := 1) rfl ?_
  refine g_iconst A0 d1_1 (v := (3 : Int32)) rfl (pc' := 2) rfl ?_
  refine g_iand A0 d1_2 (pc' := 3) rfl ?_
  refine g_istoreN A0 d1_3 (ls' := #[.val (.int q0), .val (.int (q0 &&& (3 : Int32)))]) rfl (pc' := 4) rfl ?_
  refine g_iloadN A0 d1_4 rfl (pc' := 5) rfl ?_
  by_cases hc364 : (q0 &&& (3 : Int32)) = 0
  · skip
    refine g_ifN A0 d1_5 (c0_ne_f hc364) (pc' := 8) rfl ?_
    refine g_dconst0 A0 d1_8 (pc' := 9) rfl ?_
    exact g_ret (Q := Q1 Z q0 h0 n0) A0 d1_9 Bd.notSynchronized Bd.returns rfl (Or.inr (Or.inr (Or.inl ⟨rfl, rfl, _, rfl⟩))) (by decide) (by decide) (by rw [e0]; exact ⟨(congrArg (fun z => some (Value.double z)) (by rw [own_r_rm1, if_pos hc364])), N0, rfl⟩)
  · skip
    refine g_ifY A0 d1_5 (c0_ne_t hc364) (pc' := 10) rfl ?_
    refine g_iloadN A0 d1_10 rfl (pc' := 11) rfl ?_
    refine g_iconst A0 d1_11 (v := (1 : Int32)) rfl (pc' := 12) rfl ?_
    by_cases hc365 : (q0 &&& (3 : Int32)) = (1 : Int32)
    · skip
      refine g_icN A0 d1_12 (c2_ne_f hc365) (pc' := 15) rfl ?_
      refine g_ldcD A0 hZ hown (hw _ (List.mem_of_getElem? (i := 69) rfl)) d1_15 (pc' := 18) rfl ?_
      exact g_ret (Q := Q1 Z q0 h0 n0) A0 d1_18 Bd.notSynchronized Bd.returns rfl (Or.inr (Or.inr (Or.inl ⟨rfl, rfl, _, rfl⟩))) (by decide) (by decide) (by rw [e0]; exact ⟨(congrArg (fun z => some (Value.double z)) (by rw [own_r_rm1, if_neg hc364, if_pos hc365])), N0, rfl⟩)
    · skip
      refine g_icY A0 d1_12 (c2_ne_t hc365) (pc' := 19) rfl ?_
      refine g_iloadN A0 d1_19 rfl (pc' := 20) rfl ?_
      refine g_iconst A0 d1_20 (v := (2 : Int32)) rfl (pc' := 21) rfl ?_
      by_cases hc366 : (q0 &&& (3 : Int32)) = (2 : Int32)
      · skip
        refine g_icN A0 d1_21 (c2_ne_f hc366) (pc' := 24) rfl ?_
        refine g_dconst1 A0 d1_24 (pc' := 25) rfl ?_
        exact g_ret (Q := Q1 Z q0 h0 n0) A0 d1_25 Bd.notSynchronized Bd.returns rfl (Or.inr (Or.inr (Or.inl ⟨rfl, rfl, _, rfl⟩))) (by decide) (by decide) (by rw [e0]; exact ⟨(congrArg (fun z => some (Value.double z)) (by rw [own_r_rm1, if_neg hc364, if_neg hc365, if_pos hc366])), N0, rfl⟩)
      · skip
        refine g_icY A0 d1_21 (c2_ne_t hc366) (pc' := 26) rfl ?_
        refine g_ldcD A0 hZ hown (hw _ (List.mem_of_getElem? (i := 68) rfl)) d1_26 (pc' := 29) rfl ?_
        exact g_ret (Q := Q1 Z q0 h0 n0) A0 d1_29 Bd.notSynchronized Bd.returns rfl (Or.inr (Or.inr (Or.inl ⟨rfl, rfl, _, rfl⟩))) (by decide) (by decide) (by rw [e0]; exact ⟨(congrArg (fun z => some (Value.double z)) (by rw [own_r_rm1, if_neg hc364, if_neg hc365, if_neg hc366])), N0, rfl⟩)
def own_r_rm12 (q0 : Int32) (q1 : Int32) : Int32 := (if ¬ (((XT.ushr q0 q1) &&& (3 : Int32)) < (2 : Int32)) then (1 : Int32) else 0)
theorem d12_0 : decode method_4_code 0 = .ok (.iload_n 0, 1) := by decide +kernel
theorem d12_1 : decode method_4_code 1 = .ok (.iload_n 1, 1) := by decide +kernel
theorem d12_2 : decode method_4_code 2 = .ok (.iushr, 1) := by decide +kernel
theorem d12_3 : decode method_4_code 3 = .ok (.iconst 3, 1) := by decide +kernel
theorem d12_4 : decode method_4_code 4 = .ok (.iand, 1) := by decide +kernel
theorem d12_5 : decode method_4_code 5 = .ok (.iconst 2, 1) := by decide +kernel
theorem d12_6 : decode method_4_code 6 = .ok (.if_icmp .lt 7, 3) := by decide +kernel
theorem d12_9 : decode method_4_code 9 = .ok (.iconst 1, 1) := by decide +kernel
theorem d12_10 : decode method_4_code 10 = .ok (.goto 4, 3) := by decide +kernel
theorem d12_13 : decode method_4_code 13 = .ok (.iconst 0, 1) := by decide +kernel
theorem d12_14 : decode method_4_code 14 = .ok (.ireturn, 1) := by decide +kernel
theorem ef367 (m : MethodId) (q0 : Int32) (q1 : Int32) : entryFrame m #[(.int q0), (.int q1)] 2 = mkF m 0 #[.val (.int q0), .val (.int q1)] [] := by first | (simp [entryFrame, mkF, argsToLocals, Value.category]; done) | rfl
def Q12 (Z : State) (q0 : Int32) (q1 : Int32) (h0 : Heap) (n0 : Nat) (v : Option Value) (h : Heap) (L : List Loc) : Prop := v = some (.int (own_r_rm12 q0 q1)) ∧ Fr n0 L ∧ h = h0
set_option maxRecDepth 65536 in
set_option maxHeartbeats 40000000 in
theorem rm12 (l : Launch) (Z : State) (a0 : Array Value) (hw : ∀ d ∈ tables_1, d.before a0 Z = true) (ws : List Jvm.Cond) (q0 : Int32) (q1 : Int32) (h0 : Heap) (n0 : Nat) (Z0 : n0 ≤ h0.size)  :
    MetFree l (⟨"com/example/pursuant/pursuant/dictionary/BandDictionaryGetStoredCountPinLaw", "nz", "(II)Z"⟩ : MethodName) (head1 (Jvm.Cond.code (⟨"com/example/pursuant/pursuant/dictionary/BandDictionaryGetStoredCountPinLaw", "nz", "(II)Z"⟩ : MethodName) method_4_code 2 (some .boolean) :: ws) ({ frames := 0, cells := 0, slots := 0, locals := 0 } : Room)) (fun a U => a = #[(.int q0), (.int q1)] ∧ Z.Warmed39 U.vm ∧ U.heap = h0) (fun _ _ _ _ _ => True) (fun _ U o U' => ∃ v L, o = .returned v ∧ Q12 Z q0 q1 h0 n0 v U'.heap L ∧ FrameEnd U o U' L 0 0) := by
  refine MetFree.of_bodySF (plainFor_of_name pn_3) hisR ?_
  intro p e s m args below meth c s₁ Bd hml0 hP hK
  obtain ⟨rfl, hZ, hh⟩ := hP
  have hx := Bd.exec
  have hby := Bd.bytes
  have hml : c.maxLocals = 2 := hml0
  have hown : s.vm.findClass "com/example/pursuant/pursuant/dictionary/BandDictionaryGetStoredCountPinLaw" = some m.cls := findClass_of_methodNamed Bd.named
  have hnm := (name_of_methodNamed Bd.named Bd.method).1
  have X0 : Stand p l e ({ frames := 0, cells := 0, slots := 0, locals := 0 } : Room) s m #[(.int q0), (.int q1)] below meth c s₁ [] 0 0 := Stand.of_body Bd
  have e0 : s₁.heap = h0 := by rw [← hh, Bd.state]; rfl
  have N0 := Fr.nil n0
  have A0 := (⟨X0, hx, hby⟩ : Ax _ _ _ _ _ _ _ _ _ _ _ _ _ _ _)
  show Go p e below (fun U o => ∃ v L, o = .returned v ∧ Q12 Z q0 q1 h0 n0 v U.heap L ∧ FrameEnd s o U L 0 0) s₁ (entryFrame m #[(.int q0), (.int q1)] 2)
  refine Go.cast (ef367 m q0 q1) ?_
  refine g_iloadN A0 d12_0 rfl (pc' := 1) rfl ?_
  refine g_iloadN A0 d12_1 rfl (pc' := 2) rfl ?_
  refine g_iushr A0 d12_2 (pc' := 3) rfl ?_
  refine g_iconst A0 d12_3 (v := (3 : Int32)) rfl (pc' := 4) rfl ?_
  refine g_iand A0 d12_4 (pc' := 5) rfl ?_
  refine g_iconst A0 d12_5 (v := (2 : Int32)) rfl (pc' := 6) rfl ?_
  obtain ⟨v368, hv368⟩ : ∃ z : Int32, z = if ¬ (((XT.ushr q0 q1) &&& (3 : Int32)) < (2 : Int32)) then (1 : Int32) else 0 := ⟨_, rfl⟩
  have sg369 : ∀ {P : State → Outcome → Prop}, Go p e below P s₁ (mkF m 14 #[.val (.int q0), .val (.int q1)] [(.int v368)]) → Go p e below P s₁ (mkF m 6 #[.val (.int q0), .val (.int q1)] [(.int (2 : Int32)), (.int ((XT.ushr q0 q1) &&& (3 : Int32)))]) := by
    intro P hr
    by_cases c370 : ((XT.ushr q0 q1) &&& (3 : Int32)) < (2 : Int32)
    · skip
      refine g_icY A0 d12_6 (c2_lt_t c370) (pc' := 13) rfl ?_
      refine g_iconst A0 d12_13 (v := (0 : Int32)) rfl (pc' := 14) rfl ?_
      obtain rfl : v368 = (0 : Int32) := hv368.trans (if_neg (fun q => q c370))
      exact hr
    · skip
      refine g_icN A0 d12_6 (c2_lt_f c370) (pc' := 9) rfl ?_
      refine g_iconst A0 d12_9 (v := (1 : Int32)) rfl (pc' := 10) rfl ?_
      refine g_goto A0 d12_10 (pc' := 14) rfl ?_
      obtain rfl : v368 = (1 : Int32) := hv368.trans (if_pos c370)
      exact hr
  refine sg369 ?_
  exact g_ret (Q := Q12 Z q0 q1 h0 n0) A0 d12_14 Bd.notSynchronized Bd.returns (own_b01 hv368) (Or.inl ⟨rfl, by simp, _, rfl⟩) (by decide) (by decide) (by rw [e0]; exact ⟨(congrArg (fun z => some (Value.int z)) (by rw [hv368, own_r_rm12])), N0, rfl⟩)
def own_r_rm11 (q0 : Int32) (q1 : Int32) : Int64 := (if (own_r_rm12 q0 q1) = 0 then (if (own_r_rm12 q0 (q1 + (2 : Int32))) = 0 then (if (own_r_rm12 q0 (q1 + (4 : Int32))) = 0 then (0 : Int64) else (1 : Int64)) else (if (own_r_rm12 q0 (q1 + (4 : Int32))) = 0 then (1 : Int64) else (2 : Int64))) else (if (own_r_rm12 q0 (q1 + (4 : Int32))) = 0 then (if (own_r_rm12 q0 (q1 + (2 : Int32))) = 0 then (1 : Int64) else (2 : Int64)) else (3 : Int64)))
theorem d11_0 : decode method_5_code 0 = .ok (.iload_n 0, 1) := by decide +kernel
theorem d11_1 : decode method_5_code 1 = .ok (.iload_n 1, 1) := by decide +kernel
theorem d11_2 : decode method_5_code 2 = .ok (.invokestatic 30, 3) := by decide +kernel
theorem d11_5 : decode method_5_code 5 = .ok (.istore_n 2, 1) := by decide +kernel
theorem d11_6 : decode method_5_code 6 = .ok (.iload_n 0, 1) := by decide +kernel
theorem d11_7 : decode method_5_code 7 = .ok (.iload_n 1, 1) := by decide +kernel
theorem d11_8 : decode method_5_code 8 = .ok (.iconst 2, 1) := by decide +kernel
theorem d11_9 : decode method_5_code 9 = .ok (.iadd, 1) := by decide +kernel
theorem d11_10 : decode method_5_code 10 = .ok (.invokestatic 30, 3) := by decide +kernel
theorem d11_13 : decode method_5_code 13 = .ok (.istore_n 3, 1) := by decide +kernel
theorem d11_14 : decode method_5_code 14 = .ok (.iload_n 0, 1) := by decide +kernel
theorem d11_15 : decode method_5_code 15 = .ok (.iload_n 1, 1) := by decide +kernel
theorem d11_16 : decode method_5_code 16 = .ok (.iconst 4, 1) := by decide +kernel
theorem d11_17 : decode method_5_code 17 = .ok (.iadd, 1) := by decide +kernel
theorem d11_18 : decode method_5_code 18 = .ok (.invokestatic 30, 3) := by decide +kernel
theorem d11_21 : decode method_5_code 21 = .ok (.istore 4, 2) := by decide +kernel
theorem d11_23 : decode method_5_code 23 = .ok (.iload_n 2, 1) := by decide +kernel
theorem d11_24 : decode method_5_code 24 = .ok (.ifCond .eq 22, 3) := by decide +kernel
theorem d11_27 : decode method_5_code 27 = .ok (.iload 4, 2) := by decide +kernel
theorem d11_29 : decode method_5_code 29 = .ok (.ifCond .eq 7, 3) := by decide +kernel
theorem d11_32 : decode method_5_code 32 = .ok (.ldc2_w 34, 3) := by decide +kernel
theorem d11_35 : decode method_5_code 35 = .ok (.lreturn, 1) := by decide +kernel
theorem d11_36 : decode method_5_code 36 = .ok (.iload_n 3, 1) := by decide +kernel
theorem d11_37 : decode method_5_code 37 = .ok (.ifCond .eq 7, 3) := by decide +kernel
theorem d11_40 : decode method_5_code 40 = .ok (.ldc2_w 36, 3) := by decide +kernel
theorem d11_43 : decode method_5_code 43 = .ok (.lreturn, 1) := by decide +kernel
theorem d11_44 : decode method_5_code 44 = .ok (.lconst 1, 1) := by decide +kernel
theorem d11_45 : decode method_5_code 45 = .ok (.lreturn, 1) := by decide +kernel
theorem d11_46 : decode method_5_code 46 = .ok (.iload_n 3, 1) := by decide +kernel
theorem d11_47 : decode method_5_code 47 = .ok (.ifCond .eq 14, 3) := by decide +kernel
theorem d11_50 : decode method_5_code 50 = .ok (.iload 4, 2) := by decide +kernel
theorem d11_52 : decode method_5_code 52 = .ok (.ifCond .eq 7, 3) := by decide +kernel
theorem d11_55 : decode method_5_code 55 = .ok (.ldc2_w 36, 3) := by decide +kernel
theorem d11_58 : decode method_5_code 58 = .ok (.lreturn, 1) := by decide +kernel
theorem d11_59 : decode method_5_code 59 = .ok (.lconst 1, 1) := by decide +kernel
theorem d11_60 : decode method_5_code 60 = .ok (.lreturn, 1) := by decide +kernel
theorem d11_61 : decode method_5_code 61 = .ok (.iload 4, 2) := by decide +kernel
theorem d11_63 : decode method_5_code 63 = .ok (.ifCond .eq 5, 3) := by decide +kernel
theorem d11_66 : decode method_5_code 66 = .ok (.lconst 1, 1) := by decide +kernel
theorem d11_67 : decode method_5_code 67 = .ok (.lreturn, 1) := by decide +kernel
theorem d11_68 : decode method_5_code 68 = .ok (.lconst 0, 1) := by decide +kernel
theorem d11_69 : decode method_5_code 69 = .ok (.lreturn, 1) := by decide +kernel
theorem ef371 (m : MethodId) (q0 : Int32) (q1 : Int32) : entryFrame m #[(.int q0), (.int q1)] 5 = mkF m 0 #[.val (.int q0), .val (.int q1), .unset, .unset, .unset] [] := by first | (simp [entryFrame, mkF, argsToLocals, Value.category]; done) | rfl
def Q11 (Z : State) (q0 : Int32) (q1 : Int32) (h0 : Heap) (n0 : Nat) (v : Option Value) (h : Heap) (L : List Loc) : Prop := v = some (.long (own_r_rm11 q0 q1)) ∧ Fr n0 L ∧ h = h0
theorem pd_5 : parseMethodDescriptor "(II)Z" = some ⟨[.int, .int], some .boolean⟩ := by decide +kernel
set_option maxRecDepth 65536 in
set_option maxHeartbeats 40000000 in
theorem rm11 (l : Launch) (Z : State) (a0 : Array Value) (hw : ∀ d ∈ tables_1, d.before a0 Z = true) (ws : List Jvm.Cond) (q0 : Int32) (q1 : Int32) (h0 : Heap) (n0 : Nat) (Z0 : n0 ≤ h0.size)  :
    MetFree l (⟨"com/example/pursuant/pursuant/dictionary/BandDictionaryGetStoredCountPinLaw", "span", "(II)J"⟩ : MethodName) (head1 (Jvm.Cond.code (⟨"com/example/pursuant/pursuant/dictionary/BandDictionaryGetStoredCountPinLaw", "span", "(II)J"⟩ : MethodName) method_5_code 5 (some .long) :: ws) ({ frames := 1, cells := 0, slots := 0, locals := 13 } : Room)) (fun a U => a = #[(.int q0), (.int q1)] ∧ Z.Warmed39 U.vm ∧ U.heap = h0) (fun _ _ _ _ _ => True) (fun _ U o U' => ∃ v L, o = .returned v ∧ Q11 Z q0 q1 h0 n0 v U'.heap L ∧ FrameEnd U o U' L 0 0) := by
  refine MetFree.of_bodySF (plainFor_of_name pn_3) hisR ?_
  intro p e s m args below meth c s₁ Bd hml0 hP hK
  obtain ⟨rfl, hZ, hh⟩ := hP
  have hx := Bd.exec
  have hby := Bd.bytes
  have hml : c.maxLocals = 5 := hml0
  have hown : s.vm.findClass "com/example/pursuant/pursuant/dictionary/BandDictionaryGetStoredCountPinLaw" = some m.cls := findClass_of_methodNamed Bd.named
  have hnm := (name_of_methodNamed Bd.named Bd.method).1
  have X0 : Stand p l e ({ frames := 1, cells := 0, slots := 0, locals := 13 } : Room) s m #[(.int q0), (.int q1)] below meth c s₁ [] 0 0 := Stand.of_body Bd
  have e0 : s₁.heap = h0 := by rw [← hh, Bd.state]; rfl
  have N0 := Fr.nil n0
  have A0 := (⟨X0, hx, hby⟩ : Ax _ _ _ _ _ _ _ _ _ _ _ _ _ _ _)
  show Go p e below (fun U o => ∃ v L, o = .returned v ∧ Q11 Z q0 q1 h0 n0 v U.heap L ∧ FrameEnd s o U L 0 0) s₁ (entryFrame m #[(.int q0), (.int q1)] 5)
  refine Go.cast (ef371 m q0 q1) ?_
  refine g_iloadN A0 d11_0 rfl (pc' := 1) rfl ?_
  refine g_iloadN A0 d11_1 rfl (pc' := 2) rfl ?_
  obtain ⟨vv372, _, ⟨T372, L372, k372, n372⟩, -, X372, ⟨L372c, hQ372, l372, y372, z372⟩, st372⟩ := Jvm.LawKit.callS X0 hx (y := (⟨"com/example/pursuant/pursuant/dictionary/BandDictionaryGetStoredCountPinLaw", "nz", "(II)Z"⟩ : MethodName)) hown (mvT hZ (hw _ (List.mem_of_getElem? (i := 60) rfl))) (mvT hZ (hw _ (List.mem_of_getElem? (i := 61) rfl))) (mvT hZ (hw _ (List.mem_of_getElem? (i := 3) rfl))) (mvT hZ (hw _ (List.mem_of_getElem? (i := 62) rfl))) (by decide) (backOf (W := 0) (rm12 l Z a0 hw [] q0 q1 h0 n0 Z0 ) hZ (hw _ (List.mem_of_getElem? (i := 62) rfl)) (hw _ (List.mem_of_getElem? (i := 3) rfl)) (by decide) (by decide)) (g := (mkF m 2 #[.val (.int q0), .val (.int q1), .unset, .unset, .unset] [(.int q1), (.int q0)])) rfl (by rw [hml]; rfl) (argsL := [(.int q0), (.int q1)]) (rest := []) (lenOf pd_5 rfl) rfl (by show 2 * 0 + _ ≤ _; exact Nat.le_of_eq rfl) (hb hby d11_2) (fun _ _ => ⟨rfl, e0, (by decide : 0 + 0 ≤ _), (by decide : 0 + 0 ≤ _)⟩)
  have hQ372b : Q12 Z q0 q1 h0 n0 vv372 T372.heap L372c := hQ372
  clear hQ372
  dsimp only [Pt.U, Pt.locs, Pt.cells, Pt.slots] at X372 l372 y372 z372 st372
  subst y372 z372
  obtain ⟨rfl, Nq373, Kq374⟩ := hQ372b
  have N375 : Fr n0 L372 := by rw [l372]; exact Fr.app N0 Nq373
  refine Go.of (g' := (mkF m 5 #[.val (.int q0), .val (.int q1), .unset, .unset, .unset] [(.int (own_r_rm12 q0 q1))])) st372 ?_
  have e376 : T372.heap = h0 := Kq374
  have A377 := (⟨X372, hx, hby⟩ : Ax _ _ _ _ _ _ _ _ _ _ _ _ _ _ _)
  refine g_istoreN A377 d11_5 (ls' := #[.val (.int q0), .val (.int q1), .val (.int (own_r_rm12 q0 q1)), .unset, .unset]) rfl (pc' := 6) rfl ?_
  refine g_iloadN A377 d11_6 rfl (pc' := 7) rfl ?_
  refine g_iloadN A377 d11_7 rfl (pc' := 8) rfl ?_
  refine g_iconst A377 d11_8 (v := (2 : Int32)) rfl (pc' := 9) rfl ?_
  refine g_iadd A377 d11_9 (pc' := 10) rfl ?_
  obtain ⟨vv378, _, ⟨T378, L378, k378, n378⟩, -, X378, ⟨L378c, hQ378, l378, y378, z378⟩, st378⟩ := Jvm.LawKit.callS X372 hx (y := (⟨"com/example/pursuant/pursuant/dictionary/BandDictionaryGetStoredCountPinLaw", "nz", "(II)Z"⟩ : MethodName)) hown (mvT hZ (hw _ (List.mem_of_getElem? (i := 60) rfl))) (mvT hZ (hw _ (List.mem_of_getElem? (i := 61) rfl))) (mvT hZ (hw _ (List.mem_of_getElem? (i := 3) rfl))) (mvT hZ (hw _ (List.mem_of_getElem? (i := 62) rfl))) (by decide) (backOf (W := 0) (rm12 l Z a0 hw [] q0 (q1 + (2 : Int32)) h0 n0 Z0 ) hZ (hw _ (List.mem_of_getElem? (i := 62) rfl)) (hw _ (List.mem_of_getElem? (i := 3) rfl)) (by decide) (by decide)) (g := (mkF m 10 #[.val (.int q0), .val (.int q1), .val (.int (own_r_rm12 q0 q1)), .unset, .unset] [(.int (q1 + (2 : Int32))), (.int q0)])) rfl (by rw [hml]; rfl) (argsL := [(.int q0), (.int (q1 + (2 : Int32)))]) (rest := []) (lenOf pd_5 rfl) rfl (by show 2 * 0 + _ ≤ _; exact Nat.le_of_eq rfl) (hb hby d11_10) (fun _ _ => ⟨rfl, e376, (by decide : 0 + 0 ≤ _), (by decide : 0 + 0 ≤ _)⟩)
  have hQ378b : Q12 Z q0 (q1 + (2 : Int32)) h0 n0 vv378 T378.heap L378c := hQ378
  clear hQ378
  dsimp only [Pt.U, Pt.locs, Pt.cells, Pt.slots] at X378 l378 y378 z378 st378
  subst y378 z378
  obtain ⟨rfl, Nq379, Kq380⟩ := hQ378b
  have N381 : Fr n0 L378 := by rw [l378]; exact Fr.app N375 Nq379
  refine Go.of (g' := (mkF m 13 #[.val (.int q0), .val (.int q1), .val (.int (own_r_rm12 q0 q1)), .unset, .unset] [(.int (own_r_rm12 q0 (q1 + (2 : Int32))))])) st378 ?_
  have e382 : T378.heap = h0 := Kq380
  have A383 := (⟨X378, hx, hby⟩ : Ax _ _ _ _ _ _ _ _ _ _ _ _ _ _ _)
  refine g_istoreN A383 d11_13 (ls' := #[.val (.int q0), .val (.int q1), .val (.int (own_r_rm12 q0 q1)), .val (.int (own_r_rm12 q0 (q1 + (2 : Int32)))), .unset]) rfl (pc' := 14) rfl ?_
  refine g_iloadN A383 d11_14 rfl (pc' := 15) rfl ?_
  refine g_iloadN A383 d11_15 rfl (pc' := 16) rfl ?_
  refine g_iconst A383 d11_16 (v := (4 : Int32)) rfl (pc' := 17) rfl ?_
  refine g_iadd A383 d11_17 (pc' := 18) rfl ?_
  obtain ⟨vv384, _, ⟨T384, L384, k384, n384⟩, -, X384, ⟨L384c, hQ384, l384, y384, z384⟩, st384⟩ := Jvm.LawKit.callS X378 hx (y := (⟨"com/example/pursuant/pursuant/dictionary/BandDictionaryGetStoredCountPinLaw", "nz", "(II)Z"⟩ : MethodName)) hown (mvT hZ (hw _ (List.mem_of_getElem? (i := 60) rfl))) (mvT hZ (hw _ (List.mem_of_getElem? (i := 61) rfl))) (mvT hZ (hw _ (List.mem_of_getElem? (i := 3) rfl))) (mvT hZ (hw _ (List.mem_of_getElem? (i := 62) rfl))) (by decide) (backOf (W := 0) (rm12 l Z a0 hw [] q0 (q1 + (4 : Int32)) h0 n0 Z0 ) hZ (hw _ (List.mem_of_getElem? (i := 62) rfl)) (hw _ (List.mem_of_getElem? (i := 3) rfl)) (by decide) (by decide)) (g := (mkF m 18 #[.val (.int q0), .val (.int q1), .val (.int (own_r_rm12 q0 q1)), .val (.int (own_r_rm12 q0 (q1 + (2 : Int32)))), .unset] [(.int (q1 + (4 : Int32))), (.int q0)])) rfl (by rw [hml]; rfl) (argsL := [(.int q0), (.int (q1 + (4 : Int32)))]) (rest := []) (lenOf pd_5 rfl) rfl (by show 2 * 0 + _ ≤ _; exact Nat.le_of_eq rfl) (hb hby d11_18) (fun _ _ => ⟨rfl, e382, (by decide : 0 + 0 ≤ _), (by decide : 0 + 0 ≤ _)⟩)
  have hQ384b : Q12 Z q0 (q1 + (4 : Int32)) h0 n0 vv384 T384.heap L384c := hQ384
  clear hQ384
  dsimp only [Pt.U, Pt.locs, Pt.cells, Pt.slots] at X384 l384 y384 z384 st384
  subst y384 z384
  obtain ⟨rfl, Nq385, Kq386⟩ := hQ384b
  have N387 : Fr n0 L384 := by rw [l384]; exact Fr.app N381 Nq385
  refine Go.of (g' := (mkF m 21 #[.val (.int q0), .val (.int q1), .val (.int (own_r_rm12 q0 q1)), .val (.int (own_r_rm12 q0 (q1 + (2 : Int32)))), .unset] [(.int (own_r_rm12 q0 (q1 + (4 : Int32))))])) st384 ?_
  have e388 : T384.heap = h0 := Kq386
  have A389 := (⟨X384, hx, hby⟩ : Ax _ _ _ _ _ _ _ _ _ _ _ _ _ _ _)
  refine g_istore A389 d11_21 (ls' := #[.val (.int q0), .val (.int q1), .val (.int (own_r_rm12 q0 q1)), .val (.int (own_r_rm12 q0 (q1 + (2 : Int32)))), .val (.int (own_r_rm12 q0 (q1 + (4 : Int32))))]) rfl (pc' := 23) rfl ?_
  refine g_iloadN A389 d11_23 rfl (pc' := 24) rfl ?_
  by_cases hc390 : (own_r_rm12 q0 q1) = 0
  · skip
    refine g_ifY A389 d11_24 (c0_eq_t hc390) (pc' := 46) rfl ?_
    refine g_iloadN A389 d11_46 rfl (pc' := 47) rfl ?_
    by_cases hc391 : (own_r_rm12 q0 (q1 + (2 : Int32))) = 0
    · skip
      refine g_ifY A389 d11_47 (c0_eq_t hc391) (pc' := 61) rfl ?_
      refine g_iload A389 d11_61 rfl (pc' := 63) rfl ?_
      by_cases hc392 : (own_r_rm12 q0 (q1 + (4 : Int32))) = 0
      · skip
        refine g_ifY A389 d11_63 (c0_eq_t hc392) (pc' := 68) rfl ?_
        refine g_lconst A389 d11_68 (v := (0 : Int64)) rfl (pc' := 69) rfl ?_
        exact g_ret (Q := Q11 Z q0 q1 h0 n0) A389 d11_69 Bd.notSynchronized Bd.returns rfl (Or.inr (Or.inl ⟨rfl, rfl, _, rfl⟩)) (by decide) (by decide) (by rw [e388]; exact ⟨(congrArg (fun z => some (Value.long z)) (by rw [own_r_rm11, if_pos hc390, if_pos hc391, if_pos hc392])), N387, rfl⟩)
      · skip
        refine g_ifN A389 d11_63 (c0_eq_f hc392) (pc' := 66) rfl ?_
        refine g_lconst A389 d11_66 (v := (1 : Int64)) rfl (pc' := 67) rfl ?_
        exact g_ret (Q := Q11 Z q0 q1 h0 n0) A389 d11_67 Bd.notSynchronized Bd.returns rfl (Or.inr (Or.inl ⟨rfl, rfl, _, rfl⟩)) (by decide) (by decide) (by rw [e388]; exact ⟨(congrArg (fun z => some (Value.long z)) (by rw [own_r_rm11, if_pos hc390, if_pos hc391, if_neg hc392])), N387, rfl⟩)
    · skip
      refine g_ifN A389 d11_47 (c0_eq_f hc391) (pc' := 50) rfl ?_
      refine g_iload A389 d11_50 rfl (pc' := 52) rfl ?_
      by_cases hc393 : (own_r_rm12 q0 (q1 + (4 : Int32))) = 0
      · skip
        refine g_ifY A389 d11_52 (c0_eq_t hc393) (pc' := 59) rfl ?_
        refine g_lconst A389 d11_59 (v := (1 : Int64)) rfl (pc' := 60) rfl ?_
        exact g_ret (Q := Q11 Z q0 q1 h0 n0) A389 d11_60 Bd.notSynchronized Bd.returns rfl (Or.inr (Or.inl ⟨rfl, rfl, _, rfl⟩)) (by decide) (by decide) (by rw [e388]; exact ⟨(congrArg (fun z => some (Value.long z)) (by rw [own_r_rm11, if_pos hc390, if_neg hc391, if_pos hc393])), N387, rfl⟩)
      · skip
        refine g_ifN A389 d11_52 (c0_eq_f hc393) (pc' := 55) rfl ?_
        refine g_ldcL A389 hZ hown (hw _ (List.mem_of_getElem? (i := 71) rfl)) d11_55 (pc' := 58) rfl ?_
        exact g_ret (Q := Q11 Z q0 q1 h0 n0) A389 d11_58 Bd.notSynchronized Bd.returns rfl (Or.inr (Or.inl ⟨rfl, rfl, _, rfl⟩)) (by decide) (by decide) (by rw [e388]; exact ⟨(congrArg (fun z => some (Value.long z)) (by rw [own_r_rm11, if_pos hc390, if_neg hc391, if_neg hc393])), N387, rfl⟩)
  · skip
    refine g_ifN A389 d11_24 (c0_eq_f hc390) (pc' := 27) rfl ?_
    refine g_iload A389 d11_27 rfl (pc' := 29) rfl ?_
    by_cases hc394 : (own_r_rm12 q0 (q1 + (4 : Int32))) = 0
    · skip
      refine g_ifY A389 d11_29 (c0_eq_t hc394) (pc' := 36) rfl ?_
      refine g_iloadN A389 d11_36 rfl (pc' := 37) rfl ?_
      by_cases hc395 : (own_r_rm12 q0 (q1 + (2 : Int32))) = 0
      · skip
        refine g_ifY A389 d11_37 (c0_eq_t hc395) (pc' := 44) rfl ?_
        refine g_lconst A389 d11_44 (v := (1 : Int64)) rfl (pc' := 45) rfl ?_
        exact g_ret (Q := Q11 Z q0 q1 h0 n0) A389 d11_45 Bd.notSynchronized Bd.returns rfl (Or.inr (Or.inl ⟨rfl, rfl, _, rfl⟩)) (by decide) (by decide) (by rw [e388]; exact ⟨(congrArg (fun z => some (Value.long z)) (by rw [own_r_rm11, if_neg hc390, if_pos hc394, if_pos hc395])), N387, rfl⟩)
      · skip
        refine g_ifN A389 d11_37 (c0_eq_f hc395) (pc' := 40) rfl ?_
        refine g_ldcL A389 hZ hown (hw _ (List.mem_of_getElem? (i := 71) rfl)) d11_40 (pc' := 43) rfl ?_
        exact g_ret (Q := Q11 Z q0 q1 h0 n0) A389 d11_43 Bd.notSynchronized Bd.returns rfl (Or.inr (Or.inl ⟨rfl, rfl, _, rfl⟩)) (by decide) (by decide) (by rw [e388]; exact ⟨(congrArg (fun z => some (Value.long z)) (by rw [own_r_rm11, if_neg hc390, if_pos hc394, if_neg hc395])), N387, rfl⟩)
    · skip
      refine g_ifN A389 d11_29 (c0_eq_f hc394) (pc' := 32) rfl ?_
      refine g_ldcL A389 hZ hown (hw _ (List.mem_of_getElem? (i := 70) rfl)) d11_32 (pc' := 35) rfl ?_
      exact g_ret (Q := Q11 Z q0 q1 h0 n0) A389 d11_35 Bd.notSynchronized Bd.returns rfl (Or.inr (Or.inl ⟨rfl, rfl, _, rfl⟩)) (by decide) (by decide) (by rw [e388]; exact ⟨(congrArg (fun z => some (Value.long z)) (by rw [own_r_rm11, if_neg hc390, if_neg hc394])), N387, rfl⟩)
def own_r_rm13 (n1 : Nat) (n2 : Nat) (n3 : Nat) : Int64 := ((((0 : Int64) + ((Int32.ofNat n1).toInt64)) + ((Int32.ofNat n2).toInt64)) + ((Int32.ofNat n3).toInt64))
theorem d13_0 : decode prog_1_method_4_code 0 = .ok (.lconst 0, 1) := by decide +kernel
theorem d13_1 : decode prog_1_method_4_code 1 = .ok (.lstore_n 1, 1) := by decide +kernel
theorem d13_2 : decode prog_1_method_4_code 2 = .ok (.aload_n 0, 1) := by decide +kernel
theorem d13_3 : decode prog_1_method_4_code 3 = .ok (.getfield 19, 3) := by decide +kernel
theorem d13_6 : decode prog_1_method_4_code 6 = .ok (.astore_n 3, 1) := by decide +kernel
theorem d13_7 : decode prog_1_method_4_code 7 = .ok (.aload_n 3, 1) := by decide +kernel
theorem d13_8 : decode prog_1_method_4_code 8 = .ok (.arraylength, 1) := by decide +kernel
theorem d13_9 : decode prog_1_method_4_code 9 = .ok (.istore 4, 2) := by decide +kernel
theorem d13_11 : decode prog_1_method_4_code 11 = .ok (.iconst 0, 1) := by decide +kernel
theorem d13_12 : decode prog_1_method_4_code 12 = .ok (.istore 5, 2) := by decide +kernel
theorem d13_14 : decode prog_1_method_4_code 14 = .ok (.iload 5, 2) := by decide +kernel
theorem d13_16 : decode prog_1_method_4_code 16 = .ok (.iload 4, 2) := by decide +kernel
theorem d13_18 : decode prog_1_method_4_code 18 = .ok (.if_icmp .ge 22, 3) := by decide +kernel
theorem d13_21 : decode prog_1_method_4_code 21 = .ok (.aload_n 3, 1) := by decide +kernel
theorem d13_22 : decode prog_1_method_4_code 22 = .ok (.iload 5, 2) := by decide +kernel
theorem d13_24 : decode prog_1_method_4_code 24 = .ok (.aaload, 1) := by decide +kernel
theorem d13_25 : decode prog_1_method_4_code 25 = .ok (.astore 6, 2) := by decide +kernel
theorem d13_27 : decode prog_1_method_4_code 27 = .ok (.lload_n 1, 1) := by decide +kernel
theorem d13_28 : decode prog_1_method_4_code 28 = .ok (.aload 6, 2) := by decide +kernel
theorem d13_30 : decode prog_1_method_4_code 30 = .ok (.arraylength, 1) := by decide +kernel
theorem d13_31 : decode prog_1_method_4_code 31 = .ok (.i2l, 1) := by decide +kernel
theorem d13_32 : decode prog_1_method_4_code 32 = .ok (.ladd, 1) := by decide +kernel
theorem d13_33 : decode prog_1_method_4_code 33 = .ok (.lstore_n 1, 1) := by decide +kernel
theorem d13_34 : decode prog_1_method_4_code 34 = .ok (.iinc 5 1, 3) := by decide +kernel
theorem d13_37 : decode prog_1_method_4_code 37 = .ok (.goto (-23), 3) := by decide +kernel
theorem d13_40 : decode prog_1_method_4_code 40 = .ok (.lload_n 1, 1) := by decide +kernel
theorem d13_41 : decode prog_1_method_4_code 41 = .ok (.lreturn, 1) := by decide +kernel
theorem ef396 (m : MethodId) (a1 : Addr) (ta : Addr) (ft : Nat → Value) (r0 : Addr) (r1 : Addr) (r2 : Addr) (n1 : Nat) (n2 : Nat) (n3 : Nat) (f0 : Nat → Value) (f1 : Nat → Value) (f2 : Nat → Value) : entryFrame m #[(.ref a1)] 7 = mkF m 0 #[.val (.ref a1), .unset, .unset, .unset, .unset, .unset, .unset] [] := by first | (simp [entryFrame, mkF, argsToLocals, Value.category]; done) | rfl
def Q13 (Z : State) (a1 : Addr) (ta : Addr) (ft : Nat → Value) (r0 : Addr) (r1 : Addr) (r2 : Addr) (n1 : Nat) (n2 : Nat) (n3 : Nat) (f0 : Nat → Value) (f1 : Nat → Value) (f2 : Nat → Value) (h0 : Heap) (n0 : Nat) (v : Option Value) (h : Heap) (L : List Loc) : Prop := v = some (.long (own_r_rm13 n1 n2 n3)) ∧ Fr n0 L ∧ h = h0
set_option maxRecDepth 65536 in
set_option maxHeartbeats 40000000 in
theorem rm13 (l : Launch) (Z : State) (a0 : Array Value) (hw : ∀ d ∈ tables_1, d.before a0 Z = true) (ws : List Jvm.Cond) (a1 : Addr) (ta : Addr) (ft : Nat → Value) (r0 : Addr) (r1 : Addr) (r2 : Addr) (n1 : Nat) (n2 : Nat) (n3 : Nat) (f0 : Nat → Value) (f1 : Nat → Value) (f2 : Nat → Value) (h0 : Heap) (n0 : Nat) (Z0 : n0 ≤ h0.size) (E397 : Exa Z h0 a1 "com/example/pursuant/pursuant/dictionary/BandDictionary") (F398 : Fld Z h0 a1 "com/example/pursuant/pursuant/dictionary/BandDictionary" "stretches" "[[D" (.ref ta)) (V399 : Dar Z h0 ta (.array .double) 3 ft) (V400 : Dar Z h0 r0 .double n1 f0) (V401 : Dar Z h0 r1 .double n2 f1) (V402 : Dar Z h0 r2 .double n3 f2) (hf0 : ft 0 = .ref r0) (hf1 : ft 1 = .ref r1) (hf2 : ft 2 = .ref r2) :
    MetFree l (⟨"com/example/pursuant/pursuant/dictionary/BandDictionary", "getStoredCount", "()J"⟩ : MethodName) (head1 (Jvm.Cond.code (⟨"com/example/pursuant/pursuant/dictionary/BandDictionary", "getStoredCount", "()J"⟩ : MethodName) prog_1_method_4_code 7 (some .long) :: ws) ({ frames := 0, cells := 0, slots := 0, locals := 0 } : Room)) (fun a U => a = #[(.ref a1)] ∧ Z.Warmed39 U.vm ∧ U.heap = h0) (fun _ _ _ _ _ => True) (fun _ U o U' => ∃ v L, o = .returned v ∧ Q13 Z a1 ta ft r0 r1 r2 n1 n2 n3 f0 f1 f2 h0 n0 v U'.heap L ∧ FrameEnd U o U' L 0 0) := by
  refine MetFree.of_bodySF (plainFor_of_name pn_1) hisR ?_
  intro p e s m args below meth c s₁ Bd hml0 hP hK
  obtain ⟨rfl, hZ, hh⟩ := hP
  have hx := Bd.exec
  have hby := Bd.bytes
  have hml : c.maxLocals = 7 := hml0
  have hown : s.vm.findClass "com/example/pursuant/pursuant/dictionary/BandDictionary" = some m.cls := findClass_of_methodNamed Bd.named
  have hnm := (name_of_methodNamed Bd.named Bd.method).1
  have X0 : Stand p l e ({ frames := 0, cells := 0, slots := 0, locals := 0 } : Room) s m #[(.ref a1)] below meth c s₁ [] 0 0 := Stand.of_body Bd
  have e0 : s₁.heap = h0 := by rw [← hh, Bd.state]; rfl
  have N0 := Fr.nil n0
  have A0 := (⟨X0, hx, hby⟩ : Ax _ _ _ _ _ _ _ _ _ _ _ _ _ _ _)
  show Go p e below (fun U o => ∃ v L, o = .returned v ∧ Q13 Z a1 ta ft r0 r1 r2 n1 n2 n3 f0 f1 f2 h0 n0 v U.heap L ∧ FrameEnd s o U L 0 0) s₁ (entryFrame m #[(.ref a1)] 7)
  refine Go.cast (ef396 m a1 ta ft r0 r1 r2 n1 n2 n3 f0 f1 f2) ?_
  refine g_lconst A0 d13_0 (v := (0 : Int64)) rfl (pc' := 1) rfl ?_
  refine g_lstoreN A0 d13_1 (ls' := #[.val (.ref a1), .val (.long (0 : Int64)), .second, .unset, .unset, .unset, .unset]) rfl (pc' := 2) rfl ?_
  refine g_aloadN A0 d13_2 rfl rfl (pc' := 3) rfl ?_
  obtain ⟨T403, X403, e403, st403⟩ := getF X0 hx hZ hown (host := "") (Or.inl (hw _ (List.mem_of_getElem? (i := 32) rfl))) Via.refl e0 F398 (g := (mkF m 3 #[.val (.ref a1), .val (.long (0 : Int64)), .second, .unset, .unset, .unset, .unset] [(.ref a1)])) rfl rfl (hb hby d13_3)
  refine Go.of (g' := (mkF m 6 #[.val (.ref a1), .val (.long (0 : Int64)), .second, .unset, .unset, .unset, .unset] [(.ref ta)])) st403 ?_
  have A404 := (⟨X403, hx, hby⟩ : Ax _ _ _ _ _ _ _ _ _ _ _ _ _ _ _)
  refine g_astoreN A404 d13_6 rfl (ls' := #[.val (.ref a1), .val (.long (0 : Int64)), .second, .val (.ref ta), .unset, .unset, .unset]) rfl (pc' := 7) rfl ?_
  refine g_aloadN A404 d13_7 rfl rfl (pc' := 8) rfl ?_
  refine g_alen A404 hZ e403 V399 d13_8 (z := (3 : Int32)) rfl (pc' := 9) rfl ?_
  refine g_istore A404 d13_9 (ls' := #[.val (.ref a1), .val (.long (0 : Int64)), .second, .val (.ref ta), .val (.int (3 : Int32)), .unset, .unset]) rfl (pc' := 11) rfl ?_
  refine g_iconst A404 d13_11 (v := (0 : Int32)) rfl (pc' := 12) rfl ?_
  refine g_istore A404 d13_12 (ls' := #[.val (.ref a1), .val (.long (0 : Int64)), .second, .val (.ref ta), .val (.int (3 : Int32)), .val (.int (0 : Int32)), .unset]) rfl (pc' := 14) rfl ?_
  refine g_iload A404 d13_14 rfl (pc' := 16) rfl ?_
  refine g_iload A404 d13_16 rfl (pc' := 18) rfl ?_
  refine g_icN A404 d13_18 (c2_ge_f (by decide)) (pc' := 21) rfl ?_
  refine g_aloadN A404 d13_21 rfl rfl (pc' := 22) rfl ?_
  refine g_iload A404 d13_22 rfl (pc' := 24) rfl ?_
  refine g_aaload A404 hZ e403 V399 (i := 0) (by decide) rfl (v := (.ref r0)) hf0 d13_24 (pc' := 25) rfl ?_
  refine g_astore A404 d13_25 rfl (ls' := #[.val (.ref a1), .val (.long (0 : Int64)), .second, .val (.ref ta), .val (.int (3 : Int32)), .val (.int (0 : Int32)), .val (.ref r0)]) rfl (pc' := 27) rfl ?_
  refine g_lloadN A404 d13_27 rfl (pc' := 28) rfl ?_
  refine g_aload A404 d13_28 rfl rfl (pc' := 30) rfl ?_
  refine g_alen A404 hZ e403 V400 d13_30 (z := (Int32.ofNat n1)) rfl (pc' := 31) rfl ?_
  refine g_i2l A404 d13_31 (pc' := 32) rfl ?_
  refine g_ladd A404 d13_32 (pc' := 33) rfl ?_
  refine g_lstoreN A404 d13_33 (ls' := #[.val (.ref a1), .val (.long ((0 : Int64) + ((Int32.ofNat n1).toInt64))), .second, .val (.ref ta), .val (.int (3 : Int32)), .val (.int (0 : Int32)), .val (.ref r0)]) rfl (pc' := 34) rfl ?_
  refine g_iinc A404 d13_34 rfl (y := (1 : Int32)) (by decide) (ls' := #[.val (.ref a1), .val (.long ((0 : Int64) + ((Int32.ofNat n1).toInt64))), .second, .val (.ref ta), .val (.int (3 : Int32)), .val (.int (1 : Int32)), .val (.ref r0)]) rfl (pc' := 37) rfl ?_
  refine g_goto A404 d13_37 (pc' := 14) rfl ?_
  refine g_iload A404 d13_14 rfl (pc' := 16) rfl ?_
  refine g_iload A404 d13_16 rfl (pc' := 18) rfl ?_
  refine g_icN A404 d13_18 (c2_ge_f (by decide)) (pc' := 21) rfl ?_
  refine g_aloadN A404 d13_21 rfl rfl (pc' := 22) rfl ?_
  refine g_iload A404 d13_22 rfl (pc' := 24) rfl ?_
  refine g_aaload A404 hZ e403 V399 (i := 1) (by decide) rfl (v := (.ref r1)) hf1 d13_24 (pc' := 25) rfl ?_
  refine g_astore A404 d13_25 rfl (ls' := #[.val (.ref a1), .val (.long ((0 : Int64) + ((Int32.ofNat n1).toInt64))), .second, .val (.ref ta), .val (.int (3 : Int32)), .val (.int (1 : Int32)), .val (.ref r1)]) rfl (pc' := 27) rfl ?_
  refine g_lloadN A404 d13_27 rfl (pc' := 28) rfl ?_
  refine g_aload A404 d13_28 rfl rfl (pc' := 30) rfl ?_
  refine g_alen A404 hZ e403 V401 d13_30 (z := (Int32.ofNat n2)) rfl (pc' := 31) rfl ?_
  refine g_i2l A404 d13_31 (pc' := 32) rfl ?_
  refine g_ladd A404 d13_32 (pc' := 33) rfl ?_
  refine g_lstoreN A404 d13_33 (ls' := #[.val (.ref a1), .val (.long (((0 : Int64) + ((Int32.ofNat n1).toInt64)) + ((Int32.ofNat n2).toInt64))), .second, .val (.ref ta), .val (.int (3 : Int32)), .val (.int (1 : Int32)), .val (.ref r1)]) rfl (pc' := 34) rfl ?_
  refine g_iinc A404 d13_34 rfl (y := (2 : Int32)) (by decide) (ls' := #[.val (.ref a1), .val (.long (((0 : Int64) + ((Int32.ofNat n1).toInt64)) + ((Int32.ofNat n2).toInt64))), .second, .val (.ref ta), .val (.int (3 : Int32)), .val (.int (2 : Int32)), .val (.ref r1)]) rfl (pc' := 37) rfl ?_
  refine g_goto A404 d13_37 (pc' := 14) rfl ?_
  refine g_iload A404 d13_14 rfl (pc' := 16) rfl ?_
  refine g_iload A404 d13_16 rfl (pc' := 18) rfl ?_
  refine g_icN A404 d13_18 (c2_ge_f (by decide)) (pc' := 21) rfl ?_
  refine g_aloadN A404 d13_21 rfl rfl (pc' := 22) rfl ?_
  refine g_iload A404 d13_22 rfl (pc' := 24) rfl ?_
  refine g_aaload A404 hZ e403 V399 (i := 2) (by decide) rfl (v := (.ref r2)) hf2 d13_24 (pc' := 25) rfl ?_
  refine g_astore A404 d13_25 rfl (ls' := #[.val (.ref a1), .val (.long (((0 : Int64) + ((Int32.ofNat n1).toInt64)) + ((Int32.ofNat n2).toInt64))), .second, .val (.ref ta), .val (.int (3 : Int32)), .val (.int (2 : Int32)), .val (.ref r2)]) rfl (pc' := 27) rfl ?_
  refine g_lloadN A404 d13_27 rfl (pc' := 28) rfl ?_
  refine g_aload A404 d13_28 rfl rfl (pc' := 30) rfl ?_
  refine g_alen A404 hZ e403 V402 d13_30 (z := (Int32.ofNat n3)) rfl (pc' := 31) rfl ?_
  refine g_i2l A404 d13_31 (pc' := 32) rfl ?_
  refine g_ladd A404 d13_32 (pc' := 33) rfl ?_
  refine g_lstoreN A404 d13_33 (ls' := #[.val (.ref a1), .val (.long ((((0 : Int64) + ((Int32.ofNat n1).toInt64)) + ((Int32.ofNat n2).toInt64)) + ((Int32.ofNat n3).toInt64))), .second, .val (.ref ta), .val (.int (3 : Int32)), .val (.int (2 : Int32)), .val (.ref r2)]) rfl (pc' := 34) rfl ?_
  refine g_iinc A404 d13_34 rfl (y := (3 : Int32)) (by decide) (ls' := #[.val (.ref a1), .val (.long ((((0 : Int64) + ((Int32.ofNat n1).toInt64)) + ((Int32.ofNat n2).toInt64)) + ((Int32.ofNat n3).toInt64))), .second, .val (.ref ta), .val (.int (3 : Int32)), .val (.int (3 : Int32)), .val (.ref r2)]) rfl (pc' := 37) rfl ?_
  refine g_goto A404 d13_37 (pc' := 14) rfl ?_
  refine g_iload A404 d13_14 rfl (pc' := 16) rfl ?_
  refine g_iload A404 d13_16 rfl (pc' := 18) rfl ?_
  refine g_icY A404 d13_18 (c2_ge_t (by decide)) (pc' := 40) rfl ?_
  refine g_lloadN A404 d13_40 rfl (pc' := 41) rfl ?_
  exact g_ret (Q := Q13 Z a1 ta ft r0 r1 r2 n1 n2 n3 f0 f1 f2 h0 n0) A404 d13_41 Bd.notSynchronized Bd.returns rfl (Or.inr (Or.inl ⟨rfl, rfl, _, rfl⟩)) (by decide) (by decide) (by rw [e403]; exact ⟨(congrArg (fun z => some (Value.long z)) (by rw [own_r_rm13])), N0, rfl⟩)
def own_x (p : Int32) (t : Nat) : UInt64 := (if t = 8 then own_r_rm1 (XT.ushr p (16 : Int32)) else (if t = 7 then own_r_rm1 (XT.ushr p (14 : Int32)) else (if t = 6 then own_r_rm1 (XT.ushr p (12 : Int32)) else (if t = 5 then own_r_rm1 (XT.ushr p (10 : Int32)) else (if t = 4 then own_r_rm1 (XT.ushr p (8 : Int32)) else (if t = 3 then own_r_rm1 (XT.ushr p (6 : Int32)) else (if t = 2 then own_r_rm1 (XT.ushr p (4 : Int32)) else (if t = 1 then own_r_rm1 (XT.ushr p (2 : Int32)) else (if t = 0 then own_r_rm1 p else (0 : UInt64))))))))))
theorem own_ze (q : Int32) : own_zr (own_r_rm1 q) ↔ (q &&& (3 : Int32)) < (2 : Int32) := by
  have h := c_and q 3 (by decide)
  have e3 : (3 : Int32).toInt = 3 := rfl
  have c : (q &&& (3 : Int32)) = 0 ∨ (q &&& (3 : Int32)) = 1 ∨ (q &&& (3 : Int32)) = 2 ∨ (q &&& (3 : Int32)) = 3 := by
    have k : (q &&& (3 : Int32)).toInt = 0 ∨ (q &&& (3 : Int32)).toInt = 1 ∨ (q &&& (3 : Int32)).toInt = 2 ∨ (q &&& (3 : Int32)).toInt = 3 := by omega
    rcases k with k | k | k | k
    · exact Or.inl (Int32.toInt_inj.mp k)
    · exact Or.inr (Or.inl (Int32.toInt_inj.mp k))
    · exact Or.inr (Or.inr (Or.inl (Int32.toInt_inj.mp k)))
    · exact Or.inr (Or.inr (Or.inr (Int32.toInt_inj.mp k)))
  unfold own_zr own_r_rm1
  rcases c with c | c | c | c <;> rw [c] <;> decide +kernel
theorem own_nz (p q : Int32) : own_r_rm12 p q = 0 ↔ ((XT.ushr p q) &&& (3 : Int32)) < (2 : Int32) := by
  unfold own_r_rm12
  by_cases h : ((XT.ushr p q) &&& (3 : Int32)) < (2 : Int32)
  · simp [h]
  · simp [h]
theorem own_u0 (p : Int32) : XT.ushr p (0 : Int32) = p := by
  show (p.toUInt32 >>> (0 : UInt32)).toInt32 = p
  rw [UInt32.shiftRight_zero]; rfl
theorem own_zn {p q r : Int32} (h : XT.ushr p q = r) : own_zr (own_r_rm1 r) ↔ own_r_rm12 p q = 0 := by
  subst h; exact (own_ze _).trans (own_nz p q).symm
theorem own_span {x : Nat → UInt64} {F a b : Nat} {p q : Int32} (h : own_S x F (F + 3) a b) (e0 : own_zr (x F) ↔ own_r_rm12 p q = 0) (e1 : own_zr (x (F + 1)) ↔ own_r_rm12 p (q + (2 : Int32)) = 0) (e2 : own_zr (x (F + 2)) ↔ own_r_rm12 p (q + (4 : Int32)) = 0) : (Int32.ofNat (b - a)).toInt64 = own_r_rm11 p q := by
  obtain ⟨h1, h2, h3, h4, h5, h6⟩ := h
  have A1 : F < a → own_zr (x F) := fun q => h4 F (Nat.le_refl _) q
  have A2 : F + 1 < a → own_zr (x (F + 1)) := fun q => h4 (F + 1) (by omega) q
  have A3 : F + 2 < a → own_zr (x (F + 2)) := fun q => h4 (F + 2) (by omega) q
  have B1 : b ≤ F → own_zr (x F) := fun q => h5 F q (by omega)
  have B2 : b ≤ F + 1 → own_zr (x (F + 1)) := fun q => h5 (F + 1) q (by omega)
  have B3 : b ≤ F + 2 → own_zr (x (F + 2)) := fun q => h5 (F + 2) q (by omega)
  have C1 : own_zr (x F) → ¬ (a < b ∧ (a = F ∨ b = F + 1)) := fun z q => by
    rcases q with ⟨q, r | r⟩
    · subst r; exact (h6 q).1 z
    · subst r; exact (h6 q).2 z
  have C2 : own_zr (x (F + 1)) → ¬ (a < b ∧ (a = F + 1 ∨ b = F + 2)) := fun z q => by
    rcases q with ⟨q, r | r⟩
    · subst r; exact (h6 q).1 z
    · subst r; exact (h6 q).2 z
  have C3 : own_zr (x (F + 2)) → ¬ (a < b ∧ (a = F + 2 ∨ b = F + 3)) := fun z q => by
    rcases q with ⟨q, r | r⟩
    · subst r; exact (h6 q).1 z
    · subst r; exact (h6 q).2 z
  clear h4 h5 h6
  unfold own_r_rm11
  by_cases z0 : own_zr (x F)
  · have C1 := C1 z0
    rw [if_pos (e0.mp z0)]
    by_cases z1 : own_zr (x (F + 1))
    · have C2 := C2 z1
      rw [if_pos (e1.mp z1)]
      by_cases z2 : own_zr (x (F + 2))
      · have C3 := C3 z2
        rw [if_pos (e2.mp z2), show b - a = 0 by omega]; rfl
      · have A3 : ¬ F + 2 < a := fun q => z2 (A3 q)
        have B3 : ¬ b ≤ F + 2 := fun q => z2 (B3 q)
        rw [if_neg (fun q => z2 (e2.mpr q)), show b - a = 1 by omega]; rfl
    · have A2 : ¬ F + 1 < a := fun q => z1 (A2 q)
      have B2 : ¬ b ≤ F + 1 := fun q => z1 (B2 q)
      rw [if_neg (fun q => z1 (e1.mpr q))]
      by_cases z2 : own_zr (x (F + 2))
      · have C3 := C3 z2
        rw [if_pos (e2.mp z2), show b - a = 1 by omega]; rfl
      · have B3 : ¬ b ≤ F + 2 := fun q => z2 (B3 q)
        rw [if_neg (fun q => z2 (e2.mpr q)), show b - a = 2 by omega]; rfl
  · have A1 : ¬ F < a := fun q => z0 (A1 q)
    have B1 : ¬ b ≤ F := fun q => z0 (B1 q)
    rw [if_neg (fun q => z0 (e0.mpr q))]
    by_cases z2 : own_zr (x (F + 2))
    · have C3 := C3 z2
      rw [if_pos (e2.mp z2)]
      by_cases z1 : own_zr (x (F + 1))
      · have C2 := C2 z1
        rw [if_pos (e1.mp z1), show b - a = 1 by omega]; rfl
      · have B2 : ¬ b ≤ F + 1 := fun q => z1 (B2 q)
        rw [if_neg (fun q => z1 (e1.mpr q)), show b - a = 2 by omega]; rfl
    · have B3 : ¬ b ≤ F + 2 := fun q => z2 (B3 q)
      rw [if_neg (fun q => z2 (e2.mpr q)), show b - a = 3 by omega]; rfl
theorem own_all {p : Int32} {a0 b0 a1 b1 a2 b2 : Nat} (h0 : own_S (own_x p) 0 3 a0 b0) (h1 : own_S (own_x p) 3 6 a1 b1) (h2 : own_S (own_x p) 6 9 a2 b2) : own_r_rm13 (b0 - a0) (b1 - a1) (b2 - a2) = ((own_r_rm11 p (0 : Int32) + own_r_rm11 p (6 : Int32)) + own_r_rm11 p (12 : Int32)) := by
  have s0 := own_span (F := 0) (q := (0 : Int32)) h0 (own_zn (own_u0 p)) (own_zn (r := XT.ushr p (2 : Int32)) (congrArg (XT.ushr p) (by decide))) (own_zn (r := XT.ushr p (4 : Int32)) (congrArg (XT.ushr p) (by decide)))
  have s1 := own_span (F := 3) (q := (6 : Int32)) h1 (own_zn (r := XT.ushr p (6 : Int32)) rfl) (own_zn (r := XT.ushr p (8 : Int32)) (congrArg (XT.ushr p) (by decide))) (own_zn (r := XT.ushr p (10 : Int32)) (congrArg (XT.ushr p) (by decide)))
  have s2 := own_span (F := 6) (q := (12 : Int32)) h2 (own_zn (r := XT.ushr p (12 : Int32)) rfl) (own_zn (r := XT.ushr p (14 : Int32)) (congrArg (XT.ushr p) (by decide))) (own_zn (r := XT.ushr p (16 : Int32)) (congrArg (XT.ushr p) (by decide)))
  unfold own_r_rm13
  rw [s0, s1, s2, Int64.zero_add]
theorem ef405 (m : MethodId) (p0 : Int32) : entryFrame m #[(.int p0)] maxLocals = mkF m 0 #[.val (.int p0), .unset, .unset, .unset, .unset] [] := by first | (simp [entryFrame, mkF, argsToLocals, Value.category, maxLocals]; done) | rfl
def Q0 (Z : State) (p0 : Int32) (h0 : Heap) (n0 : Nat) (v : Option Value) (h : Heap) (L : List Loc) : Prop := v = some (.int 1) ∧ Fr n0 L
theorem pd_6 : parseMethodDescriptor "(I)D" = some ⟨[.int], some .double⟩ := by decide +kernel
theorem pd_7 : parseMethodDescriptor "(II)J" = some ⟨[.int, .int], some .long⟩ := by decide +kernel
theorem pd_8 : parseMethodDescriptor "()J" = some ⟨[], some .long⟩ := by decide +kernel
set_option maxRecDepth 65536 in
set_option maxHeartbeats 40000000 in
theorem rm0 (l : Launch) (Z : State) (a0 : Array Value) (hw : ∀ d ∈ tables_1, d.before a0 Z = true) (ws : List Jvm.Cond) (p0 : Int32) (h0 : Heap) (n0 : Nat) (Z0 : n0 ≤ h0.size)  :
    MetFree l x (head1 (Jvm.Cond.code x code maxLocals ret :: ws) room_1) (fun a U => a = #[(.int p0)] ∧ Z.Warmed39 U.vm ∧ U.heap = h0) (fun _ _ _ _ _ => True) (fun _ U o U' => ∃ v L, o = .returned v ∧ Q0 Z p0 h0 n0 v U'.heap L ∧ FrameEnd U o U' L 7 30) := by
  refine MetFree.of_bodySF (plainFor_of_name pn_3) hisR ?_
  intro p e s m args below meth c s₁ Bd hml0 hP hK
  obtain ⟨rfl, hZ, hh⟩ := hP
  have hx := Bd.exec
  have hby := Bd.bytes
  have hml : c.maxLocals = 5 := hml0
  have hown : s.vm.findClass "com/example/pursuant/pursuant/dictionary/BandDictionaryGetStoredCountPinLaw" = some m.cls := findClass_of_methodNamed Bd.named
  have hnm := (name_of_methodNamed Bd.named Bd.method).1
  have X0 : Stand p l e room_1 s m #[(.int p0)] below meth c s₁ [] 0 0 := Stand.of_body Bd
  have e0 : s₁.heap = h0 := by rw [← hh, Bd.state]; rfl
  have N0 := Fr.nil n0
  have A0 := (⟨X0, hx, hby⟩ : Ax _ _ _ _ _ _ _ _ _ _ _ _ _ _ _)
  show Go p e below (fun U o => ∃ v L, o = .returned v ∧ Q0 Z p0 h0 n0 v U.heap L ∧ FrameEnd s o U L 7 30) s₁ (entryFrame m #[(.int p0)] maxLocals)
  refine Go.cast (ef405 m p0) ?_
  refine g_bipush A0 at_0 (v := (9 : Int32)) rfl (pc' := 2) rfl ?_
  obtain ⟨T406, h406, k406, X406, e406, E406, Ar406, Ex406, st406⟩ := newPE X0 hx hZ (hw _ (List.mem_of_getElem? (i := 0) rfl)) e0 (g := (mkF m 2 #[.val (.int p0), .unset, .unset, .unset, .unset] [(.int (9 : Int32))])) rfl (hb hby at_2) rfl (by decide) (cap := 9) (by decide) (by decide) (by decide) (by decide) (ad := "[D") rfl
  obtain ⟨b407, eb407⟩ : ∃ z, z = h0.size := ⟨_, rfl⟩
  rw [← eb407] at Ar406 st406 Ex406
  have g408 : n0 ≤ b407 := by rw [eb407]; exact Z0
  have gh409 : h0.size ≤ b407 := by rw [eb407]; exact (Keep.refl h0 []).1
  have K410 : Keep h0 h406 [] := (Keep.refl h0 []).ext E406
  have Z411 : n0 ≤ h406.size := Nat.le_trans Z0 E406.1
  have V412 : Dar Z h406 b407 .double 9 (fun _ => .double (0 : UInt64)) := Dar.new Ar406 (by decide)
  refine Go.of (g' := (mkF m 4 #[.val (.int p0), .unset, .unset, .unset, .unset] [(.ref b407)])) st406 ?_
  have A413 := (⟨X406, hx, hby⟩ : Ax _ _ _ _ _ _ _ _ _ _ _ _ _ _ _)
  refine g_astoreN A413 at_4 rfl (ls' := #[.val (.int p0), .val (.ref b407), .unset, .unset, .unset]) rfl (pc' := 5) rfl ?_
  refine g_aloadN A413 at_5 rfl rfl (pc' := 6) rfl ?_
  refine g_iconst A413 at_6 (v := (0 : Int32)) rfl (pc' := 7) rfl ?_
  refine g_iloadN A413 at_7 rfl (pc' := 8) rfl ?_
  obtain ⟨vv414, _, ⟨T414, L414, k414, n414⟩, -, X414, ⟨L414c, hQ414, l414, y414, z414⟩, st414⟩ := Jvm.LawKit.callS X406 hx (y := (⟨"com/example/pursuant/pursuant/dictionary/BandDictionaryGetStoredCountPinLaw", "entry", "(I)D"⟩ : MethodName)) hown (mvT hZ (hw _ (List.mem_of_getElem? (i := 1) rfl))) (mvT hZ (hw _ (List.mem_of_getElem? (i := 2) rfl))) (mvT hZ (hw _ (List.mem_of_getElem? (i := 3) rfl))) (mvT hZ (hw _ (List.mem_of_getElem? (i := 4) rfl))) (by decide) (backOf (W := 2) (rm1 l Z a0 hw [] p0 h406 n0 Z411 ) hZ (hw _ (List.mem_of_getElem? (i := 4) rfl)) (hw _ (List.mem_of_getElem? (i := 3) rfl)) (by decide) (by decide)) (g := (mkF m 8 #[.val (.int p0), .val (.ref b407), .unset, .unset, .unset] [(.int p0), (.int (0 : Int32)), (.ref b407)])) rfl (by rw [hml]; rfl) (argsL := [(.int p0)]) (rest := [(.int (0 : Int32)), (.ref b407)]) (lenOf pd_6 rfl) rfl (by show 2 * 0 + _ ≤ _; exact Nat.le_of_eq rfl) (hb hby at_8) (fun _ _ => ⟨rfl, e406, (by decide : 1 + 0 ≤ _), (by decide : 9 + 0 ≤ _)⟩)
  have hQ414b : Q1 Z p0 h406 n0 vv414 T414.heap L414c := hQ414
  clear hQ414
  dsimp only [Pt.U, Pt.locs, Pt.cells, Pt.slots] at X414 l414 y414 z414 st414
  subst y414 z414
  obtain ⟨rfl, Nq415, Kq416⟩ := hQ414b
  have N417 : Fr n0 L414 := by rw [l414]; exact Fr.app N0 Nq415
  refine Go.of (g' := (mkF m 11 #[.val (.int p0), .val (.ref b407), .unset, .unset, .unset] [(.double (own_r_rm1 p0)), (.int (0 : Int32)), (.ref b407)])) st414 ?_
  have e418 : T414.heap = h406 := Kq416
  have A419 := (⟨X414, hx, hby⟩ : Ax _ _ _ _ _ _ _ _ _ _ _ _ _ _ _)
  obtain ⟨T420, h420, A420, e420, W420, st420⟩ := s_dastore A419 hZ e418 (ls := #[.val (.int p0), .val (.ref b407), .unset, .unset, .unset]) (st := []) (x := (own_r_rm1 p0)) V412 (i := 0) (by decide) (j := (0 : Int32)) rfl at_11 (pc' := 12) rfl
  have N421 := Fr.snoc A420.1 N417 g408
  have K422 : Keep h0 h420 [] := K410.wr W420 (Or.inr gh409)
  have E423 : Exa Z h420 b407 "[D" := Exa.wr W420 Ex406
  have V424 : Dar Z h420 b407 .double 9 (fun j => if j = 0 then .double (own_r_rm1 p0) else (fun _ => .double (0 : UInt64)) j) := Dar.set V412 W420 (fun _ _ => rfl)
  have Z425 : n0 ≤ h420.size := by rw [W420.size]; exact Z411
  refine st420 ?_
  refine g_aloadN A420 at_12 rfl rfl (pc' := 13) rfl ?_
  refine g_iconst A420 at_13 (v := (1 : Int32)) rfl (pc' := 14) rfl ?_
  refine g_iloadN A420 at_14 rfl (pc' := 15) rfl ?_
  refine g_iconst A420 at_15 (v := (2 : Int32)) rfl (pc' := 16) rfl ?_
  refine g_iushr A420 at_16 (pc' := 17) rfl ?_
  obtain ⟨vv426, _, ⟨T426, L426, k426, n426⟩, -, X426, ⟨L426c, hQ426, l426, y426, z426⟩, st426⟩ := Jvm.LawKit.callS A420.1 hx (y := (⟨"com/example/pursuant/pursuant/dictionary/BandDictionaryGetStoredCountPinLaw", "entry", "(I)D"⟩ : MethodName)) hown (mvT hZ (hw _ (List.mem_of_getElem? (i := 1) rfl))) (mvT hZ (hw _ (List.mem_of_getElem? (i := 2) rfl))) (mvT hZ (hw _ (List.mem_of_getElem? (i := 3) rfl))) (mvT hZ (hw _ (List.mem_of_getElem? (i := 4) rfl))) (by decide) (backOf (W := 2) (rm1 l Z a0 hw [] (XT.ushr p0 (2 : Int32)) h420 n0 Z425 ) hZ (hw _ (List.mem_of_getElem? (i := 4) rfl)) (hw _ (List.mem_of_getElem? (i := 3) rfl)) (by decide) (by decide)) (g := (mkF m 17 #[.val (.int p0), .val (.ref b407), .unset, .unset, .unset] [(.int (XT.ushr p0 (2 : Int32))), (.int (1 : Int32)), (.ref b407)])) rfl (by rw [hml]; rfl) (argsL := [(.int (XT.ushr p0 (2 : Int32)))]) (rest := [(.int (1 : Int32)), (.ref b407)]) (lenOf pd_6 rfl) rfl (by show 2 * 0 + _ ≤ _; exact Nat.le_of_eq rfl) (hb hby at_17) (fun _ _ => ⟨rfl, e420, (by decide : 1 + 0 ≤ _), (by decide : 9 + 0 ≤ _)⟩)
  have hQ426b : Q1 Z (XT.ushr p0 (2 : Int32)) h420 n0 vv426 T426.heap L426c := hQ426
  clear hQ426
  dsimp only [Pt.U, Pt.locs, Pt.cells, Pt.slots] at X426 l426 y426 z426 st426
  subst y426 z426
  obtain ⟨rfl, Nq427, Kq428⟩ := hQ426b
  have N429 : Fr n0 L426 := by rw [l426]; exact Fr.app N421 Nq427
  refine Go.of (g' := (mkF m 20 #[.val (.int p0), .val (.ref b407), .unset, .unset, .unset] [(.double (own_r_rm1 (XT.ushr p0 (2 : Int32)))), (.int (1 : Int32)), (.ref b407)])) st426 ?_
  have e430 : T426.heap = h420 := Kq428
  have A431 := (⟨X426, hx, hby⟩ : Ax _ _ _ _ _ _ _ _ _ _ _ _ _ _ _)
  obtain ⟨T432, h432, A432, e432, W432, st432⟩ := s_dastore A431 hZ e430 (ls := #[.val (.int p0), .val (.ref b407), .unset, .unset, .unset]) (st := []) (x := (own_r_rm1 (XT.ushr p0 (2 : Int32)))) V424 (i := 1) (by decide) (j := (1 : Int32)) rfl at_20 (pc' := 21) rfl
  have N433 := Fr.snoc A432.1 N429 g408
  have K434 : Keep h0 h432 [] := K422.wr W432 (Or.inr gh409)
  have E435 : Exa Z h432 b407 "[D" := Exa.wr W432 E423
  have V436 : Dar Z h432 b407 .double 9 (fun j => if j = 1 then .double (own_r_rm1 (XT.ushr p0 (2 : Int32))) else (fun j => if j = 0 then .double (own_r_rm1 p0) else (fun _ => .double (0 : UInt64)) j) j) := Dar.set V424 W432 (fun _ _ => rfl)
  have Z437 : n0 ≤ h432.size := by rw [W432.size]; exact Z425
  refine st432 ?_
  refine g_aloadN A432 at_21 rfl rfl (pc' := 22) rfl ?_
  refine g_iconst A432 at_22 (v := (2 : Int32)) rfl (pc' := 23) rfl ?_
  refine g_iloadN A432 at_23 rfl (pc' := 24) rfl ?_
  refine g_iconst A432 at_24 (v := (4 : Int32)) rfl (pc' := 25) rfl ?_
  refine g_iushr A432 at_25 (pc' := 26) rfl ?_
  obtain ⟨vv438, _, ⟨T438, L438, k438, n438⟩, -, X438, ⟨L438c, hQ438, l438, y438, z438⟩, st438⟩ := Jvm.LawKit.callS A432.1 hx (y := (⟨"com/example/pursuant/pursuant/dictionary/BandDictionaryGetStoredCountPinLaw", "entry", "(I)D"⟩ : MethodName)) hown (mvT hZ (hw _ (List.mem_of_getElem? (i := 1) rfl))) (mvT hZ (hw _ (List.mem_of_getElem? (i := 2) rfl))) (mvT hZ (hw _ (List.mem_of_getElem? (i := 3) rfl))) (mvT hZ (hw _ (List.mem_of_getElem? (i := 4) rfl))) (by decide) (backOf (W := 2) (rm1 l Z a0 hw [] (XT.ushr p0 (4 : Int32)) h432 n0 Z437 ) hZ (hw _ (List.mem_of_getElem? (i := 4) rfl)) (hw _ (List.mem_of_getElem? (i := 3) rfl)) (by decide) (by decide)) (g := (mkF m 26 #[.val (.int p0), .val (.ref b407), .unset, .unset, .unset] [(.int (XT.ushr p0 (4 : Int32))), (.int (2 : Int32)), (.ref b407)])) rfl (by rw [hml]; rfl) (argsL := [(.int (XT.ushr p0 (4 : Int32)))]) (rest := [(.int (2 : Int32)), (.ref b407)]) (lenOf pd_6 rfl) rfl (by show 2 * 0 + _ ≤ _; exact Nat.le_of_eq rfl) (hb hby at_26) (fun _ _ => ⟨rfl, e432, (by decide : 1 + 0 ≤ _), (by decide : 9 + 0 ≤ _)⟩)
  have hQ438b : Q1 Z (XT.ushr p0 (4 : Int32)) h432 n0 vv438 T438.heap L438c := hQ438
  clear hQ438
  dsimp only [Pt.U, Pt.locs, Pt.cells, Pt.slots] at X438 l438 y438 z438 st438
  subst y438 z438
  obtain ⟨rfl, Nq439, Kq440⟩ := hQ438b
  have N441 : Fr n0 L438 := by rw [l438]; exact Fr.app N433 Nq439
  refine Go.of (g' := (mkF m 29 #[.val (.int p0), .val (.ref b407), .unset, .unset, .unset] [(.double (own_r_rm1 (XT.ushr p0 (4 : Int32)))), (.int (2 : Int32)), (.ref b407)])) st438 ?_
  have e442 : T438.heap = h432 := Kq440
  have A443 := (⟨X438, hx, hby⟩ : Ax _ _ _ _ _ _ _ _ _ _ _ _ _ _ _)
  obtain ⟨T444, h444, A444, e444, W444, st444⟩ := s_dastore A443 hZ e442 (ls := #[.val (.int p0), .val (.ref b407), .unset, .unset, .unset]) (st := []) (x := (own_r_rm1 (XT.ushr p0 (4 : Int32)))) V436 (i := 2) (by decide) (j := (2 : Int32)) rfl at_29 (pc' := 30) rfl
  have N445 := Fr.snoc A444.1 N441 g408
  have K446 : Keep h0 h444 [] := K434.wr W444 (Or.inr gh409)
  have E447 : Exa Z h444 b407 "[D" := Exa.wr W444 E435
  have V448 : Dar Z h444 b407 .double 9 (fun j => if j = 2 then .double (own_r_rm1 (XT.ushr p0 (4 : Int32))) else (fun j => if j = 1 then .double (own_r_rm1 (XT.ushr p0 (2 : Int32))) else (fun j => if j = 0 then .double (own_r_rm1 p0) else (fun _ => .double (0 : UInt64)) j) j) j) := Dar.set V436 W444 (fun _ _ => rfl)
  have Z449 : n0 ≤ h444.size := by rw [W444.size]; exact Z437
  refine st444 ?_
  refine g_aloadN A444 at_30 rfl rfl (pc' := 31) rfl ?_
  refine g_iconst A444 at_31 (v := (3 : Int32)) rfl (pc' := 32) rfl ?_
  refine g_iloadN A444 at_32 rfl (pc' := 33) rfl ?_
  refine g_bipush A444 at_33 (v := (6 : Int32)) rfl (pc' := 35) rfl ?_
  refine g_iushr A444 at_35 (pc' := 36) rfl ?_
  obtain ⟨vv450, _, ⟨T450, L450, k450, n450⟩, -, X450, ⟨L450c, hQ450, l450, y450, z450⟩, st450⟩ := Jvm.LawKit.callS A444.1 hx (y := (⟨"com/example/pursuant/pursuant/dictionary/BandDictionaryGetStoredCountPinLaw", "entry", "(I)D"⟩ : MethodName)) hown (mvT hZ (hw _ (List.mem_of_getElem? (i := 1) rfl))) (mvT hZ (hw _ (List.mem_of_getElem? (i := 2) rfl))) (mvT hZ (hw _ (List.mem_of_getElem? (i := 3) rfl))) (mvT hZ (hw _ (List.mem_of_getElem? (i := 4) rfl))) (by decide) (backOf (W := 2) (rm1 l Z a0 hw [] (XT.ushr p0 (6 : Int32)) h444 n0 Z449 ) hZ (hw _ (List.mem_of_getElem? (i := 4) rfl)) (hw _ (List.mem_of_getElem? (i := 3) rfl)) (by decide) (by decide)) (g := (mkF m 36 #[.val (.int p0), .val (.ref b407), .unset, .unset, .unset] [(.int (XT.ushr p0 (6 : Int32))), (.int (3 : Int32)), (.ref b407)])) rfl (by rw [hml]; rfl) (argsL := [(.int (XT.ushr p0 (6 : Int32)))]) (rest := [(.int (3 : Int32)), (.ref b407)]) (lenOf pd_6 rfl) rfl (by show 2 * 0 + _ ≤ _; exact Nat.le_of_eq rfl) (hb hby at_36) (fun _ _ => ⟨rfl, e444, (by decide : 1 + 0 ≤ _), (by decide : 9 + 0 ≤ _)⟩)
  have hQ450b : Q1 Z (XT.ushr p0 (6 : Int32)) h444 n0 vv450 T450.heap L450c := hQ450
  clear hQ450
  dsimp only [Pt.U, Pt.locs, Pt.cells, Pt.slots] at X450 l450 y450 z450 st450
  subst y450 z450
  obtain ⟨rfl, Nq451, Kq452⟩ := hQ450b
  have N453 : Fr n0 L450 := by rw [l450]; exact Fr.app N445 Nq451
  refine Go.of (g' := (mkF m 39 #[.val (.int p0), .val (.ref b407), .unset, .unset, .unset] [(.double (own_r_rm1 (XT.ushr p0 (6 : Int32)))), (.int (3 : Int32)), (.ref b407)])) st450 ?_
  have e454 : T450.heap = h444 := Kq452
  have A455 := (⟨X450, hx, hby⟩ : Ax _ _ _ _ _ _ _ _ _ _ _ _ _ _ _)
  obtain ⟨T456, h456, A456, e456, W456, st456⟩ := s_dastore A455 hZ e454 (ls := #[.val (.int p0), .val (.ref b407), .unset, .unset, .unset]) (st := []) (x := (own_r_rm1 (XT.ushr p0 (6 : Int32)))) V448 (i := 3) (by decide) (j := (3 : Int32)) rfl at_39 (pc' := 40) rfl
  have N457 := Fr.snoc A456.1 N453 g408
  have K458 : Keep h0 h456 [] := K446.wr W456 (Or.inr gh409)
  have E459 : Exa Z h456 b407 "[D" := Exa.wr W456 E447
  have V460 : Dar Z h456 b407 .double 9 (fun j => if j = 3 then .double (own_r_rm1 (XT.ushr p0 (6 : Int32))) else (fun j => if j = 2 then .double (own_r_rm1 (XT.ushr p0 (4 : Int32))) else (fun j => if j = 1 then .double (own_r_rm1 (XT.ushr p0 (2 : Int32))) else (fun j => if j = 0 then .double (own_r_rm1 p0) else (fun _ => .double (0 : UInt64)) j) j) j) j) := Dar.set V448 W456 (fun _ _ => rfl)
  have Z461 : n0 ≤ h456.size := by rw [W456.size]; exact Z449
  refine st456 ?_
  refine g_aloadN A456 at_40 rfl rfl (pc' := 41) rfl ?_
  refine g_iconst A456 at_41 (v := (4 : Int32)) rfl (pc' := 42) rfl ?_
  refine g_iloadN A456 at_42 rfl (pc' := 43) rfl ?_
  refine g_bipush A456 at_43 (v := (8 : Int32)) rfl (pc' := 45) rfl ?_
  refine g_iushr A456 at_45 (pc' := 46) rfl ?_
  obtain ⟨vv462, _, ⟨T462, L462, k462, n462⟩, -, X462, ⟨L462c, hQ462, l462, y462, z462⟩, st462⟩ := Jvm.LawKit.callS A456.1 hx (y := (⟨"com/example/pursuant/pursuant/dictionary/BandDictionaryGetStoredCountPinLaw", "entry", "(I)D"⟩ : MethodName)) hown (mvT hZ (hw _ (List.mem_of_getElem? (i := 1) rfl))) (mvT hZ (hw _ (List.mem_of_getElem? (i := 2) rfl))) (mvT hZ (hw _ (List.mem_of_getElem? (i := 3) rfl))) (mvT hZ (hw _ (List.mem_of_getElem? (i := 4) rfl))) (by decide) (backOf (W := 2) (rm1 l Z a0 hw [] (XT.ushr p0 (8 : Int32)) h456 n0 Z461 ) hZ (hw _ (List.mem_of_getElem? (i := 4) rfl)) (hw _ (List.mem_of_getElem? (i := 3) rfl)) (by decide) (by decide)) (g := (mkF m 46 #[.val (.int p0), .val (.ref b407), .unset, .unset, .unset] [(.int (XT.ushr p0 (8 : Int32))), (.int (4 : Int32)), (.ref b407)])) rfl (by rw [hml]; rfl) (argsL := [(.int (XT.ushr p0 (8 : Int32)))]) (rest := [(.int (4 : Int32)), (.ref b407)]) (lenOf pd_6 rfl) rfl (by show 2 * 0 + _ ≤ _; exact Nat.le_of_eq rfl) (hb hby at_46) (fun _ _ => ⟨rfl, e456, (by decide : 1 + 0 ≤ _), (by decide : 9 + 0 ≤ _)⟩)
  have hQ462b : Q1 Z (XT.ushr p0 (8 : Int32)) h456 n0 vv462 T462.heap L462c := hQ462
  clear hQ462
  dsimp only [Pt.U, Pt.locs, Pt.cells, Pt.slots] at X462 l462 y462 z462 st462
  subst y462 z462
  obtain ⟨rfl, Nq463, Kq464⟩ := hQ462b
  have N465 : Fr n0 L462 := by rw [l462]; exact Fr.app N457 Nq463
  refine Go.of (g' := (mkF m 49 #[.val (.int p0), .val (.ref b407), .unset, .unset, .unset] [(.double (own_r_rm1 (XT.ushr p0 (8 : Int32)))), (.int (4 : Int32)), (.ref b407)])) st462 ?_
  have e466 : T462.heap = h456 := Kq464
  have A467 := (⟨X462, hx, hby⟩ : Ax _ _ _ _ _ _ _ _ _ _ _ _ _ _ _)
  obtain ⟨T468, h468, A468, e468, W468, st468⟩ := s_dastore A467 hZ e466 (ls := #[.val (.int p0), .val (.ref b407), .unset, .unset, .unset]) (st := []) (x := (own_r_rm1 (XT.ushr p0 (8 : Int32)))) V460 (i := 4) (by decide) (j := (4 : Int32)) rfl at_49 (pc' := 50) rfl
  have N469 := Fr.snoc A468.1 N465 g408
  have K470 : Keep h0 h468 [] := K458.wr W468 (Or.inr gh409)
  have E471 : Exa Z h468 b407 "[D" := Exa.wr W468 E459
  have V472 : Dar Z h468 b407 .double 9 (fun j => if j = 4 then .double (own_r_rm1 (XT.ushr p0 (8 : Int32))) else (fun j => if j = 3 then .double (own_r_rm1 (XT.ushr p0 (6 : Int32))) else (fun j => if j = 2 then .double (own_r_rm1 (XT.ushr p0 (4 : Int32))) else (fun j => if j = 1 then .double (own_r_rm1 (XT.ushr p0 (2 : Int32))) else (fun j => if j = 0 then .double (own_r_rm1 p0) else (fun _ => .double (0 : UInt64)) j) j) j) j) j) := Dar.set V460 W468 (fun _ _ => rfl)
  have Z473 : n0 ≤ h468.size := by rw [W468.size]; exact Z461
  refine st468 ?_
  refine g_aloadN A468 at_50 rfl rfl (pc' := 51) rfl ?_
  refine g_iconst A468 at_51 (v := (5 : Int32)) rfl (pc' := 52) rfl ?_
  refine g_iloadN A468 at_52 rfl (pc' := 53) rfl ?_
  refine g_bipush A468 at_53 (v := (10 : Int32)) rfl (pc' := 55) rfl ?_
  refine g_iushr A468 at_55 (pc' := 56) rfl ?_
  obtain ⟨vv474, _, ⟨T474, L474, k474, n474⟩, -, X474, ⟨L474c, hQ474, l474, y474, z474⟩, st474⟩ := Jvm.LawKit.callS A468.1 hx (y := (⟨"com/example/pursuant/pursuant/dictionary/BandDictionaryGetStoredCountPinLaw", "entry", "(I)D"⟩ : MethodName)) hown (mvT hZ (hw _ (List.mem_of_getElem? (i := 1) rfl))) (mvT hZ (hw _ (List.mem_of_getElem? (i := 2) rfl))) (mvT hZ (hw _ (List.mem_of_getElem? (i := 3) rfl))) (mvT hZ (hw _ (List.mem_of_getElem? (i := 4) rfl))) (by decide) (backOf (W := 2) (rm1 l Z a0 hw [] (XT.ushr p0 (10 : Int32)) h468 n0 Z473 ) hZ (hw _ (List.mem_of_getElem? (i := 4) rfl)) (hw _ (List.mem_of_getElem? (i := 3) rfl)) (by decide) (by decide)) (g := (mkF m 56 #[.val (.int p0), .val (.ref b407), .unset, .unset, .unset] [(.int (XT.ushr p0 (10 : Int32))), (.int (5 : Int32)), (.ref b407)])) rfl (by rw [hml]; rfl) (argsL := [(.int (XT.ushr p0 (10 : Int32)))]) (rest := [(.int (5 : Int32)), (.ref b407)]) (lenOf pd_6 rfl) rfl (by show 2 * 0 + _ ≤ _; exact Nat.le_of_eq rfl) (hb hby at_56) (fun _ _ => ⟨rfl, e468, (by decide : 1 + 0 ≤ _), (by decide : 9 + 0 ≤ _)⟩)
  have hQ474b : Q1 Z (XT.ushr p0 (10 : Int32)) h468 n0 vv474 T474.heap L474c := hQ474
  clear hQ474
  dsimp only [Pt.U, Pt.locs, Pt.cells, Pt.slots] at X474 l474 y474 z474 st474
  subst y474 z474
  obtain ⟨rfl, Nq475, Kq476⟩ := hQ474b
  have N477 : Fr n0 L474 := by rw [l474]; exact Fr.app N469 Nq475
  refine Go.of (g' := (mkF m 59 #[.val (.int p0), .val (.ref b407), .unset, .unset, .unset] [(.double (own_r_rm1 (XT.ushr p0 (10 : Int32)))), (.int (5 : Int32)), (.ref b407)])) st474 ?_
  have e478 : T474.heap = h468 := Kq476
  have A479 := (⟨X474, hx, hby⟩ : Ax _ _ _ _ _ _ _ _ _ _ _ _ _ _ _)
  obtain ⟨T480, h480, A480, e480, W480, st480⟩ := s_dastore A479 hZ e478 (ls := #[.val (.int p0), .val (.ref b407), .unset, .unset, .unset]) (st := []) (x := (own_r_rm1 (XT.ushr p0 (10 : Int32)))) V472 (i := 5) (by decide) (j := (5 : Int32)) rfl at_59 (pc' := 60) rfl
  have N481 := Fr.snoc A480.1 N477 g408
  have K482 : Keep h0 h480 [] := K470.wr W480 (Or.inr gh409)
  have E483 : Exa Z h480 b407 "[D" := Exa.wr W480 E471
  have V484 : Dar Z h480 b407 .double 9 (fun j => if j = 5 then .double (own_r_rm1 (XT.ushr p0 (10 : Int32))) else (fun j => if j = 4 then .double (own_r_rm1 (XT.ushr p0 (8 : Int32))) else (fun j => if j = 3 then .double (own_r_rm1 (XT.ushr p0 (6 : Int32))) else (fun j => if j = 2 then .double (own_r_rm1 (XT.ushr p0 (4 : Int32))) else (fun j => if j = 1 then .double (own_r_rm1 (XT.ushr p0 (2 : Int32))) else (fun j => if j = 0 then .double (own_r_rm1 p0) else (fun _ => .double (0 : UInt64)) j) j) j) j) j) j) := Dar.set V472 W480 (fun _ _ => rfl)
  have Z485 : n0 ≤ h480.size := by rw [W480.size]; exact Z473
  refine st480 ?_
  refine g_aloadN A480 at_60 rfl rfl (pc' := 61) rfl ?_
  refine g_bipush A480 at_61 (v := (6 : Int32)) rfl (pc' := 63) rfl ?_
  refine g_iloadN A480 at_63 rfl (pc' := 64) rfl ?_
  refine g_bipush A480 at_64 (v := (12 : Int32)) rfl (pc' := 66) rfl ?_
  refine g_iushr A480 at_66 (pc' := 67) rfl ?_
  obtain ⟨vv486, _, ⟨T486, L486, k486, n486⟩, -, X486, ⟨L486c, hQ486, l486, y486, z486⟩, st486⟩ := Jvm.LawKit.callS A480.1 hx (y := (⟨"com/example/pursuant/pursuant/dictionary/BandDictionaryGetStoredCountPinLaw", "entry", "(I)D"⟩ : MethodName)) hown (mvT hZ (hw _ (List.mem_of_getElem? (i := 1) rfl))) (mvT hZ (hw _ (List.mem_of_getElem? (i := 2) rfl))) (mvT hZ (hw _ (List.mem_of_getElem? (i := 3) rfl))) (mvT hZ (hw _ (List.mem_of_getElem? (i := 4) rfl))) (by decide) (backOf (W := 2) (rm1 l Z a0 hw [] (XT.ushr p0 (12 : Int32)) h480 n0 Z485 ) hZ (hw _ (List.mem_of_getElem? (i := 4) rfl)) (hw _ (List.mem_of_getElem? (i := 3) rfl)) (by decide) (by decide)) (g := (mkF m 67 #[.val (.int p0), .val (.ref b407), .unset, .unset, .unset] [(.int (XT.ushr p0 (12 : Int32))), (.int (6 : Int32)), (.ref b407)])) rfl (by rw [hml]; rfl) (argsL := [(.int (XT.ushr p0 (12 : Int32)))]) (rest := [(.int (6 : Int32)), (.ref b407)]) (lenOf pd_6 rfl) rfl (by show 2 * 0 + _ ≤ _; exact Nat.le_of_eq rfl) (hb hby at_67) (fun _ _ => ⟨rfl, e480, (by decide : 1 + 0 ≤ _), (by decide : 9 + 0 ≤ _)⟩)
  have hQ486b : Q1 Z (XT.ushr p0 (12 : Int32)) h480 n0 vv486 T486.heap L486c := hQ486
  clear hQ486
  dsimp only [Pt.U, Pt.locs, Pt.cells, Pt.slots] at X486 l486 y486 z486 st486
  subst y486 z486
  obtain ⟨rfl, Nq487, Kq488⟩ := hQ486b
  have N489 : Fr n0 L486 := by rw [l486]; exact Fr.app N481 Nq487
  refine Go.of (g' := (mkF m 70 #[.val (.int p0), .val (.ref b407), .unset, .unset, .unset] [(.double (own_r_rm1 (XT.ushr p0 (12 : Int32)))), (.int (6 : Int32)), (.ref b407)])) st486 ?_
  have e490 : T486.heap = h480 := Kq488
  have A491 := (⟨X486, hx, hby⟩ : Ax _ _ _ _ _ _ _ _ _ _ _ _ _ _ _)
  obtain ⟨T492, h492, A492, e492, W492, st492⟩ := s_dastore A491 hZ e490 (ls := #[.val (.int p0), .val (.ref b407), .unset, .unset, .unset]) (st := []) (x := (own_r_rm1 (XT.ushr p0 (12 : Int32)))) V484 (i := 6) (by decide) (j := (6 : Int32)) rfl at_70 (pc' := 71) rfl
  have N493 := Fr.snoc A492.1 N489 g408
  have K494 : Keep h0 h492 [] := K482.wr W492 (Or.inr gh409)
  have E495 : Exa Z h492 b407 "[D" := Exa.wr W492 E483
  have V496 : Dar Z h492 b407 .double 9 (fun j => if j = 6 then .double (own_r_rm1 (XT.ushr p0 (12 : Int32))) else (fun j => if j = 5 then .double (own_r_rm1 (XT.ushr p0 (10 : Int32))) else (fun j => if j = 4 then .double (own_r_rm1 (XT.ushr p0 (8 : Int32))) else (fun j => if j = 3 then .double (own_r_rm1 (XT.ushr p0 (6 : Int32))) else (fun j => if j = 2 then .double (own_r_rm1 (XT.ushr p0 (4 : Int32))) else (fun j => if j = 1 then .double (own_r_rm1 (XT.ushr p0 (2 : Int32))) else (fun j => if j = 0 then .double (own_r_rm1 p0) else (fun _ => .double (0 : UInt64)) j) j) j) j) j) j) j) := Dar.set V484 W492 (fun _ _ => rfl)
  have Z497 : n0 ≤ h492.size := by rw [W492.size]; exact Z485
  refine st492 ?_
  refine g_aloadN A492 at_71 rfl rfl (pc' := 72) rfl ?_
  refine g_bipush A492 at_72 (v := (7 : Int32)) rfl (pc' := 74) rfl ?_
  refine g_iloadN A492 at_74 rfl (pc' := 75) rfl ?_
  refine g_bipush A492 at_75 (v := (14 : Int32)) rfl (pc' := 77) rfl ?_
  refine g_iushr A492 at_77 (pc' := 78) rfl ?_
  obtain ⟨vv498, _, ⟨T498, L498, k498, n498⟩, -, X498, ⟨L498c, hQ498, l498, y498, z498⟩, st498⟩ := Jvm.LawKit.callS A492.1 hx (y := (⟨"com/example/pursuant/pursuant/dictionary/BandDictionaryGetStoredCountPinLaw", "entry", "(I)D"⟩ : MethodName)) hown (mvT hZ (hw _ (List.mem_of_getElem? (i := 1) rfl))) (mvT hZ (hw _ (List.mem_of_getElem? (i := 2) rfl))) (mvT hZ (hw _ (List.mem_of_getElem? (i := 3) rfl))) (mvT hZ (hw _ (List.mem_of_getElem? (i := 4) rfl))) (by decide) (backOf (W := 2) (rm1 l Z a0 hw [] (XT.ushr p0 (14 : Int32)) h492 n0 Z497 ) hZ (hw _ (List.mem_of_getElem? (i := 4) rfl)) (hw _ (List.mem_of_getElem? (i := 3) rfl)) (by decide) (by decide)) (g := (mkF m 78 #[.val (.int p0), .val (.ref b407), .unset, .unset, .unset] [(.int (XT.ushr p0 (14 : Int32))), (.int (7 : Int32)), (.ref b407)])) rfl (by rw [hml]; rfl) (argsL := [(.int (XT.ushr p0 (14 : Int32)))]) (rest := [(.int (7 : Int32)), (.ref b407)]) (lenOf pd_6 rfl) rfl (by show 2 * 0 + _ ≤ _; exact Nat.le_of_eq rfl) (hb hby at_78) (fun _ _ => ⟨rfl, e492, (by decide : 1 + 0 ≤ _), (by decide : 9 + 0 ≤ _)⟩)
  have hQ498b : Q1 Z (XT.ushr p0 (14 : Int32)) h492 n0 vv498 T498.heap L498c := hQ498
  clear hQ498
  dsimp only [Pt.U, Pt.locs, Pt.cells, Pt.slots] at X498 l498 y498 z498 st498
  subst y498 z498
  obtain ⟨rfl, Nq499, Kq500⟩ := hQ498b
  have N501 : Fr n0 L498 := by rw [l498]; exact Fr.app N493 Nq499
  refine Go.of (g' := (mkF m 81 #[.val (.int p0), .val (.ref b407), .unset, .unset, .unset] [(.double (own_r_rm1 (XT.ushr p0 (14 : Int32)))), (.int (7 : Int32)), (.ref b407)])) st498 ?_
  have e502 : T498.heap = h492 := Kq500
  have A503 := (⟨X498, hx, hby⟩ : Ax _ _ _ _ _ _ _ _ _ _ _ _ _ _ _)
  obtain ⟨T504, h504, A504, e504, W504, st504⟩ := s_dastore A503 hZ e502 (ls := #[.val (.int p0), .val (.ref b407), .unset, .unset, .unset]) (st := []) (x := (own_r_rm1 (XT.ushr p0 (14 : Int32)))) V496 (i := 7) (by decide) (j := (7 : Int32)) rfl at_81 (pc' := 82) rfl
  have N505 := Fr.snoc A504.1 N501 g408
  have K506 : Keep h0 h504 [] := K494.wr W504 (Or.inr gh409)
  have E507 : Exa Z h504 b407 "[D" := Exa.wr W504 E495
  have V508 : Dar Z h504 b407 .double 9 (fun j => if j = 7 then .double (own_r_rm1 (XT.ushr p0 (14 : Int32))) else (fun j => if j = 6 then .double (own_r_rm1 (XT.ushr p0 (12 : Int32))) else (fun j => if j = 5 then .double (own_r_rm1 (XT.ushr p0 (10 : Int32))) else (fun j => if j = 4 then .double (own_r_rm1 (XT.ushr p0 (8 : Int32))) else (fun j => if j = 3 then .double (own_r_rm1 (XT.ushr p0 (6 : Int32))) else (fun j => if j = 2 then .double (own_r_rm1 (XT.ushr p0 (4 : Int32))) else (fun j => if j = 1 then .double (own_r_rm1 (XT.ushr p0 (2 : Int32))) else (fun j => if j = 0 then .double (own_r_rm1 p0) else (fun _ => .double (0 : UInt64)) j) j) j) j) j) j) j) j) := Dar.set V496 W504 (fun _ _ => rfl)
  have Z509 : n0 ≤ h504.size := by rw [W504.size]; exact Z497
  refine st504 ?_
  refine g_aloadN A504 at_82 rfl rfl (pc' := 83) rfl ?_
  refine g_bipush A504 at_83 (v := (8 : Int32)) rfl (pc' := 85) rfl ?_
  refine g_iloadN A504 at_85 rfl (pc' := 86) rfl ?_
  refine g_bipush A504 at_86 (v := (16 : Int32)) rfl (pc' := 88) rfl ?_
  refine g_iushr A504 at_88 (pc' := 89) rfl ?_
  obtain ⟨vv510, _, ⟨T510, L510, k510, n510⟩, -, X510, ⟨L510c, hQ510, l510, y510, z510⟩, st510⟩ := Jvm.LawKit.callS A504.1 hx (y := (⟨"com/example/pursuant/pursuant/dictionary/BandDictionaryGetStoredCountPinLaw", "entry", "(I)D"⟩ : MethodName)) hown (mvT hZ (hw _ (List.mem_of_getElem? (i := 1) rfl))) (mvT hZ (hw _ (List.mem_of_getElem? (i := 2) rfl))) (mvT hZ (hw _ (List.mem_of_getElem? (i := 3) rfl))) (mvT hZ (hw _ (List.mem_of_getElem? (i := 4) rfl))) (by decide) (backOf (W := 2) (rm1 l Z a0 hw [] (XT.ushr p0 (16 : Int32)) h504 n0 Z509 ) hZ (hw _ (List.mem_of_getElem? (i := 4) rfl)) (hw _ (List.mem_of_getElem? (i := 3) rfl)) (by decide) (by decide)) (g := (mkF m 89 #[.val (.int p0), .val (.ref b407), .unset, .unset, .unset] [(.int (XT.ushr p0 (16 : Int32))), (.int (8 : Int32)), (.ref b407)])) rfl (by rw [hml]; rfl) (argsL := [(.int (XT.ushr p0 (16 : Int32)))]) (rest := [(.int (8 : Int32)), (.ref b407)]) (lenOf pd_6 rfl) rfl (by show 2 * 0 + _ ≤ _; exact Nat.le_of_eq rfl) (hb hby at_89) (fun _ _ => ⟨rfl, e504, (by decide : 1 + 0 ≤ _), (by decide : 9 + 0 ≤ _)⟩)
  have hQ510b : Q1 Z (XT.ushr p0 (16 : Int32)) h504 n0 vv510 T510.heap L510c := hQ510
  clear hQ510
  dsimp only [Pt.U, Pt.locs, Pt.cells, Pt.slots] at X510 l510 y510 z510 st510
  subst y510 z510
  obtain ⟨rfl, Nq511, Kq512⟩ := hQ510b
  have N513 : Fr n0 L510 := by rw [l510]; exact Fr.app N505 Nq511
  refine Go.of (g' := (mkF m 92 #[.val (.int p0), .val (.ref b407), .unset, .unset, .unset] [(.double (own_r_rm1 (XT.ushr p0 (16 : Int32)))), (.int (8 : Int32)), (.ref b407)])) st510 ?_
  have e514 : T510.heap = h504 := Kq512
  have A515 := (⟨X510, hx, hby⟩ : Ax _ _ _ _ _ _ _ _ _ _ _ _ _ _ _)
  obtain ⟨T516, h516, A516, e516, W516, st516⟩ := s_dastore A515 hZ e514 (ls := #[.val (.int p0), .val (.ref b407), .unset, .unset, .unset]) (st := []) (x := (own_r_rm1 (XT.ushr p0 (16 : Int32)))) V508 (i := 8) (by decide) (j := (8 : Int32)) rfl at_92 (pc' := 93) rfl
  have N517 := Fr.snoc A516.1 N513 g408
  have K518 : Keep h0 h516 [] := K506.wr W516 (Or.inr gh409)
  have E519 : Exa Z h516 b407 "[D" := Exa.wr W516 E507
  have V520 : Dar Z h516 b407 .double 9 (fun j => if j = 8 then .double (own_r_rm1 (XT.ushr p0 (16 : Int32))) else (fun j => if j = 7 then .double (own_r_rm1 (XT.ushr p0 (14 : Int32))) else (fun j => if j = 6 then .double (own_r_rm1 (XT.ushr p0 (12 : Int32))) else (fun j => if j = 5 then .double (own_r_rm1 (XT.ushr p0 (10 : Int32))) else (fun j => if j = 4 then .double (own_r_rm1 (XT.ushr p0 (8 : Int32))) else (fun j => if j = 3 then .double (own_r_rm1 (XT.ushr p0 (6 : Int32))) else (fun j => if j = 2 then .double (own_r_rm1 (XT.ushr p0 (4 : Int32))) else (fun j => if j = 1 then .double (own_r_rm1 (XT.ushr p0 (2 : Int32))) else (fun j => if j = 0 then .double (own_r_rm1 p0) else (fun _ => .double (0 : UInt64)) j) j) j) j) j) j) j) j) j) := Dar.set V508 W516 (fun _ _ => rfl)
  have Z521 : n0 ≤ h516.size := by rw [W516.size]; exact Z509
  refine st516 ?_
  have V522 : Dar Z h516 b407 .double 9 (fun t => .double ((own_x p0) t)) := Dar.congr V520 (fun t ht => by
    match t, ht with
    | 0, _ => rfl
    | 1, _ => rfl
    | 2, _ => rfl
    | 3, _ => rfl
    | 4, _ => rfl
    | 5, _ => rfl
    | 6, _ => rfl
    | 7, _ => rfl
    | 8, _ => rfl
    | n + 9, h9 => exact absurd h9 (by omega))
  obtain ⟨T523, h523, X523, e523, E523, EA523, D523, -, st523⟩ := newO A516.1 hx hZ hown (hw _ (List.mem_of_getElem? (i := 5) rfl)) (hw _ (List.mem_of_getElem? (i := 6) rfl)) (hw _ (List.mem_of_getElem? (i := 7) rfl)) e516 (g := (mkF m 93 #[.val (.int p0), .val (.ref b407), .unset, .unset, .unset] [])) rfl (hb hby at_93) (by decide) (by decide)
  obtain ⟨a524, ea524⟩ : ∃ z, z = h516.size := ⟨_, rfl⟩
  rw [← ea524] at EA523 D523 st523
  have ne525 : b407 ≠ a524 := own_ne ea524 E519.lt
  have g526 : n0 ≤ a524 := by rw [ea524]; exact Z521
  have gh527 : h0.size ≤ a524 := by rw [ea524]; exact K518.1
  have K528 : Keep h0 h523 [] := K518.ext E523
  have E529 : Exa Z h523 b407 "[D" := Exa.ext E523 E519
  have V530 : Dar Z h523 b407 .double 9 (fun t => .double ((own_x p0) t)) := Dar.ext E523 V522
  have Z531 : n0 ≤ h523.size := Nat.le_trans Z521 E523.1
  have F532 : Fld Z h523 a524 "com/example/pursuant/pursuant/dictionary/Dictionary" "n" "I" (.int (0 : Int32)) := D523 (Or.inr (hw _ (List.mem_of_getElem? (i := 20) rfl))) (ty := .int) (by decide)
  have F533 : Fld Z h523 a524 "com/example/pursuant/pursuant/dictionary/Dictionary" "k" "I" (.int (0 : Int32)) := D523 (Or.inr (hw _ (List.mem_of_getElem? (i := 22) rfl))) (ty := .int) (by decide)
  have F534 : Fld Z h523 a524 "com/example/pursuant/pursuant/dictionary/BandDictionary" "starts" "[I" .null := D523 (Or.inr (hw _ (List.mem_of_getElem? (i := 29) rfl))) (ty := (.array .int)) (by decide)
  have F535 : Fld Z h523 a524 "com/example/pursuant/pursuant/dictionary/BandDictionary" "stretches" "[[D" .null := D523 (Or.inr (hw _ (List.mem_of_getElem? (i := 33) rfl))) (ty := (.array (.array .double))) (by decide)
  refine Go.of (g' := (mkF m 96 #[.val (.int p0), .val (.ref b407), .unset, .unset, .unset] [(.ref a524)])) st523 ?_
  have A536 := (⟨X523, hx, hby⟩ : Ax _ _ _ _ _ _ _ _ _ _ _ _ _ _ _)
  refine g_dup A536 at_96 rfl (pc' := 97) rfl ?_
  refine g_iconst A536 at_97 (v := (3 : Int32)) rfl (pc' := 98) rfl ?_
  refine g_iconst A536 at_98 (v := (3 : Int32)) rfl (pc' := 99) rfl ?_
  refine g_aloadN A536 at_99 rfl rfl (pc' := 100) rfl ?_
  obtain ⟨vv537, _, ⟨T537, L537, k537, n537⟩, -, X537, ⟨L537c, hQ537, l537, y537, z537⟩, st537⟩ := X523.specialBack hx (y := (⟨"com/example/pursuant/pursuant/dictionary/BandDictionary", "<init>", "(II[D)V"⟩ : MethodName)) rfl hown (mvT hZ (hw _ (List.mem_of_getElem? (i := 8) rfl))) (mvT hZ (hw _ (List.mem_of_getElem? (i := 9) rfl))) (mvT hZ (hw _ (List.mem_of_getElem? (i := 10) rfl))) (by decide) (backOf (W := 1) (rm2 l Z a0 hw [] a524 b407 (own_x p0) (.int (0 : Int32)) (.int (0 : Int32)) .null .null h523 n0 Z531 EA523 F532 F533 F534 F535 V530 g526 ne525) hZ (hw _ (List.mem_of_getElem? (i := 10) rfl)) (hw _ (List.mem_of_getElem? (i := 7) rfl)) (by decide) (by decide)) (g := (mkF m 100 #[.val (.int p0), .val (.ref b407), .unset, .unset, .unset] [(.ref b407), (.int (3 : Int32)), (.int (3 : Int32)), (.ref a524), (.ref a524)])) rfl (by rw [hml]; rfl) (Steps.refl _) (a := a524) (argsL := [(.int (3 : Int32)), (.int (3 : Int32)), (.ref b407)]) (rest := [(.ref a524)]) (lenOf pd_3 rfl) rfl (by show 2 * 0 + _ ≤ _; exact Nat.le_of_eq rfl) (hb hby at_100) (fun _ _ => ⟨rfl, e523, (by decide : 2 + 5 ≤ _), (by decide : 15 + 15 ≤ _)⟩)
  have hQ537b : Q2 Z a524 b407 (own_x p0) (.int (0 : Int32)) (.int (0 : Int32)) .null .null h523 n0 vv537 T537.heap L537c := hQ537
  clear hQ537
  dsimp only [Pt.U, Pt.locs, Pt.cells, Pt.slots] at X537 l537 y537 z537 st537
  subst y537 z537
  obtain ⟨sa538, ta539, ra0540, rb0541, r0542, ra1543, rb1544, r1545, ra2546, rb2547, r2548, rfl, Nq549, Kq550, gx551, gx552, F553, F554, gx555, V556, gx557, V558, gx559, V560, V561, V562, hq563, hq564, hq565⟩ := hQ537b
  have N566 : Fr n0 L537 := by rw [l537]; exact Fr.app N517 Nq549
  refine Go.tr (g' := (mkF m 103 #[.val (.int p0), .val (.ref b407), .unset, .unset, .unset] [(.ref a524)])) st537 ?_
  have E567 : Exa Z T537.heap b407 "[D" := Exa.keep E529 Kq550
  have V568 : Dar Z T537.heap b407 .double 9 (fun t => .double ((own_x p0) t)) := Dar.keep V530 Kq550 (ninS ne525 nin0)
  have E569 : Exa Z T537.heap a524 "com/example/pursuant/pursuant/dictionary/BandDictionary" := Exa.keep EA523 Kq550
  have Z570 : n0 ≤ T537.heap.size := Nat.le_trans Z531 Kq550.1
  have K571 : Keep h0 T537.heap [] := K528.trans Kq550 (allS (Or.inr gh527) all0)
  have A572 := (⟨X537, hx, hby⟩ : Ax _ _ _ _ _ _ _ _ _ _ _ _ _ _ _)
  have g573 : n0 ≤ sa538 := Nat.le_trans Z531 gx551
  have gh574 : h0.size ≤ sa538 := Nat.le_trans K528.1 gx551
  have ne575 : a524 ≠ sa538 := Nat.ne_of_lt (Nat.lt_of_lt_of_le EA523.lt gx551)
  have ne576 : b407 ≠ sa538 := Nat.ne_of_lt (Nat.lt_of_lt_of_le E529.lt gx551)
  have g577 : n0 ≤ ta539 := Nat.le_trans Z531 gx552
  have gh578 : h0.size ≤ ta539 := Nat.le_trans K528.1 gx552
  have ne579 : a524 ≠ ta539 := Nat.ne_of_lt (Nat.lt_of_lt_of_le EA523.lt gx552)
  have ne580 : b407 ≠ ta539 := Nat.ne_of_lt (Nat.lt_of_lt_of_le E529.lt gx552)
  have g581 : n0 ≤ r0542 := Nat.le_trans Z531 gx555
  have gh582 : h0.size ≤ r0542 := Nat.le_trans K528.1 gx555
  have ne583 : a524 ≠ r0542 := Nat.ne_of_lt (Nat.lt_of_lt_of_le EA523.lt gx555)
  have ne584 : b407 ≠ r0542 := Nat.ne_of_lt (Nat.lt_of_lt_of_le E529.lt gx555)
  have g585 : n0 ≤ r1545 := Nat.le_trans Z531 gx557
  have gh586 : h0.size ≤ r1545 := Nat.le_trans K528.1 gx557
  have ne587 : a524 ≠ r1545 := Nat.ne_of_lt (Nat.lt_of_lt_of_le EA523.lt gx557)
  have ne588 : b407 ≠ r1545 := Nat.ne_of_lt (Nat.lt_of_lt_of_le E529.lt gx557)
  have g589 : n0 ≤ r2548 := Nat.le_trans Z531 gx559
  have gh590 : h0.size ≤ r2548 := Nat.le_trans K528.1 gx559
  have ne591 : a524 ≠ r2548 := Nat.ne_of_lt (Nat.lt_of_lt_of_le EA523.lt gx559)
  have ne592 : b407 ≠ r2548 := Nat.ne_of_lt (Nat.lt_of_lt_of_le E529.lt gx559)
  refine g_astoreN A572 at_103 rfl (ls' := #[.val (.int p0), .val (.ref b407), .val (.ref a524), .unset, .unset]) rfl (pc' := 104) rfl ?_
  refine g_iloadN A572 at_104 rfl (pc' := 105) rfl ?_
  refine g_iconst A572 at_105 (v := (0 : Int32)) rfl (pc' := 106) rfl ?_
  obtain ⟨vv593, _, ⟨T593, L593, k593, n593⟩, -, X593, ⟨L593c, hQ593, l593, y593, z593⟩, st593⟩ := Jvm.LawKit.callS X537 hx (y := (⟨"com/example/pursuant/pursuant/dictionary/BandDictionaryGetStoredCountPinLaw", "span", "(II)J"⟩ : MethodName)) hown (mvT hZ (hw _ (List.mem_of_getElem? (i := 57) rfl))) (mvT hZ (hw _ (List.mem_of_getElem? (i := 58) rfl))) (mvT hZ (hw _ (List.mem_of_getElem? (i := 3) rfl))) (mvT hZ (hw _ (List.mem_of_getElem? (i := 59) rfl))) (by decide) (backOf (W := 0) (rm11 l Z a0 hw [] p0 (0 : Int32) T537.heap n0 Z570 ) hZ (hw _ (List.mem_of_getElem? (i := 59) rfl)) (hw _ (List.mem_of_getElem? (i := 3) rfl)) (by decide) (by decide)) (g := (mkF m 106 #[.val (.int p0), .val (.ref b407), .val (.ref a524), .unset, .unset] [(.int (0 : Int32)), (.int p0)])) rfl (by rw [hml]; rfl) (argsL := [(.int p0), (.int (0 : Int32))]) (rest := []) (lenOf pd_7 rfl) rfl (by show 2 * 0 + _ ≤ _; exact Nat.le_of_eq rfl) (hb hby at_106) (fun _ _ => ⟨rfl, rfl, (by decide : 7 + 0 ≤ _), (by decide : 30 + 0 ≤ _)⟩)
  have hQ593b : Q11 Z p0 (0 : Int32) T537.heap n0 vv593 T593.heap L593c := hQ593
  clear hQ593
  dsimp only [Pt.U, Pt.locs, Pt.cells, Pt.slots] at X593 l593 y593 z593 st593
  subst y593 z593
  obtain ⟨rfl, Nq594, Kq595⟩ := hQ593b
  have N596 : Fr n0 L593 := by rw [l593]; exact Fr.app N566 Nq594
  refine Go.of (g' := (mkF m 109 #[.val (.int p0), .val (.ref b407), .val (.ref a524), .unset, .unset] [(.long (own_r_rm11 p0 (0 : Int32)))])) st593 ?_
  have e597 : T593.heap = T537.heap := Kq595
  have A598 := (⟨X593, hx, hby⟩ : Ax _ _ _ _ _ _ _ _ _ _ _ _ _ _ _)
  refine g_iloadN A598 at_109 rfl (pc' := 110) rfl ?_
  refine g_bipush A598 at_110 (v := (6 : Int32)) rfl (pc' := 112) rfl ?_
  obtain ⟨vv599, _, ⟨T599, L599, k599, n599⟩, -, X599, ⟨L599c, hQ599, l599, y599, z599⟩, st599⟩ := Jvm.LawKit.callS X593 hx (y := (⟨"com/example/pursuant/pursuant/dictionary/BandDictionaryGetStoredCountPinLaw", "span", "(II)J"⟩ : MethodName)) hown (mvT hZ (hw _ (List.mem_of_getElem? (i := 57) rfl))) (mvT hZ (hw _ (List.mem_of_getElem? (i := 58) rfl))) (mvT hZ (hw _ (List.mem_of_getElem? (i := 3) rfl))) (mvT hZ (hw _ (List.mem_of_getElem? (i := 59) rfl))) (by decide) (backOf (W := 2) (rm11 l Z a0 hw [] p0 (6 : Int32) T537.heap n0 Z570 ) hZ (hw _ (List.mem_of_getElem? (i := 59) rfl)) (hw _ (List.mem_of_getElem? (i := 3) rfl)) (by decide) (by decide)) (g := (mkF m 112 #[.val (.int p0), .val (.ref b407), .val (.ref a524), .unset, .unset] [(.int (6 : Int32)), (.int p0), (.long (own_r_rm11 p0 (0 : Int32)))])) rfl (by rw [hml]; rfl) (argsL := [(.int p0), (.int (6 : Int32))]) (rest := [(.long (own_r_rm11 p0 (0 : Int32)))]) (lenOf pd_7 rfl) rfl (by show 2 * 0 + _ ≤ _; exact Nat.le_of_eq rfl) (hb hby at_112) (fun _ _ => ⟨rfl, e597, (by decide : 7 + 0 ≤ _), (by decide : 30 + 0 ≤ _)⟩)
  have hQ599b : Q11 Z p0 (6 : Int32) T537.heap n0 vv599 T599.heap L599c := hQ599
  clear hQ599
  dsimp only [Pt.U, Pt.locs, Pt.cells, Pt.slots] at X599 l599 y599 z599 st599
  subst y599 z599
  obtain ⟨rfl, Nq600, Kq601⟩ := hQ599b
  have N602 : Fr n0 L599 := by rw [l599]; exact Fr.app N596 Nq600
  refine Go.of (g' := (mkF m 115 #[.val (.int p0), .val (.ref b407), .val (.ref a524), .unset, .unset] [(.long (own_r_rm11 p0 (6 : Int32))), (.long (own_r_rm11 p0 (0 : Int32)))])) st599 ?_
  have e603 : T599.heap = T537.heap := Kq601
  have A604 := (⟨X599, hx, hby⟩ : Ax _ _ _ _ _ _ _ _ _ _ _ _ _ _ _)
  refine g_ladd A604 at_115 (pc' := 116) rfl ?_
  refine g_iloadN A604 at_116 rfl (pc' := 117) rfl ?_
  refine g_bipush A604 at_117 (v := (12 : Int32)) rfl (pc' := 119) rfl ?_
  obtain ⟨vv605, _, ⟨T605, L605, k605, n605⟩, -, X605, ⟨L605c, hQ605, l605, y605, z605⟩, st605⟩ := Jvm.LawKit.callS X599 hx (y := (⟨"com/example/pursuant/pursuant/dictionary/BandDictionaryGetStoredCountPinLaw", "span", "(II)J"⟩ : MethodName)) hown (mvT hZ (hw _ (List.mem_of_getElem? (i := 57) rfl))) (mvT hZ (hw _ (List.mem_of_getElem? (i := 58) rfl))) (mvT hZ (hw _ (List.mem_of_getElem? (i := 3) rfl))) (mvT hZ (hw _ (List.mem_of_getElem? (i := 59) rfl))) (by decide) (backOf (W := 2) (rm11 l Z a0 hw [] p0 (12 : Int32) T537.heap n0 Z570 ) hZ (hw _ (List.mem_of_getElem? (i := 59) rfl)) (hw _ (List.mem_of_getElem? (i := 3) rfl)) (by decide) (by decide)) (g := (mkF m 119 #[.val (.int p0), .val (.ref b407), .val (.ref a524), .unset, .unset] [(.int (12 : Int32)), (.int p0), (.long ((own_r_rm11 p0 (0 : Int32)) + (own_r_rm11 p0 (6 : Int32))))])) rfl (by rw [hml]; rfl) (argsL := [(.int p0), (.int (12 : Int32))]) (rest := [(.long ((own_r_rm11 p0 (0 : Int32)) + (own_r_rm11 p0 (6 : Int32))))]) (lenOf pd_7 rfl) rfl (by show 2 * 0 + _ ≤ _; exact Nat.le_of_eq rfl) (hb hby at_119) (fun _ _ => ⟨rfl, e603, (by decide : 7 + 0 ≤ _), (by decide : 30 + 0 ≤ _)⟩)
  have hQ605b : Q11 Z p0 (12 : Int32) T537.heap n0 vv605 T605.heap L605c := hQ605
  clear hQ605
  dsimp only [Pt.U, Pt.locs, Pt.cells, Pt.slots] at X605 l605 y605 z605 st605
  subst y605 z605
  obtain ⟨rfl, Nq606, Kq607⟩ := hQ605b
  have N608 : Fr n0 L605 := by rw [l605]; exact Fr.app N602 Nq606
  refine Go.of (g' := (mkF m 122 #[.val (.int p0), .val (.ref b407), .val (.ref a524), .unset, .unset] [(.long (own_r_rm11 p0 (12 : Int32))), (.long ((own_r_rm11 p0 (0 : Int32)) + (own_r_rm11 p0 (6 : Int32))))])) st605 ?_
  have e609 : T605.heap = T537.heap := Kq607
  have A610 := (⟨X605, hx, hby⟩ : Ax _ _ _ _ _ _ _ _ _ _ _ _ _ _ _)
  refine g_ladd A610 at_122 (pc' := 123) rfl ?_
  refine g_lstoreN A610 at_123 (ls' := #[.val (.int p0), .val (.ref b407), .val (.ref a524), .val (.long (((own_r_rm11 p0 (0 : Int32)) + (own_r_rm11 p0 (6 : Int32))) + (own_r_rm11 p0 (12 : Int32)))), .second]) rfl (pc' := 124) rfl ?_
  refine g_aloadN A610 at_124 rfl rfl (pc' := 125) rfl ?_
  obtain ⟨cq612, kq612, q612a, q612b, q612c⟩ := isOf hZ e609 E569
  obtain ⟨vv611, _, ⟨T611, L611, k611, n611⟩, -, X611, ⟨L611c, hQ611, l611, y611, z611⟩, st611⟩ := X605.virtualBack hx (y := (⟨"com/example/pursuant/pursuant/dictionary/BandDictionary", "getStoredCount", "()J"⟩ : MethodName)) (z := (⟨"com/example/pursuant/pursuant/dictionary/BandDictionary", "getStoredCount", "()J"⟩ : MethodName)) hown (mvT hZ (hw _ (List.mem_of_getElem? (i := 63) rfl))) (mvT hZ (hw _ (List.mem_of_getElem? (i := 64) rfl))) (notFace_of_selects (args := #[]) (mvT hZ (hw _ (List.mem_of_getElem? (i := 66) rfl)))) (mvT hZ (hw _ (List.mem_of_getElem? (i := 66) rfl))) (mvT hZ (hw _ (List.mem_of_getElem? (i := 65) rfl))) (by decide) (backOf (W := 0) (rm13 l Z a0 hw [] a524 ta539 (fun j => if j = 2 then .ref r2548 else (fun j => if j = 1 then .ref r1545 else (fun j => if j = 0 then .ref r0542 else (fun _ => .null) j) j) j) r0542 r1545 r2548 (rb0541 - ra0540) (rb1544 - ra1543) (rb2547 - ra2546) (fun t => .double ((own_x p0) (ra0540 + t))) (fun t => .double ((own_x p0) (ra1543 + t))) (fun t => .double ((own_x p0) (ra2546 + t))) T537.heap n0 Z570 E569 F554 V562 V556 V558 V560 rfl rfl rfl) hZ (hw _ (List.mem_of_getElem? (i := 67) rfl)) (hw _ (List.mem_of_getElem? (i := 7) rfl)) (by decide) (by decide)) q612a q612c (g := (mkF m 125 #[.val (.int p0), .val (.ref b407), .val (.ref a524), .val (.long (((own_r_rm11 p0 (0 : Int32)) + (own_r_rm11 p0 (6 : Int32))) + (own_r_rm11 p0 (12 : Int32)))), .second] [(.ref a524)])) rfl (by rw [hml]; rfl) (Steps.refl _) (argsL := []) (rest := []) (lenOf pd_8 rfl) rfl (by show 2 * 0 + _ ≤ _; exact Nat.le_of_eq rfl) (hb hby at_125) (fun _ _ => ⟨rfl, e609, (by decide : 7 + 0 ≤ _), (by decide : 30 + 0 ≤ _)⟩)
  have hQ611b : Q13 Z a524 ta539 (fun j => if j = 2 then .ref r2548 else (fun j => if j = 1 then .ref r1545 else (fun j => if j = 0 then .ref r0542 else (fun _ => .null) j) j) j) r0542 r1545 r2548 (rb0541 - ra0540) (rb1544 - ra1543) (rb2547 - ra2546) (fun t => .double ((own_x p0) (ra0540 + t))) (fun t => .double ((own_x p0) (ra1543 + t))) (fun t => .double ((own_x p0) (ra2546 + t))) T537.heap n0 vv611 T611.heap L611c := hQ611
  clear hQ611
  dsimp only [Pt.U, Pt.locs, Pt.cells, Pt.slots] at X611 l611 y611 z611 st611
  subst y611 z611
  obtain ⟨rfl, Nq613, Kq614⟩ := hQ611b
  have N615 : Fr n0 L611 := by rw [l611]; exact Fr.app N608 Nq613
  refine Go.tr (g' := (mkF m 128 #[.val (.int p0), .val (.ref b407), .val (.ref a524), .val (.long (((own_r_rm11 p0 (0 : Int32)) + (own_r_rm11 p0 (6 : Int32))) + (own_r_rm11 p0 (12 : Int32)))), .second] [(.long (own_r_rm13 (rb0541 - ra0540) (rb1544 - ra1543) (rb2547 - ra2546)))])) st611 ?_
  have e616 : T611.heap = T537.heap := Kq614
  have A617 := (⟨X611, hx, hby⟩ : Ax _ _ _ _ _ _ _ _ _ _ _ _ _ _ _)
  refine g_lloadN A617 at_128 rfl (pc' := 129) rfl ?_
  refine g_lcmp A617 at_129 (pc' := 130) rfl ?_
  refine g_ifN A617 at_130 (c0_ne_f ((l_eq (own_r_rm13 (rb0541 - ra0540) (rb1544 - ra1543) (rb2547 - ra2546)) (((own_r_rm11 p0 (0 : Int32)) + (own_r_rm11 p0 (6 : Int32))) + (own_r_rm11 p0 (12 : Int32)))).mpr (own_all hq563 hq564 hq565))) (pc' := 133) rfl ?_
  refine g_iconst A617 at_133 (v := (1 : Int32)) rfl (pc' := 134) rfl ?_
  refine g_goto A617 at_134 (pc' := 138) rfl ?_
  exact g_ret (Q := Q0 Z p0 h0 n0) A617 at_138 Bd.notSynchronized Bd.returns rfl (Or.inl ⟨rfl, by simp, _, rfl⟩) (by decide) (by decide) (by rw [e616]; exact ⟨rfl, N615⟩)
set_option maxRecDepth 65536 in
set_option maxHeartbeats 40000000 in
theorem comes_1 {Post : Tables → Env → Array Value → State → Outcome → State → Prop} (hpost : ∀ tb e args s v u, (limb_1_1.after args s (.returned v) u = true ∧ limb_1_2.after args s (.returned v) u = true ∧ True) → FrameEnd s (.returned v) u (Jvm.fieldLocs frame_1_writes args s ++ Jvm.arrayLocs frame_1_arrays args s ++ Jvm.staticLocs frame_1_statics s) 24 128 → Post tb e args s (.returned v) u) :
    ArmFor flags0 classFile x code maxLocals ret World_1 tables_1 room_1 Calls_1 rest_1 Pre_1 Post := by
  intro l hfl _ _ p e ha hc hk s m args below hf hA hF happ hP
  obtain ⟨hcalls, hrest, hpre⟩ := hP
  obtain ⟨-, -, -, hnamed, -, -, -, hat⟩ := (Spec.applies_iff hf).mp happ
  obtain ⟨hg, hn⟩ := and_e (Cond.before_iff.mp (show (Jvm.Cond.and given_1 narrow_1).before args s = true from hpre))
  obtain ⟨g0, hg1⟩ := and_e hg
  obtain ⟨w0, rfl⟩ : ∃ w0 : Value, args = #[w0] := by
    have hs : args.size = 1 := by simpa [Cond.value, given_1] using g0
    obtain ⟨L⟩ := args
    match L, hs with
    | [w0], _ => exact ⟨w0, rfl⟩
  have hw := fun d (hd : d ∈ tables_1) => atoms_spec (ws := Jvm.Cond.code x code maxLocals ret :: tables_1) hat d (List.mem_cons_of_mem _ hd)
  have hfit : Fit s := fun {y c} hc i hi => by
    obtain ⟨ha, rfl⟩ := Array.getElem?_eq_some_iff.mp hc
    have q := List.all_eq_true.mp ((Array.all_eq_true_iff_forall_mem.mp hF) _ (Array.getElem_mem ha)) i (List.mem_range.mpr hi)
    simpa [Array.getElem?_eq_getElem hi] using q
  obtain ⟨i0, j0⟩ := is_v hg1
  obtain rfl : w0 = (.int i0) := Option.some.inj j0
  obtain ⟨n, o, h1, h2, h3, _, L, rfl, ⟨rfl, N⟩, hq⟩ := rm0 l s _ hw tables_1 i0 s.heap s.heap.size (Nat.le_refl _)  p e ha hc hk s m _ below hf ((Spec.applies_iff_loose hf).mp happ).1 ⟨rfl, State.Warmed39.refl s, rfl⟩ trivial
  refine ⟨n, _, h1, h2, h3, hpost _ _ _ _ _ _ ⟨Cond.after_iff.mpr rfl, Cond.after_iff.mpr (eq_i res_at (Term.int_eval (1)) rfl), trivial⟩ ⟨hq.1, hq.2.1, (hq.2.2.sift fun y hy => Or.inr (N y hy)).mono (by decide) (by decide)⟩⟩
theorem main_1_1 : Claimed_1_1 := comes_1 fun _ _ _ _ _ _ h hF => ⟨h.1, hF⟩
theorem main_1_2 : Claimed_1_2 := comes_1 fun _ _ _ _ _ _ h hF => ⟨h.2.1, hF⟩
end Jvm.Pilot.@@N@@
namespace Jvm.Pilot.@@N@@
open Jvm Jvm.ClassFile Sem Op Lib Jvm.Free Jvm.Stand Jvm.Pilot.@@N@@.Jvm.D
/-! MADE BY PROGRAM (witnessworld.py) out of the Statement's table words and the real class files: 16 classes; the members and pool entries that the words name. The judged class is class 1, her method 1. -/
namespace start1
open Jvm.ClassFile
def u (s : String) : CpInfo := .utf8 (stringToUtf16 s)
/-- a pool by its gaps: so many unusable entries, then the entry; so many at the end -/
def gap : Nat → List CpInfo → List CpInfo
  | 0, r => r
  | n + 1, r => .unusable :: gap n r
def poolList (es : List (Nat × CpInfo)) (last : Nat) : List CpInfo := es.foldr (fun e r => gap e.1 (e.2 :: r)) (gap last [])
def pool (es : List (Nat × CpInfo)) (last : Nat) : Array CpInfo := ⟨poolList es last⟩
def fileOf (pool : Array CpInfo) (this : Nat) (attrs : Array Attribute := #[]) (ms : Array MethodInfo := #[]) (fl : Nat := 33) (sup : Nat := 0) (ifs : Array Nat := #[]) (fds : Array FieldInfo := #[]) : ClassFile where
  minorVersion := 0
  majorVersion := 65
  constantPool := pool
  accessFlags := fl
  thisClass := this
  superClass := sup
  interfaces := ifs
  fields := fds
  methods := ms
  attributes := attrs
def plain (name : String) (sup : Option ClassId) : Class where
  name := name
  kind := .ordinary
  loader := none
  accessFlags := 33
  super := sup
  interfaces := #[]
  cf := none
  fields := #[]
  methods := #[]
  instanceTypes := #[]
  staticTypes := #[]
  resolved := #[]
  callSites := []
  init := .initialized
  statics := none
  mirror := none

def pool0 : Array CpInfo := pool [(5, u "<init>"), (0, u "()V"), (1, .class_ 10), (1, u "java/lang/Object")] 113

def k0c0 : Code := { maxStack := 0, maxLocals := 1, code := object_method_1_code, exceptionTable := #[], attributes := #[] }
def k0m0 : Method := { name := "<init>", desc := "()V", sig := { parameters := [], returnType := none }, accessFlags := 1, code := some k0c0 }
/-- java/lang/Object -/
def k0 : Class := { plain "java/lang/Object" none with
  accessFlags := 33
  interfaces := #[]
  cf := some (fileOf pool0 8 #[] #[{ accessFlags := 1, nameIndex := 5, descriptorIndex := 6, attributes := #[] }] 33 0 #[] #[])
  fields := #[]
  methods := #[k0m0]
  instanceTypes := #[]
  staticTypes := #[]
  resolved := Array.replicate 124 none
  statics := none }

def pool1 : Array CpInfo := pool [(2, .class_ 4), (1, u "java/lang/Object"), (0, u "<init>"), (0, u "()V"), (0, .methodref 8 9), (0, .class_ 10), (0, .nameAndType 11 12), (0, u "com/example/pursuant/pursuant/dictionary/BandDictionaryGetStoredCountPinLaw"), (0, u "entry"), (0, u "(I)D"), (0, .class_ 14), (0, u "com/example/pursuant/pursuant/dictionary/BandDictionary"), (0, .methodref 13 16), (0, .nameAndType 5 17), (0, u "(II[D)V"), (0, .methodref 8 19), (0, .nameAndType 20 21), (0, u "span"), (0, u "(II)J"), (0, .methodref 13 23), (0, .nameAndType 24 25), (0, u "getStoredCount"), (0, u "()J"), (0, .double 9223372036854775808), (1, .double 13837309855095848960), (1, .methodref 8 31), (0, .nameAndType 32 33), (0, u "nz"), (0, u "(II)Z"), (0, .long 3), (1, .long 2), (3, u "law"), (0, u "(I)Z")] 5

def k1m0 : Method := { name := "<init>", desc := "()V", sig := { parameters := [], returnType := none }, accessFlags := 1, code := none }
def k1c1 : Code := { maxStack := 5, maxLocals := 5, code := code, exceptionTable := #[], attributes := #[] }
def k1m1 : Method := { name := "law", desc := "(I)Z", sig := { parameters := [.int], returnType := some .boolean }, accessFlags := 9, code := some k1c1 }
def k1c2 : Code := { maxStack := 2, maxLocals := 2, code := method_3_code, exceptionTable := #[], attributes := #[] }
def k1m2 : Method := { name := "entry", desc := "(I)D", sig := { parameters := [.int], returnType := some .double }, accessFlags := 10, code := some k1c2 }
def k1c3 : Code := { maxStack := 2, maxLocals := 2, code := method_4_code, exceptionTable := #[], attributes := #[] }
def k1m3 : Method := { name := "nz", desc := "(II)Z", sig := { parameters := [.int, .int], returnType := some .boolean }, accessFlags := 10, code := some k1c3 }
def k1c4 : Code := { maxStack := 3, maxLocals := 5, code := method_5_code, exceptionTable := #[], attributes := #[] }
def k1m4 : Method := { name := "span", desc := "(II)J", sig := { parameters := [.int, .int], returnType := some .long }, accessFlags := 10, code := some k1c4 }
/-- com/example/pursuant/pursuant/dictionary/BandDictionaryGetStoredCountPinLaw -/
def k1 : Class := { plain "com/example/pursuant/pursuant/dictionary/BandDictionaryGetStoredCountPinLaw" (some 0) with
  accessFlags := 49
  interfaces := #[]
  cf := some (fileOf pool1 8 #[] #[{ accessFlags := 1, nameIndex := 5, descriptorIndex := 6, attributes := #[] }, { accessFlags := 9, nameIndex := 40, descriptorIndex := 41, attributes := #[] }, { accessFlags := 10, nameIndex := 11, descriptorIndex := 12, attributes := #[] }, { accessFlags := 10, nameIndex := 32, descriptorIndex := 33, attributes := #[] }, { accessFlags := 10, nameIndex := 20, descriptorIndex := 21, attributes := #[] }] 49 2 #[] #[])
  fields := #[]
  methods := #[k1m0, k1m1, k1m2, k1m3, k1m4]
  instanceTypes := #[]
  staticTypes := #[]
  resolved := Array.replicate 47 none
  statics := none }

def pool2 : Array CpInfo := pool [(1, .methodref 2 3), (0, .class_ 4), (0, .nameAndType 5 6), (0, u "java/lang/Object"), (0, u "<init>"), (0, u "()V"), (9, .fieldref 17 18), (0, .class_ 19), (0, .nameAndType 20 21), (0, u "com/example/pursuant/pursuant/dictionary/Dictionary"), (0, u "n"), (0, u "I"), (0, .fieldref 17 23), (0, .nameAndType 24 21), (0, u "k"), (116, u "NORM_TOLERANCE"), (0, u "D"), (1, u "(II)V"), (22, u "checkValueCount"), (0, u "(II[D)V")] 27

def k2c0 : Code := { maxStack := 4, maxLocals := 3, code := prog_4_method_1_code, exceptionTable := #[], attributes := #[] }
def k2m0 : Method := { name := "<init>", desc := "(II)V", sig := { parameters := [.int, .int], returnType := none }, accessFlags := 4, code := some k2c0 }
def k2c1 : Code := { maxStack := 7, maxLocals := 3, code := prog_4_method_28_code, exceptionTable := #[], attributes := #[] }
def k2m1 : Method := { name := "checkValueCount", desc := "(II[D)V", sig := { parameters := [.int, .int, (.array .double)], returnType := none }, accessFlags := 12, code := some k2c1 }
/-- com/example/pursuant/pursuant/dictionary/Dictionary -/
def k2 : Class := { plain "com/example/pursuant/pursuant/dictionary/Dictionary" (some 0) with
  accessFlags := 1057
  interfaces := #[]
  cf := some (fileOf pool2 17 #[] #[{ accessFlags := 4, nameIndex := 5, descriptorIndex := 144, attributes := #[] }, { accessFlags := 12, nameIndex := 167, descriptorIndex := 168, attributes := #[] }] 1057 2 #[] #[{ accessFlags := 26, nameIndex := 141, descriptorIndex := 142, attributes := #[] }, { accessFlags := 18, nameIndex := 20, descriptorIndex := 21, attributes := #[] }, { accessFlags := 18, nameIndex := 24, descriptorIndex := 21, attributes := #[] }])
  fields := #[{ name := "NORM_TOLERANCE", type := .double, accessFlags := 26, slot := 0, constantValue := 0 }, { name := "n", type := .int, accessFlags := 18, slot := 0, constantValue := 0 }, { name := "k", type := .int, accessFlags := 18, slot := 1, constantValue := 0 }]
  methods := #[k2m0, k2m1]
  instanceTypes := #[.int, .int]
  staticTypes := #[.double]
  resolved := Array.replicate 196 none
  statics := none }

def pool3 : Array CpInfo := pool [(1, .methodref 2 3), (0, .class_ 4), (0, .nameAndType 5 6), (0, u "com/example/pursuant/pursuant/dictionary/Dictionary"), (0, u "<init>"), (0, u "(II)V"), (0, .methodref 8 9), (0, .class_ 10), (0, .nameAndType 11 12), (0, u "com/example/pursuant/pursuant/dictionary/BandDictionary"), (0, u "checkValueCount"), (0, u "(II[D)V"), (0, .fieldref 8 14), (0, .nameAndType 15 16), (0, u "starts"), (0, u "[I"), (0, .class_ 18), (0, u "[D"), (0, .fieldref 8 20), (0, .nameAndType 21 22), (0, u "stretches"), (0, u "[[D"), (0, .methodref 8 24), (0, .nameAndType 25 26), (0, u "keepStretch"), (0, u "(I[DIII)V"), (46, .class_ 75), (1, u "java/util/Arrays"), (10, u "squaredNorms"), (6, u "crossProducts"), (28, .methodref 73 123), (0, .nameAndType 124 125), (0, u "copyOfRange"), (0, u "([DII)[D"), (18, u "getStoredCount"), (0, u "()J")] 34

def k3c0 : Code := { maxStack := 6, maxLocals := 5, code := prog_1_method_1_code, exceptionTable := #[], attributes := #[] }
def k3m0 : Method := { name := "<init>", desc := "(II[D)V", sig := { parameters := [.int, .int, (.array .double)], returnType := none }, accessFlags := 1, code := some k3c0 }
def k3c1 : Code := { maxStack := 4, maxLocals := 7, code := prog_1_method_4_code, exceptionTable := #[], attributes := #[] }
def k3m1 : Method := { name := "getStoredCount", desc := "()J", sig := { parameters := [], returnType := some .long }, accessFlags := 1, code := some k3c1 }
def k3c2 : Code := { maxStack := 5, maxLocals := 8, code := prog_1_method_14_code, exceptionTable := #[], attributes := #[] }
def k3m2 : Method := { name := "keepStretch", desc := "(I[DIII)V", sig := { parameters := [.int, (.array .double), .int, .int, .int], returnType := none }, accessFlags := 2, code := some k3c2 }
/-- com/example/pursuant/pursuant/dictionary/BandDictionary -/
def k3 : Class := { plain "com/example/pursuant/pursuant/dictionary/BandDictionary" (some 2) with
  accessFlags := 33
  interfaces := #[]
  cf := some (fileOf pool3 8 #[] #[{ accessFlags := 1, nameIndex := 5, descriptorIndex := 12, attributes := #[] }, { accessFlags := 1, nameIndex := 144, descriptorIndex := 145, attributes := #[] }, { accessFlags := 2, nameIndex := 25, descriptorIndex := 26, attributes := #[] }] 33 2 #[] #[{ accessFlags := 18, nameIndex := 15, descriptorIndex := 16, attributes := #[] }, { accessFlags := 18, nameIndex := 21, descriptorIndex := 22, attributes := #[] }, { accessFlags := 66, nameIndex := 86, descriptorIndex := 18, attributes := #[] }, { accessFlags := 66, nameIndex := 93, descriptorIndex := 22, attributes := #[] }])
  fields := #[{ name := "starts", type := (.array .int), accessFlags := 18, slot := 2, constantValue := 0 }, { name := "stretches", type := (.array (.array .double)), accessFlags := 18, slot := 3, constantValue := 0 }, { name := "squaredNorms", type := (.array .double), accessFlags := 66, slot := 4, constantValue := 0 }, { name := "crossProducts", type := (.array (.array .double)), accessFlags := 66, slot := 5, constantValue := 0 }]
  methods := #[k3m0, k3m1, k3m2]
  instanceTypes := #[.int, .int, (.array .int), (.array (.array .double)), (.array .double), (.array (.array .double))]
  staticTypes := #[]
  resolved := Array.replicate 180 none
  statics := none }

def pool4 : Array CpInfo := pool [(2, .class_ 4), (1, u "java/lang/Object"), (0, u "<init>"), (0, u "()V"), (7, .class_ 16), (1, u "java/util/Arrays"), (57, .class_ 76), (1, u "java/util/Arrays$NaturalOrder"), (36, .class_ 115), (1, u "java/util/Arrays$LegacyMergeSort"), (1, u "Z"), (21, u "copyOfRange"), (10, .methodref 151 152), (0, .class_ 153), (0, .nameAndType 154 155), (0, u "java/lang/System"), (0, u "arraycopy"), (0, u "(Ljava/lang/Object;ILjava/lang/Object;II)V"), (148, .methodref 305 306), (0, .class_ 307), (0, .nameAndType 308 309), (0, u "java/lang/Math"), (0, u "min"), (0, u "(II)I"), (33, .methodref 14 344), (0, .nameAndType 345 346), (0, u "checkLength"), (0, u "(II)V"), (20, .methodref 14 368), (0, .nameAndType 369 370), (0, u "copyOfRangeDouble"), (0, u "([DII)[D"), (4, .class_ 376), (0, u "java/util/Arrays$ArrayList"), (68, u "$assertionsDisabled"), (269, u "MIN_ARRAY_SORT_GRAN"), (0, u "I"), (2, u "INSERTIONSORT_THRESHOLD"), (255, .class_ 976), (0, u "java/util/Arrays$ArrayItr")] 52

def k4m0 : Method := { name := "<init>", desc := "()V", sig := { parameters := [], returnType := none }, accessFlags := 2, code := none }
def k4c1 : Code := { maxStack := 4, maxLocals := 2, code := jdk_65_method_131_code, exceptionTable := #[], attributes := #[] }
def k4m1 : Method := { name := "checkLength", desc := "(II)V", sig := { parameters := [.int, .int], returnType := none }, accessFlags := 10, code := some k4c1 }
def k4c2 : Code := { maxStack := 3, maxLocals := 3, code := jdk_65_method_144_code, exceptionTable := #[], attributes := #[] }
def k4m2 : Method := { name := "copyOfRange", desc := "([DII)[D", sig := { parameters := [(.array .double), .int, .int], returnType := some (.array .double) }, accessFlags := 9, code := some k4c2 }
def k4c3 : Code := { maxStack := 6, maxLocals := 5, code := jdk_65_method_145_code, exceptionTable := #[], attributes := #[] }
def k4m3 : Method := { name := "copyOfRangeDouble", desc := "([DII)[D", sig := { parameters := [(.array .double), .int, .int], returnType := some (.array .double) }, accessFlags := 10, code := some k4c3 }
/-- java/util/Arrays -/
def k4 : Class := { plain "java/util/Arrays" (some 0) with
  accessFlags := 49
  interfaces := #[]
  cf := some (fileOf pool4 14 #[.nestMembers #[975, 375, 113, 74]] #[{ accessFlags := 2, nameIndex := 5, descriptorIndex := 6, attributes := #[] }, { accessFlags := 10, nameIndex := 345, descriptorIndex := 346, attributes := #[] }, { accessFlags := 9, nameIndex := 139, descriptorIndex := 370, attributes := #[] }, { accessFlags := 10, nameIndex := 369, descriptorIndex := 370, attributes := #[] }] 49 2 #[] #[{ accessFlags := 26, nameIndex := 715, descriptorIndex := 716, attributes := #[] }, { accessFlags := 26, nameIndex := 719, descriptorIndex := 716, attributes := #[] }, { accessFlags := 4120, nameIndex := 445, descriptorIndex := 117, attributes := #[] }])
  fields := #[{ name := "MIN_ARRAY_SORT_GRAN", type := .int, accessFlags := 26, slot := 0, constantValue := 0 }, { name := "INSERTIONSORT_THRESHOLD", type := .int, accessFlags := 26, slot := 1, constantValue := 0 }, { name := "$assertionsDisabled", type := .boolean, accessFlags := 4120, slot := 2, constantValue := 0 }]
  methods := #[k4m0, k4m1, k4m2, k4m3]
  instanceTypes := #[]
  staticTypes := #[.int, .int, .boolean]
  resolved := Array.replicate 1029 none
  statics := none }

def pool5 : Array CpInfo := pool [(1, .class_ 2), (0, u "java/lang/Math"), (1, .class_ 6), (1, u "java/lang/Object"), (0, u "<init>"), (0, u "()V"), (89, .class_ 100), (1, u "java/lang/Math$RandomNumberGeneratorHolder"), (71, u "negativeZeroFloatBits"), (0, u "J"), (2, u "negativeZeroDoubleBits"), (24, u "min"), (43, u "$assertionsDisabled"), (0, u "Z"), (88, u "(II)I"), (2, u "twoToTheDoubleScaleDown"), (0, u "D"), (4, u "twoToTheDoubleScaleUp"), (9, u "E"), (3, u "PI"), (2, u "TAU"), (2, u "DEGREES_TO_RADIANS"), (0, u "RADIANS_TO_DEGREES")] 94

def k5m0 : Method := { name := "<init>", desc := "()V", sig := { parameters := [], returnType := none }, accessFlags := 2, code := none }
def k5c1 : Code := { maxStack := 2, maxLocals := 2, code := jdk_29_method_69_code, exceptionTable := #[], attributes := #[] }
def k5m1 : Method := { name := "min", desc := "(II)I", sig := { parameters := [.int, .int], returnType := some .int }, accessFlags := 9, code := some k5c1 }
/-- java/lang/Math -/
def k5 : Class := { plain "java/lang/Math" (some 0) with
  accessFlags := 49
  interfaces := #[]
  cf := some (fileOf pool5 1 #[.nestMembers #[98]] #[{ accessFlags := 2, nameIndex := 7, descriptorIndex := 8, attributes := #[] }, { accessFlags := 9, nameIndex := 201, descriptorIndex := 335, attributes := #[] }] 49 4 #[] #[{ accessFlags := 25, nameIndex := 354, descriptorIndex := 339, attributes := #[] }, { accessFlags := 25, nameIndex := 358, descriptorIndex := 339, attributes := #[] }, { accessFlags := 25, nameIndex := 361, descriptorIndex := 339, attributes := #[] }, { accessFlags := 26, nameIndex := 364, descriptorIndex := 339, attributes := #[] }, { accessFlags := 26, nameIndex := 365, descriptorIndex := 339, attributes := #[] }, { accessFlags := 26, nameIndex := 172, descriptorIndex := 173, attributes := #[] }, { accessFlags := 26, nameIndex := 176, descriptorIndex := 173, attributes := #[] }, { accessFlags := 8, nameIndex := 344, descriptorIndex := 339, attributes := #[] }, { accessFlags := 8, nameIndex := 338, descriptorIndex := 339, attributes := #[] }, { accessFlags := 4120, nameIndex := 245, descriptorIndex := 246, attributes := #[] }])
  fields := #[{ name := "E", type := .double, accessFlags := 25, slot := 0, constantValue := 0 }, { name := "PI", type := .double, accessFlags := 25, slot := 1, constantValue := 0 }, { name := "TAU", type := .double, accessFlags := 25, slot := 2, constantValue := 0 }, { name := "DEGREES_TO_RADIANS", type := .double, accessFlags := 26, slot := 3, constantValue := 0 }, { name := "RADIANS_TO_DEGREES", type := .double, accessFlags := 26, slot := 4, constantValue := 0 }, { name := "negativeZeroFloatBits", type := .long, accessFlags := 26, slot := 5, constantValue := 0 }, { name := "negativeZeroDoubleBits", type := .long, accessFlags := 26, slot := 6, constantValue := 0 }, { name := "twoToTheDoubleScaleUp", type := .double, accessFlags := 8, slot := 7, constantValue := 0 }, { name := "twoToTheDoubleScaleDown", type := .double, accessFlags := 8, slot := 8, constantValue := 0 }, { name := "$assertionsDisabled", type := .boolean, accessFlags := 4120, slot := 9, constantValue := 0 }]
  methods := #[k5m0, k5m1]
  instanceTypes := #[]
  staticTypes := #[.double, .double, .double, .double, .double, .long, .long, .double, .double, .boolean]
  resolved := Array.replicate 460 none
  statics := none }

def pool6 : Array CpInfo := pool [(2, .class_ 4), (1, u "java/lang/Object"), (0, u "<init>"), (0, u "()V"), (1, .class_ 10), (1, u "java/lang/System"), (0, u "allowSecurityManager"), (0, u "I"), (16, u "cons"), (0, u "Ljava/io/Console;"), (77, .class_ 110), (1, u "java/lang/System$CallersHolder"), (43, u "initialErrStream"), (0, u "Ljava/io/PrintStream;"), (19, u "security"), (0, u "Ljava/lang/SecurityManager;"), (31, .class_ 209), (0, u "java/lang/System$1"), (7, u "props"), (0, u "Ljava/util/Properties;"), (2, u "lineSeparator"), (0, u "Ljava/lang/String;"), (96, .class_ 321), (1, u "java/lang/System$LoggerFinder"), (5, .class_ 328), (0, u "java/lang/System$Logger"), (67, u "err"), (2, u "out"), (91, u "notSupportedJnuEncoding"), (15, u "in"), (17, u "initialIn"), (0, u "Ljava/io/InputStream;"), (35, u "bootLayer"), (0, u "Ljava/lang/ModuleLayer;"), (99, .class_ 664), (0, u "java/lang/System$2"), (9, u "NEVER"), (2, u "MAYBE"), (49, u "arraycopy"), (0, u "(Ljava/lang/Object;ILjava/lang/Object;II)V"), (72, .class_ 802), (0, u "java/lang/System$Logger$Level")] 31

def k6m0 : Method := { name := "<init>", desc := "()V", sig := { parameters := [], returnType := none }, accessFlags := 2, code := none }
def k6m1 : Method := { name := "arraycopy", desc := "(Ljava/lang/Object;ILjava/lang/Object;II)V", sig := { parameters := [(.object "java/lang/Object"), .int, (.object "java/lang/Object"), .int, .int], returnType := none }, accessFlags := 265, code := none }
/-- java/lang/System -/
def k6 : Class := { plain "java/lang/System" (some 0) with
  accessFlags := 49
  interfaces := #[]
  cf := some (fileOf pool6 8 #[.nestMembers #[319, 327, 801, 108, 663, 208]] #[{ accessFlags := 2, nameIndex := 5, descriptorIndex := 6, attributes := #[] }, { accessFlags := 265, nameIndex := 727, descriptorIndex := 728, attributes := #[] }] 49 2 #[] #[{ accessFlags := 25, nameIndex := 507, descriptorIndex := 526, attributes := #[] }, { accessFlags := 25, nameIndex := 399, descriptorIndex := 155, attributes := #[] }, { accessFlags := 25, nameIndex := 396, descriptorIndex := 155, attributes := #[] }, { accessFlags := 10, nameIndex := 525, descriptorIndex := 526, attributes := #[] }, { accessFlags := 26, nameIndex := 674, descriptorIndex := 12, attributes := #[] }, { accessFlags := 26, nameIndex := 677, descriptorIndex := 12, attributes := #[] }, { accessFlags := 10, nameIndex := 11, descriptorIndex := 12, attributes := #[] }, { accessFlags := 74, nameIndex := 175, descriptorIndex := 176, attributes := #[] }, { accessFlags := 10, nameIndex := 491, descriptorIndex := 222, attributes := #[] }, { accessFlags := 74, nameIndex := 29, descriptorIndex := 30, attributes := #[] }, { accessFlags := 74, nameIndex := 154, descriptorIndex := 155, attributes := #[] }, { accessFlags := 10, nameIndex := 217, descriptorIndex := 218, attributes := #[] }, { accessFlags := 10, nameIndex := 221, descriptorIndex := 222, attributes := #[] }, { accessFlags := 8, nameIndex := 562, descriptorIndex := 563, attributes := #[] }])
  fields := #[{ name := "in", type := (.object "java/io/InputStream"), accessFlags := 25, slot := 0, constantValue := 0 }, { name := "out", type := (.object "java/io/PrintStream"), accessFlags := 25, slot := 1, constantValue := 0 }, { name := "err", type := (.object "java/io/PrintStream"), accessFlags := 25, slot := 2, constantValue := 0 }, { name := "initialIn", type := (.object "java/io/InputStream"), accessFlags := 10, slot := 3, constantValue := 0 }, { name := "NEVER", type := .int, accessFlags := 26, slot := 4, constantValue := 0 }, { name := "MAYBE", type := .int, accessFlags := 26, slot := 5, constantValue := 0 }, { name := "allowSecurityManager", type := .int, accessFlags := 10, slot := 6, constantValue := 0 }, { name := "security", type := (.object "java/lang/SecurityManager"), accessFlags := 74, slot := 7, constantValue := 0 }, { name := "notSupportedJnuEncoding", type := (.object "java/lang/String"), accessFlags := 10, slot := 8, constantValue := 0 }, { name := "cons", type := (.object "java/io/Console"), accessFlags := 74, slot := 9, constantValue := 0 }, { name := "initialErrStream", type := (.object "java/io/PrintStream"), accessFlags := 74, slot := 10, constantValue := 0 }, { name := "props", type := (.object "java/util/Properties"), accessFlags := 10, slot := 11, constantValue := 0 }, { name := "lineSeparator", type := (.object "java/lang/String"), accessFlags := 10, slot := 12, constantValue := 0 }, { name := "bootLayer", type := (.object "java/lang/ModuleLayer"), accessFlags := 8, slot := 13, constantValue := 0 }]
  methods := #[k6m0, k6m1]
  instanceTypes := #[]
  staticTypes := #[(.object "java/io/InputStream"), (.object "java/io/PrintStream"), (.object "java/io/PrintStream"), (.object "java/io/InputStream"), .int, .int, .int, (.object "java/lang/SecurityManager"), (.object "java/lang/String"), (.object "java/io/Console"), (.object "java/io/PrintStream"), (.object "java/util/Properties"), (.object "java/lang/String"), (.object "java/lang/ModuleLayer")]
  resolved := Array.replicate 834 none
  statics := none }

def pool7 : Array CpInfo := pool [(1, u "java/lang/Cloneable"), (0, .class_ 1), (0, u "java/lang/Object"), (0, .class_ 3)] 3

/-- java/lang/Cloneable -/
def k7 : Class := { plain "java/lang/Cloneable" (some 0) with
  accessFlags := 1537
  interfaces := #[]
  cf := some (fileOf pool7 2 #[] #[] 1537 4 #[] #[])
  fields := #[]
  methods := #[]
  instanceTypes := #[]
  staticTypes := #[]
  resolved := Array.replicate 8 none
  statics := none }

def pool8 : Array CpInfo := pool [(1, u "java/io/Serializable"), (0, .class_ 1), (0, u "java/lang/Object"), (0, .class_ 3)] 3

/-- java/io/Serializable -/
def k8 : Class := { plain "java/io/Serializable" (some 0) with
  accessFlags := 1537
  interfaces := #[]
  cf := some (fileOf pool8 2 #[] #[] 1537 4 #[] #[])
  fields := #[]
  methods := #[]
  instanceTypes := #[]
  staticTypes := #[]
  resolved := Array.replicate 8 none
  statics := none }

/-- the primitive byte -/
def k9 : Class := { plain "byte" none with kind := .primitive 'B', accessFlags := 0x411 }
/-- [B -/
def k10 : Class := { plain "[B" (some 0) with kind := .array 9 .byte, interfaces := #[7, 8], accessFlags := 1041 }

/-- the primitive double -/
def k11 : Class := { plain "double" none with kind := .primitive 'D', accessFlags := 0x411 }
/-- [D -/
def k12 : Class := { plain "[D" (some 0) with kind := .array 11 .double, interfaces := #[7, 8], accessFlags := 1041 }

/-- the primitive int -/
def k13 : Class := { plain "int" none with kind := .primitive 'I', accessFlags := 0x411 }
/-- [I -/
def k14 : Class := { plain "[I" (some 0) with kind := .array 13 .int, interfaces := #[7, 8], accessFlags := 1041 }

/-- [[D -/
def k15 : Class := { plain "[[D" (some 0) with kind := .array 12 (.array .double), interfaces := #[7, 8], accessFlags := 1041 }

def heap : Heap := #[]
def classes : Array Class := #[k0, k1, k2, k3, k4, k5, k6, k7, k8, k9, k10, k11, k12, k13, k14, k15]
def interned : List (Array UInt16 × Addr) := []
def slotsUsed : Nat := 0
def theMethod : MethodId := ⟨1, 1⟩
def args0 : Array Value := #[.int 5]
def aboutOver (below : List Frame) : State where
  vm := { classes := classes, interned := interned.toArray }
  heap := heap
  slotsUsed := slotsUsed
  threads := #[{ frames := .invoking theMethod args0 :: below }]
def below0 : List Frame := [.native { method := ⟨0, 0⟩, args := #[] }]
def about1 : State := aboutOver below0
def p0 : Program := .bare "" "" ""
def e0 : Env := launch0.env 0 0 0
theorem w_frames : about1.frames = Frame.invoking theMethod args0 :: below0 := rfl
set_option maxRecDepth 65536 in
theorem w_args : argsFit about1.vm theMethod args0 = true := by decide +kernel
set_option maxRecDepth 65536 in
theorem w_heap : heapFits about1 = true := by decide +kernel
set_option maxRecDepth 65536 in
theorem w_runnable : about1.curStatus? = some .runnable := by decide +kernel
set_option maxRecDepth 65536 in
theorem w_alone : about1.alone = true := by decide +kernel
set_option maxRecDepth 65536 in
theorem w_named : about1.methodNamed? x = some theMethod := by decide +kernel
set_option maxRecDepth 65536 in
theorem w_hears : about1.hears theMethod below0 = true := by decide +kernel
set_option maxRecDepth 65536 in
theorem w_ripe : about1.ripe theMethod args0 below0 = true := by decide +kernel
theorem w_running : about1.status = .running := rfl
set_option maxRecDepth 65536 in
theorem w_room : about1.hasRoom e0.platform room_1 = true :=
  launch0.hasRoom_least _ room_1 (by decide +kernel) (by decide +kernel) (by decide +kernel) (by decide +kernel) (by decide +kernel) (by decide +kernel)
theorem allAtoms_all (ts : List Jvm.Cond) (a : Array Jvm.Value) (st : Jvm.State) : (allAtoms ts).before a st = ts.all (fun c => c.before a st) := by
  induction ts with
  | nil => rfl
  | cons c t ih =>
    show (Jvm.Cond.and c (allAtoms t)).before a st = _
    rw [Jvm.Cond.before_and, ih, List.all_cons]
def words1 : List Jvm.Cond := Jvm.Cond.code x code maxLocals ret :: tables_1
/-- a 'code' word, met by the world's own term for the bytes: nothing is compared byte by byte -/
theorem code_word {y : MethodName} {bytes : ByteArray} {mx : Nat} {rt : Option FieldType} {a : Array Value} {s : State} {m : MethodId} {meth : Method} {c : Code} (h1 : s.methodNamed? y = some m) (h2 : s.vm.method? m = some meth) (h3 : meth.code = some c) (h4 : c.code = bytes)
    (h5 : (c.maxLocals == mx && c.exceptionTable.isEmpty && decide (c.maxStack ≤ mostOperands) && decide (meth.sig.returnType = rt) && !meth.locks && decide (parseMethodDescriptor y.desc = some meth.sig)) = true) : (Jvm.Cond.code y bytes mx rt).before a s = true := by
  simp only [Bool.and_eq_true, beq_iff_eq, Bool.not_eq_true', decide_eq_true_eq] at h5
  obtain ⟨⟨⟨⟨⟨g1, g2⟩, g3⟩, g4⟩, g5⟩, g6⟩ := h5
  simp [Cond.before, Cond.holds, Cond.value, h1, h2, h3, h4, g1, g2, g3, g4, g5, g6]
def isCode : Jvm.Cond → Bool
  | .code _ _ _ _ => true
  | _ => false
theorem all_split {L : List Jvm.Cond} {P : Jvm.Cond → Bool} (h1 : L.all (fun c => isCode c || P c) = true) (h2 : ∀ c ∈ L.filter isCode, P c = true) : L.all P = true := by
  refine List.all_eq_true.mpr fun c hc => ?_
  have h := List.all_eq_true.mp h1 c hc
  rcases Bool.eq_false_or_eq_true (isCode c) with hi | hi
  · exact h2 c (List.mem_filter.mpr ⟨hc, hi⟩)
  · simpa [hi] using h
set_option maxRecDepth 65536 in
theorem w_c0 : (Jvm.Cond.code x code maxLocals ret).before args0 about1 = true := code_word (m := ⟨1, 1⟩) (meth := k1m1) (c := k1c1) (by decide +kernel) rfl rfl rfl (by decide +kernel)
set_option maxRecDepth 65536 in
theorem w_c1 : (Jvm.Cond.code ({ cls := "com/example/pursuant/pursuant/dictionary/BandDictionaryGetStoredCountPinLaw", name := "entry", desc := "(I)D" } : Jvm.MethodName) method_3_code (2 : Nat) (Option.some Jvm.ClassFile.FieldType.double)).before args0 about1 = true := code_word (m := ⟨1, 2⟩) (meth := k1m2) (c := k1c2) (by decide +kernel) rfl rfl rfl (by decide +kernel)
set_option maxRecDepth 65536 in
theorem w_c2 : (Jvm.Cond.code ({ cls := "com/example/pursuant/pursuant/dictionary/BandDictionary", name := "<init>", desc := "(II[D)V" } : Jvm.MethodName) prog_1_method_1_code (5 : Nat) (Option.none : Option Jvm.ClassFile.FieldType)).before args0 about1 = true := code_word (m := ⟨3, 0⟩) (meth := k3m0) (c := k3c0) (by decide +kernel) rfl rfl rfl (by decide +kernel)
set_option maxRecDepth 65536 in
theorem w_c3 : (Jvm.Cond.code ({ cls := "com/example/pursuant/pursuant/dictionary/Dictionary", name := "<init>", desc := "(II)V" } : Jvm.MethodName) prog_4_method_1_code (3 : Nat) (Option.none : Option Jvm.ClassFile.FieldType)).before args0 about1 = true := code_word (m := ⟨2, 0⟩) (meth := k2m0) (c := k2c0) (by decide +kernel) rfl rfl rfl (by decide +kernel)
set_option maxRecDepth 65536 in
theorem w_c4 : (Jvm.Cond.code ({ cls := "java/lang/Object", name := "<init>", desc := "()V" } : Jvm.MethodName) object_method_1_code (1 : Nat) (Option.none : Option Jvm.ClassFile.FieldType)).before args0 about1 = true := code_word (m := ⟨0, 0⟩) (meth := k0m0) (c := k0c0) (by decide +kernel) rfl rfl rfl (by decide +kernel)
set_option maxRecDepth 65536 in
theorem w_c5 : (Jvm.Cond.code ({ cls := "com/example/pursuant/pursuant/dictionary/Dictionary", name := "checkValueCount", desc := "(II[D)V" } : Jvm.MethodName) prog_4_method_28_code (3 : Nat) (Option.none : Option Jvm.ClassFile.FieldType)).before args0 about1 = true := code_word (m := ⟨2, 1⟩) (meth := k2m1) (c := k2c1) (by decide +kernel) rfl rfl rfl (by decide +kernel)
set_option maxRecDepth 65536 in
theorem w_c6 : (Jvm.Cond.code ({ cls := "com/example/pursuant/pursuant/dictionary/BandDictionary", name := "keepStretch", desc := "(I[DIII)V" } : Jvm.MethodName) prog_1_method_14_code (8 : Nat) (Option.none : Option Jvm.ClassFile.FieldType)).before args0 about1 = true := code_word (m := ⟨3, 2⟩) (meth := k3m2) (c := k3c2) (by decide +kernel) rfl rfl rfl (by decide +kernel)
set_option maxRecDepth 65536 in
theorem w_c7 : (Jvm.Cond.code ({ cls := "java/util/Arrays", name := "copyOfRange", desc := "([DII)[D" } : Jvm.MethodName) jdk_65_method_144_code (3 : Nat) (Option.some (Jvm.ClassFile.FieldType.array Jvm.ClassFile.FieldType.double))).before args0 about1 = true := code_word (m := ⟨4, 2⟩) (meth := k4m2) (c := k4c2) (by decide +kernel) rfl rfl rfl (by decide +kernel)
set_option maxRecDepth 65536 in
theorem w_c8 : (Jvm.Cond.code ({ cls := "java/util/Arrays", name := "copyOfRangeDouble", desc := "([DII)[D" } : Jvm.MethodName) jdk_65_method_145_code (5 : Nat) (Option.some (Jvm.ClassFile.FieldType.array Jvm.ClassFile.FieldType.double))).before args0 about1 = true := code_word (m := ⟨4, 3⟩) (meth := k4m3) (c := k4c3) (by decide +kernel) rfl rfl rfl (by decide +kernel)
set_option maxRecDepth 65536 in
theorem w_c9 : (Jvm.Cond.code ({ cls := "java/util/Arrays", name := "checkLength", desc := "(II)V" } : Jvm.MethodName) jdk_65_method_131_code (2 : Nat) (Option.none : Option Jvm.ClassFile.FieldType)).before args0 about1 = true := code_word (m := ⟨4, 1⟩) (meth := k4m1) (c := k4c1) (by decide +kernel) rfl rfl rfl (by decide +kernel)
set_option maxRecDepth 65536 in
theorem w_c10 : (Jvm.Cond.code ({ cls := "java/lang/Math", name := "min", desc := "(II)I" } : Jvm.MethodName) jdk_29_method_69_code (2 : Nat) (Option.some Jvm.ClassFile.FieldType.int)).before args0 about1 = true := code_word (m := ⟨5, 1⟩) (meth := k5m1) (c := k5c1) (by decide +kernel) rfl rfl rfl (by decide +kernel)
set_option maxRecDepth 65536 in
theorem w_c11 : (Jvm.Cond.code ({ cls := "com/example/pursuant/pursuant/dictionary/BandDictionaryGetStoredCountPinLaw", name := "span", desc := "(II)J" } : Jvm.MethodName) method_5_code (5 : Nat) (Option.some Jvm.ClassFile.FieldType.long)).before args0 about1 = true := code_word (m := ⟨1, 4⟩) (meth := k1m4) (c := k1c4) (by decide +kernel) rfl rfl rfl (by decide +kernel)
set_option maxRecDepth 65536 in
theorem w_c12 : (Jvm.Cond.code ({ cls := "com/example/pursuant/pursuant/dictionary/BandDictionaryGetStoredCountPinLaw", name := "nz", desc := "(II)Z" } : Jvm.MethodName) method_4_code (2 : Nat) (Option.some Jvm.ClassFile.FieldType.boolean)).before args0 about1 = true := code_word (m := ⟨1, 3⟩) (meth := k1m3) (c := k1c3) (by decide +kernel) rfl rfl rfl (by decide +kernel)
set_option maxRecDepth 65536 in
theorem w_c13 : (Jvm.Cond.code ({ cls := "com/example/pursuant/pursuant/dictionary/BandDictionary", name := "getStoredCount", desc := "()J" } : Jvm.MethodName) prog_1_method_4_code (7 : Nat) (Option.some Jvm.ClassFile.FieldType.long)).before args0 about1 = true := code_word (m := ⟨3, 1⟩) (meth := k3m1) (c := k3c1) (by decide +kernel) rfl rfl rfl (by decide +kernel)
def codes1 : List Jvm.Cond := [Jvm.Cond.code x code maxLocals ret, Jvm.Cond.code ({ cls := "com/example/pursuant/pursuant/dictionary/BandDictionaryGetStoredCountPinLaw", name := "entry", desc := "(I)D" } : Jvm.MethodName) method_3_code (2 : Nat) (Option.some Jvm.ClassFile.FieldType.double), Jvm.Cond.code ({ cls := "com/example/pursuant/pursuant/dictionary/BandDictionary", name := "<init>", desc := "(II[D)V" } : Jvm.MethodName) prog_1_method_1_code (5 : Nat) (Option.none : Option Jvm.ClassFile.FieldType), Jvm.Cond.code ({ cls := "com/example/pursuant/pursuant/dictionary/Dictionary", name := "<init>", desc := "(II)V" } : Jvm.MethodName) prog_4_method_1_code (3 : Nat) (Option.none : Option Jvm.ClassFile.FieldType), Jvm.Cond.code ({ cls := "java/lang/Object", name := "<init>", desc := "()V" } : Jvm.MethodName) object_method_1_code (1 : Nat) (Option.none : Option Jvm.ClassFile.FieldType), Jvm.Cond.code ({ cls := "com/example/pursuant/pursuant/dictionary/Dictionary", name := "checkValueCount", desc := "(II[D)V" } : Jvm.MethodName) prog_4_method_28_code (3 : Nat) (Option.none : Option Jvm.ClassFile.FieldType), Jvm.Cond.code ({ cls := "com/example/pursuant/pursuant/dictionary/BandDictionary", name := "keepStretch", desc := "(I[DIII)V" } : Jvm.MethodName) prog_1_method_14_code (8 : Nat) (Option.none : Option Jvm.ClassFile.FieldType), Jvm.Cond.code ({ cls := "java/util/Arrays", name := "copyOfRange", desc := "([DII)[D" } : Jvm.MethodName) jdk_65_method_144_code (3 : Nat) (Option.some (Jvm.ClassFile.FieldType.array Jvm.ClassFile.FieldType.double)), Jvm.Cond.code ({ cls := "java/util/Arrays", name := "copyOfRangeDouble", desc := "([DII)[D" } : Jvm.MethodName) jdk_65_method_145_code (5 : Nat) (Option.some (Jvm.ClassFile.FieldType.array Jvm.ClassFile.FieldType.double)), Jvm.Cond.code ({ cls := "java/util/Arrays", name := "checkLength", desc := "(II)V" } : Jvm.MethodName) jdk_65_method_131_code (2 : Nat) (Option.none : Option Jvm.ClassFile.FieldType), Jvm.Cond.code ({ cls := "java/lang/Math", name := "min", desc := "(II)I" } : Jvm.MethodName) jdk_29_method_69_code (2 : Nat) (Option.some Jvm.ClassFile.FieldType.int), Jvm.Cond.code ({ cls := "com/example/pursuant/pursuant/dictionary/BandDictionaryGetStoredCountPinLaw", name := "span", desc := "(II)J" } : Jvm.MethodName) method_5_code (5 : Nat) (Option.some Jvm.ClassFile.FieldType.long), Jvm.Cond.code ({ cls := "com/example/pursuant/pursuant/dictionary/BandDictionaryGetStoredCountPinLaw", name := "nz", desc := "(II)Z" } : Jvm.MethodName) method_4_code (2 : Nat) (Option.some Jvm.ClassFile.FieldType.boolean), Jvm.Cond.code ({ cls := "com/example/pursuant/pursuant/dictionary/BandDictionary", name := "getStoredCount", desc := "()J" } : Jvm.MethodName) prog_1_method_4_code (7 : Nat) (Option.some Jvm.ClassFile.FieldType.long)]
set_option maxRecDepth 65536 in
theorem codes_eq : words1.filter isCode = codes1 := rfl
theorem w_codes : ∀ c ∈ words1.filter isCode, c.before args0 about1 = true := by
  rw [codes_eq]
  intro c hc
  simp only [codes1, List.mem_cons, List.not_mem_nil, or_false] at hc
  rcases hc with rfl | rfl | rfl | rfl | rfl | rfl | rfl | rfl | rfl | rfl | rfl | rfl | rfl | rfl
  · exact w_c0
  · exact w_c1
  · exact w_c2
  · exact w_c3
  · exact w_c4
  · exact w_c5
  · exact w_c6
  · exact w_c7
  · exact w_c8
  · exact w_c9
  · exact w_c10
  · exact w_c11
  · exact w_c12
  · exact w_c13
set_option maxRecDepth 65536 in
theorem w_t1 : (words1.take 24).all (fun c => isCode c || c.before args0 about1) = true := by decide +kernel
set_option maxRecDepth 65536 in
theorem w_t2 : ((words1.drop 24).take 24).all (fun c => isCode c || c.before args0 about1) = true := by decide +kernel
set_option maxRecDepth 65536 in
theorem w_t3 : (((words1.drop 24).drop 24).take 24).all (fun c => isCode c || c.before args0 about1) = true := by decide +kernel
set_option maxRecDepth 65536 in
theorem w_t4 : (((words1.drop 24).drop 24).drop 24).all (fun c => isCode c || c.before args0 about1) = true := by decide +kernel
theorem w_tables : (allAtoms (Jvm.Cond.code x code maxLocals ret :: tables_1)).before args0 about1 = true := by
  rw [allAtoms_all]
  show words1.all (fun c => c.before args0 about1) = true
  refine all_split ?_ w_codes
  rw [← List.take_append_drop 24 words1, List.all_append, w_t1, ← List.take_append_drop 24 (words1.drop 24), List.all_append, w_t2, ← List.take_append_drop 24 ((words1.drop 24).drop 24), List.all_append, w_t3, w_t4]
  rfl
set_option maxRecDepth 65536 in
theorem w_case : (Jvm.Cond.and given_1 narrow_1).before args0 about1 = true := by decide +kernel
theorem w_applies : (headSpec (Jvm.Cond.code x code maxLocals ret :: tables_1) room_1).applies x e0.platform about1 = true :=
  (Spec.applies_iff w_frames).mpr ⟨w_running, w_runnable, w_alone, w_named, w_hears, w_ripe, w_room, w_tables⟩
theorem atStart : AtStart classFile x code maxLocals ret World_1 tables_1 room_1 Calls_1 rest_1 Pre_1 launch0 p0 e0 about1 theMethod args0 below0 :=
  ⟨lists_1, trivial, launch0.admits_env _ _ _, launch0.least_env, fairChoices_fair.cas, fairChoices_fair.clock, w_frames, w_args, w_heap, w_applies, trivial, trivial, w_case⟩
end start1
theorem witness_1 : WitnessClaimed_1 := ⟨start1.p0, start1.e0, start1.about1, start1.theMethod, start1.args0, start1.below0, start1.atStart⟩
end Jvm.Pilot.@@N@@
