import JvmDerived
import JvmDerived.Pilot.@@N@@Statement
import JvmDerived.Pilot.@@N@@Code
set_option linter.unusedVariables false
set_option linter.unusedSimpArgs false
namespace Jvm.Pilot.@@N@@
open Jvm Jvm.ClassFile Sem Op Lib Jvm.Free Jvm.Free.Fl Jvm.Stand Jvm.LawKit Jvm.RoadKit Bundle Jvm.Pilot.@@N@@.Jvm.D
section own_go
/-- where the walk stands, with the two facts that every step asks -/
def Ax (p : Program) (l : Launch) (e : Env) (R : Room) (s : State) (m : MethodId) (args : Array Value) (below : List Frame) (meth : Method) (c : Code) (T : State) (locs : List Loc) (cells slots : Nat) (B : ByteArray) : Prop := Stand p l e R s m args below meth c T locs cells slots ∧ p.tables.exec = Jvm.exec ∧ c.code = B
/-- from this frame the run ends, and P holds of its end -/
def Go (p : Program) (e : Env) (below : List Frame) (P : State → Outcome → Prop) (T : State) (g : JFrame) : Prop := ∃ U o, Steps p.tables e below (T.setTop g) U ∧ U.status = .running ∧ Ended U below o ∧ P U o
variable {p : Program} {l : Launch} {e : Env} {R : Room} {s : State} {m : MethodId} {args : Array Value} {below : List Frame} {meth : Method} {c : Code} {T : State} {locs : List Loc} {cells slots : Nat} {P : State → Outcome → Prop} {B : ByteArray} {pc pc' : Nat} {ls ls' : Array Slot} {st : List Value}
theorem Go.of {T' : State} {g g' : JFrame} (k : ∀ t, Steps p.tables e below (T'.setTop g') t → Steps p.tables e below (T.setTop g) t) (h : Go p e below P T' g') : Go p e below P T g := by
  obtain ⟨U, o, h1, h2⟩ := h
  exact ⟨U, o, k _ h1, h2⟩
theorem Go.tr {T' : State} {g g' : JFrame} (k : Steps p.tables e below (T.setTop g) (T'.setTop g')) (h : Go p e below P T' g') : Go p e below P T g := Go.of (fun _ h => k.trans h) h
theorem Go.cast {g g' : JFrame} (q : g = g') (h : Go p e below P T g') : Go p e below P T g := q ▸ h

theorem g_iadd (A : Ax p l e R s m args below meth c T locs cells slots B) {x : Int32} {y : Int32} (hd : decode B pc = .ok (.iadd, 1)) (hp : pc + 1 = pc') (k : Go p e below P T (mkF m pc' ls (.int (x + y) :: st))) : Go p e below P T (mkF m pc ls (.int y :: .int x :: st)) := by
  subst hp; exact Go.of (fun _ k' => XS.iadd A.1.here A.2.1 rfl (hb A.2.2 hd) rfl k') k
theorem g_isub (A : Ax p l e R s m args below meth c T locs cells slots B) {x : Int32} {y : Int32} (hd : decode B pc = .ok (.isub, 1)) (hp : pc + 1 = pc') (k : Go p e below P T (mkF m pc' ls (.int (x - y) :: st))) : Go p e below P T (mkF m pc ls (.int y :: .int x :: st)) := by
  subst hp; exact Go.of (fun _ k' => XS.isub A.1.here A.2.1 rfl (hb A.2.2 hd) rfl k') k
theorem g_iand (A : Ax p l e R s m args below meth c T locs cells slots B) {x : Int32} {y : Int32} (hd : decode B pc = .ok (.iand, 1)) (hp : pc + 1 = pc') (k : Go p e below P T (mkF m pc' ls (.int (x &&& y) :: st))) : Go p e below P T (mkF m pc ls (.int y :: .int x :: st)) := by
  subst hp; exact Go.of (fun _ k' => XS.iand A.1.here A.2.1 rfl (hb A.2.2 hd) rfl k') k
theorem g_imul (A : Ax p l e R s m args below meth c T locs cells slots B) {x : Int32} {y : Int32} (hd : decode B pc = .ok (.imul, 1)) (hp : pc + 1 = pc') (k : Go p e below P T (mkF m pc' ls (.int (x * y) :: st))) : Go p e below P T (mkF m pc ls (.int y :: .int x :: st)) := by
  subst hp; exact Go.of (fun _ k' => XS.imul A.1.here A.2.1 rfl (hb A.2.2 hd) rfl k') k
theorem g_iaddL (A : Ax p l e R s m args below meth c T locs cells slots B) {x y z : Int32} (hd : decode B pc = .ok (.iadd, 1)) (hz : x + y = z) (hp : pc + 1 = pc') (k : Go p e below P T (mkF m pc' ls (.int z :: st))) : Go p e below P T (mkF m pc ls (.int y :: .int x :: st)) := g_iadd A hd hp (hz.symm ▸ k)
theorem g_isubL (A : Ax p l e R s m args below meth c T locs cells slots B) {x y z : Int32} (hd : decode B pc = .ok (.isub, 1)) (hz : x - y = z) (hp : pc + 1 = pc') (k : Go p e below P T (mkF m pc' ls (.int z :: st))) : Go p e below P T (mkF m pc ls (.int y :: .int x :: st)) := g_isub A hd hp (hz.symm ▸ k)
theorem g_imulL (A : Ax p l e R s m args below meth c T locs cells slots B) {x y z : Int32} (hd : decode B pc = .ok (.imul, 1)) (hz : x * y = z) (hp : pc + 1 = pc') (k : Go p e below P T (mkF m pc' ls (.int z :: st))) : Go p e below P T (mkF m pc ls (.int y :: .int x :: st)) := g_imul A hd hp (hz.symm ▸ k)
theorem g_iandL (A : Ax p l e R s m args below meth c T locs cells slots B) {x y z : Int32} (hd : decode B pc = .ok (.iand, 1)) (hz : x &&& y = z) (hp : pc + 1 = pc') (k : Go p e below P T (mkF m pc' ls (.int z :: st))) : Go p e below P T (mkF m pc ls (.int y :: .int x :: st)) := g_iand A hd hp (hz.symm ▸ k)
theorem g_ixor (A : Ax p l e R s m args below meth c T locs cells slots B) {x : Int32} {y : Int32} (hd : decode B pc = .ok (.ixor, 1)) (hp : pc + 1 = pc') (k : Go p e below P T (mkF m pc' ls (.int (x ^^^ y) :: st))) : Go p e below P T (mkF m pc ls (.int y :: .int x :: st)) := by
  subst hp; exact Go.of (fun _ k' => XT.ixor A.1.here A.2.1 rfl (hb A.2.2 hd) rfl k') k
theorem g_ior (A : Ax p l e R s m args below meth c T locs cells slots B) {x : Int32} {y : Int32} (hd : decode B pc = .ok (.ior, 1)) (hp : pc + 1 = pc') (k : Go p e below P T (mkF m pc' ls (.int (x ||| y) :: st))) : Go p e below P T (mkF m pc ls (.int y :: .int x :: st)) := by
  subst hp; exact Go.of (fun _ k' => XT.ior A.1.here A.2.1 rfl (hb A.2.2 hd) rfl k') k
theorem g_ishl (A : Ax p l e R s m args below meth c T locs cells slots B) {x : Int32} {y : Int32} (hd : decode B pc = .ok (.ishl, 1)) (hp : pc + 1 = pc') (k : Go p e below P T (mkF m pc' ls (.int (x <<< (y &&& 31)) :: st))) : Go p e below P T (mkF m pc ls (.int y :: .int x :: st)) := by
  subst hp; exact Go.of (fun _ k' => XT.ishl A.1.here A.2.1 rfl (hb A.2.2 hd) rfl k') k
theorem g_ishr (A : Ax p l e R s m args below meth c T locs cells slots B) {x : Int32} {y : Int32} (hd : decode B pc = .ok (.ishr, 1)) (hp : pc + 1 = pc') (k : Go p e below P T (mkF m pc' ls (.int (x >>> (y &&& 31)) :: st))) : Go p e below P T (mkF m pc ls (.int y :: .int x :: st)) := by
  subst hp; exact Go.of (fun _ k' => XT.ishr A.1.here A.2.1 rfl (hb A.2.2 hd) rfl k') k
theorem g_iushr (A : Ax p l e R s m args below meth c T locs cells slots B) {x : Int32} {y : Int32} (hd : decode B pc = .ok (.iushr, 1)) (hp : pc + 1 = pc') (k : Go p e below P T (mkF m pc' ls (.int (XT.ushr x y) :: st))) : Go p e below P T (mkF m pc ls (.int y :: .int x :: st)) := by
  subst hp; exact Go.of (fun _ k' => XT.iushr A.1.here A.2.1 rfl (hb A.2.2 hd) rfl k') k
theorem g_idiv (A : Ax p l e R s m args below meth c T locs cells slots B) {x : Int32} {y : Int32} (hd : decode B pc = .ok (.idiv, 1)) (hy : y ≠ 0) (hp : pc + 1 = pc') (k : Go p e below P T (mkF m pc' ls (.int (x / y) :: st))) : Go p e below P T (mkF m pc ls (.int y :: .int x :: st)) := by
  subst hp; exact Go.of (fun _ k' => XS.idiv A.1.here A.2.1 rfl (hb A.2.2 hd) rfl hy k') k
theorem g_ladd (A : Ax p l e R s m args below meth c T locs cells slots B) {x : Int64} {y : Int64} (hd : decode B pc = .ok (.ladd, 1)) (hp : pc + 1 = pc') (k : Go p e below P T (mkF m pc' ls (.long (x + y) :: st))) : Go p e below P T (mkF m pc ls (.long y :: .long x :: st)) := by
  subst hp; exact Go.of (fun _ k' => XT.ladd A.1.here A.2.1 rfl (hb A.2.2 hd) rfl k') k
theorem g_lsub (A : Ax p l e R s m args below meth c T locs cells slots B) {x : Int64} {y : Int64} (hd : decode B pc = .ok (.lsub, 1)) (hp : pc + 1 = pc') (k : Go p e below P T (mkF m pc' ls (.long (x - y) :: st))) : Go p e below P T (mkF m pc ls (.long y :: .long x :: st)) := by
  subst hp; exact Go.of (fun _ k' => XT.lsub A.1.here A.2.1 rfl (hb A.2.2 hd) rfl k') k
theorem g_lmul (A : Ax p l e R s m args below meth c T locs cells slots B) {x : Int64} {y : Int64} (hd : decode B pc = .ok (.lmul, 1)) (hp : pc + 1 = pc') (k : Go p e below P T (mkF m pc' ls (.long (x * y) :: st))) : Go p e below P T (mkF m pc ls (.long y :: .long x :: st)) := by
  subst hp; exact Go.of (fun _ k' => XT.lmul A.1.here A.2.1 rfl (hb A.2.2 hd) rfl k') k
theorem g_land (A : Ax p l e R s m args below meth c T locs cells slots B) {x : Int64} {y : Int64} (hd : decode B pc = .ok (.land, 1)) (hp : pc + 1 = pc') (k : Go p e below P T (mkF m pc' ls (.long (x &&& y) :: st))) : Go p e below P T (mkF m pc ls (.long y :: .long x :: st)) := by
  subst hp; exact Go.of (fun _ k' => XT.land A.1.here A.2.1 rfl (hb A.2.2 hd) rfl k') k
theorem g_lor (A : Ax p l e R s m args below meth c T locs cells slots B) {x : Int64} {y : Int64} (hd : decode B pc = .ok (.lor, 1)) (hp : pc + 1 = pc') (k : Go p e below P T (mkF m pc' ls (.long (x ||| y) :: st))) : Go p e below P T (mkF m pc ls (.long y :: .long x :: st)) := by
  subst hp; exact Go.of (fun _ k' => XT.lor A.1.here A.2.1 rfl (hb A.2.2 hd) rfl k') k
theorem g_lxor (A : Ax p l e R s m args below meth c T locs cells slots B) {x : Int64} {y : Int64} (hd : decode B pc = .ok (.lxor, 1)) (hp : pc + 1 = pc') (k : Go p e below P T (mkF m pc' ls (.long (x ^^^ y) :: st))) : Go p e below P T (mkF m pc ls (.long y :: .long x :: st)) := by
  subst hp; exact Go.of (fun _ k' => XT.lxor A.1.here A.2.1 rfl (hb A.2.2 hd) rfl k') k
theorem g_lshl (A : Ax p l e R s m args below meth c T locs cells slots B) {x : Int64} {y : Int32} (hd : decode B pc = .ok (.lshl, 1)) (hp : pc + 1 = pc') (k : Go p e below P T (mkF m pc' ls (.long (x <<< (y.toInt64 &&& 63)) :: st))) : Go p e below P T (mkF m pc ls (.int y :: .long x :: st)) := by
  subst hp; exact Go.of (fun _ k' => XT.lshl A.1.here A.2.1 rfl (hb A.2.2 hd) rfl k') k
theorem g_lshr (A : Ax p l e R s m args below meth c T locs cells slots B) {x : Int64} {y : Int32} (hd : decode B pc = .ok (.lshr, 1)) (hp : pc + 1 = pc') (k : Go p e below P T (mkF m pc' ls (.long (x >>> (y.toInt64 &&& 63)) :: st))) : Go p e below P T (mkF m pc ls (.int y :: .long x :: st)) := by
  subst hp; exact Go.of (fun _ k' => XT.lshr A.1.here A.2.1 rfl (hb A.2.2 hd) rfl k') k
theorem g_lushr (A : Ax p l e R s m args below meth c T locs cells slots B) {x : Int64} {y : Int32} (hd : decode B pc = .ok (.lushr, 1)) (hp : pc + 1 = pc') (k : Go p e below P T (mkF m pc' ls (.long (XT.ushrL x y) :: st))) : Go p e below P T (mkF m pc ls (.int y :: .long x :: st)) := by
  subst hp; exact Go.of (fun _ k' => XT.lushr A.1.here A.2.1 rfl (hb A.2.2 hd) rfl k') k
theorem g_ldiv (A : Ax p l e R s m args below meth c T locs cells slots B) {x : Int64} {y : Int64} (hd : decode B pc = .ok (.ldiv, 1)) (hy : y ≠ 0) (hp : pc + 1 = pc') (k : Go p e below P T (mkF m pc' ls (.long (x / y) :: st))) : Go p e below P T (mkF m pc ls (.long y :: .long x :: st)) := by
  subst hp; exact Go.of (fun _ k' => XT.ldiv A.1.here A.2.1 rfl (hb A.2.2 hd) rfl hy k') k
theorem g_lrem (A : Ax p l e R s m args below meth c T locs cells slots B) {x y : Int64} (hd : decode B pc = .ok (.lrem, 1)) (hy : y ≠ 0) (hp : pc + 1 = pc') (k : Go p e below P T (mkF m pc' ls (.long (x % y) :: st))) : Go p e below P T (mkF m pc ls (.long y :: .long x :: st)) := by
  subst hp; rw [← lrem_mod] at k; exact Go.of (fun _ k' => XT.lrem A.1.here A.2.1 rfl (hb A.2.2 hd) rfl hy k') k
theorem g_i2s (A : Ax p l e R s m args below meth c T locs cells slots B) {x : Int32} (hd : decode B pc = .ok (.i2s, 1)) (hp : pc + 1 = pc') (k : Go p e below P T (mkF m pc' ls (.int (x.toInt16.toInt32) :: st))) : Go p e below P T (mkF m pc ls (.int x :: st)) := by
  subst hp; exact Go.of (fun _ k' => XT.i2s A.1.here A.2.1 rfl (hb A.2.2 hd) rfl k') k
theorem g_i2b (A : Ax p l e R s m args below meth c T locs cells slots B) {x : Int32} (hd : decode B pc = .ok (.i2b, 1)) (hp : pc + 1 = pc') (k : Go p e below P T (mkF m pc' ls (.int (x.toInt8.toInt32) :: st))) : Go p e below P T (mkF m pc ls (.int x :: st)) := by
  subst hp; exact Go.of (fun _ k' => XT.i2b A.1.here A.2.1 rfl (hb A.2.2 hd) rfl k') k
theorem g_i2c (A : Ax p l e R s m args below meth c T locs cells slots B) {x : Int32} (hd : decode B pc = .ok (.i2c, 1)) (hp : pc + 1 = pc') (k : Go p e below P T (mkF m pc' ls (.int (x.toUInt32.toUInt16.toUInt32.toInt32) :: st))) : Go p e below P T (mkF m pc ls (.int x :: st)) := by
  subst hp; exact Go.of (fun _ k' => XT.i2c A.1.here A.2.1 rfl (hb A.2.2 hd) rfl k') k
theorem g_ineg (A : Ax p l e R s m args below meth c T locs cells slots B) {x : Int32} (hd : decode B pc = .ok (.ineg, 1)) (hp : pc + 1 = pc') (k : Go p e below P T (mkF m pc' ls (.int (-x) :: st))) : Go p e below P T (mkF m pc ls (.int x :: st)) := by
  subst hp; exact Go.of (fun _ k' => XS.ineg A.1.here A.2.1 rfl (hb A.2.2 hd) rfl k') k
theorem g_lneg (A : Ax p l e R s m args below meth c T locs cells slots B) {x : Int64} (hd : decode B pc = .ok (.lneg, 1)) (hp : pc + 1 = pc') (k : Go p e below P T (mkF m pc' ls (.long (-x) :: st))) : Go p e below P T (mkF m pc ls (.long x :: st)) := by
  subst hp; exact Go.of (fun _ k' => XT.lneg A.1.here A.2.1 rfl (hb A.2.2 hd) rfl k') k
theorem g_i2l (A : Ax p l e R s m args below meth c T locs cells slots B) {x : Int32} (hd : decode B pc = .ok (.i2l, 1)) (hp : pc + 1 = pc') (k : Go p e below P T (mkF m pc' ls (.long (x.toInt64) :: st))) : Go p e below P T (mkF m pc ls (.int x :: st)) := by
  subst hp; exact Go.of (fun _ k' => XT.i2l A.1.here A.2.1 rfl (hb A.2.2 hd) rfl k') k
theorem g_l2i (A : Ax p l e R s m args below meth c T locs cells slots B) {x : Int64} (hd : decode B pc = .ok (.l2i, 1)) (hp : pc + 1 = pc') (k : Go p e below P T (mkF m pc' ls (.int (x.toInt32) :: st))) : Go p e below P T (mkF m pc ls (.long x :: st)) := by
  subst hp; exact Go.of (fun _ k' => XT.l2i A.1.here A.2.1 rfl (hb A.2.2 hd) rfl k') k
theorem g_irem (A : Ax p l e R s m args below meth c T locs cells slots B) {x y : Int32} (hd : decode B pc = .ok (.irem, 1)) (hy : y ≠ 0) (hp : pc + 1 = pc') (k : Go p e below P T (mkF m pc' ls (.int (x % y) :: st))) : Go p e below P T (mkF m pc ls (.int y :: .int x :: st)) := by
  subst hp; exact Go.of (fun _ k' => iremM A.1 A.2.1 rfl (hb A.2.2 hd) rfl hy k') k
theorem g_iloadN (A : Ax p l e R s m args below meth c T locs cells slots B) {k : Fin 4} {v : Int32} (hd : decode B pc = .ok (.iload_n k, 1)) (hl : ls[k.val]? = some (.val (.int v))) (hp : pc + 1 = pc') (k : Go p e below P T (mkF m pc' ls (.int v :: st))) : Go p e below P T (mkF m pc ls st) := by
  subst hp; exact Go.of (fun _ k' => XS.iloadN A.1.here A.2.1 rfl (hb A.2.2 hd) hl k') k
theorem g_iload (A : Ax p l e R s m args below meth c T locs cells slots B) {k : Nat} {v : Int32} (hd : decode B pc = .ok (.iload k, 2)) (hl : ls[k]? = some (.val (.int v))) (hp : pc + 2 = pc') (k : Go p e below P T (mkF m pc' ls (.int v :: st))) : Go p e below P T (mkF m pc ls st) := by
  subst hp; exact Go.of (fun _ k' => XS.iload A.1.here A.2.1 rfl (hb A.2.2 hd) hl k') k
theorem g_lloadN (A : Ax p l e R s m args below meth c T locs cells slots B) {k : Fin 4} {v : Int64} (hd : decode B pc = .ok (.lload_n k, 1)) (hl : ls[k.val]? = some (.val (.long v))) (hp : pc + 1 = pc') (k : Go p e below P T (mkF m pc' ls (.long v :: st))) : Go p e below P T (mkF m pc ls st) := by
  subst hp; exact Go.of (fun _ k' => XT.lloadN A.1.here A.2.1 rfl (hb A.2.2 hd) hl k') k
theorem g_lload (A : Ax p l e R s m args below meth c T locs cells slots B) {k : Nat} {v : Int64} (hd : decode B pc = .ok (.lload k, 2)) (hl : ls[k]? = some (.val (.long v))) (hp : pc + 2 = pc') (k : Go p e below P T (mkF m pc' ls (.long v :: st))) : Go p e below P T (mkF m pc ls st) := by
  subst hp; exact Go.of (fun _ k' => XT.lload A.1.here A.2.1 rfl (hb A.2.2 hd) hl k') k
theorem g_aloadN (A : Ax p l e R s m args below meth c T locs cells slots B) {k : Fin 4} {v : Value} (hd : decode B pc = .ok (.aload_n k, 1)) (hl : ls[k.val]? = some (.val v)) (hv : v.isRef = true) (hp : pc + 1 = pc') (k : Go p e below P T (mkF m pc' ls (v :: st))) : Go p e below P T (mkF m pc ls st) := by
  subst hp; exact Go.of (fun _ k' => XS.aloadN A.1.here A.2.1 rfl (hb A.2.2 hd) hl hv k') k
theorem g_aload (A : Ax p l e R s m args below meth c T locs cells slots B) {k : Nat} {v : Value} (hd : decode B pc = .ok (.aload k, 2)) (hl : ls[k]? = some (.val v)) (hv : v.isRef = true) (hp : pc + 2 = pc') (k : Go p e below P T (mkF m pc' ls (v :: st))) : Go p e below P T (mkF m pc ls st) := by
  subst hp; exact Go.of (fun _ k' => XS.aload A.1.here A.2.1 rfl (hb A.2.2 hd) hl hv k') k
theorem g_dloadN (A : Ax p l e R s m args below meth c T locs cells slots B) {k : Fin 4} {v : UInt64} (hd : decode B pc = .ok (.dload_n k, 1)) (hl : ls[k.val]? = some (.val (.double v))) (hp : pc + 1 = pc') (k : Go p e below P T (mkF m pc' ls (.double v :: st))) : Go p e below P T (mkF m pc ls st) := by
  subst hp
  refine Go.of (fun t k' => ?_) k
  have h := A.1.here
  have hx := A.2.1
  have hd' := hb A.2.2 hd
  show Steps p.tables e below (T.setTop { method := m, pc := pc, locals := ls, stack := st, locked := none }) _
  jvm_step h [h.top, hx, hd', hl]
  exact k'
theorem g_dload (A : Ax p l e R s m args below meth c T locs cells slots B) {k : Nat} {v : UInt64} (hd : decode B pc = .ok (.dload k, 2)) (hl : ls[k]? = some (.val (.double v))) (hp : pc + 2 = pc') (k : Go p e below P T (mkF m pc' ls (.double v :: st))) : Go p e below P T (mkF m pc ls st) := by
  subst hp
  refine Go.of (fun t k' => ?_) k
  have h := A.1.here
  have hx := A.2.1
  have hd' := hb A.2.2 hd
  show Steps p.tables e below (T.setTop { method := m, pc := pc, locals := ls, stack := st, locked := none }) _
  jvm_step h [h.top, hx, hd', hl]
  exact k'
theorem g_istoreN (A : Ax p l e R s m args below meth c T locs cells slots B) {k : Fin 4} {x : Int32} (hd : decode B pc = .ok (.istore_n k, 1)) (hl : storeLocals ls k.val (.int x) = some ls') (hp : pc + 1 = pc') (k : Go p e below P T (mkF m pc' ls' st)) : Go p e below P T (mkF m pc ls (.int x :: st)) := by
  subst hp; exact Go.of (fun _ k' => XS.istoreN A.1.here A.2.1 rfl (hb A.2.2 hd) rfl hl k') k
theorem g_istore (A : Ax p l e R s m args below meth c T locs cells slots B) {k : Nat} {x : Int32} (hd : decode B pc = .ok (.istore k, 2)) (hl : storeLocals ls k (.int x) = some ls') (hp : pc + 2 = pc') (k : Go p e below P T (mkF m pc' ls' st)) : Go p e below P T (mkF m pc ls (.int x :: st)) := by
  subst hp; exact Go.of (fun _ k' => XS.istore A.1.here A.2.1 rfl (hb A.2.2 hd) rfl hl k') k
theorem g_lstoreN (A : Ax p l e R s m args below meth c T locs cells slots B) {k : Fin 4} {x : Int64} (hd : decode B pc = .ok (.lstore_n k, 1)) (hl : storeLocals ls k.val (.long x) = some ls') (hp : pc + 1 = pc') (k : Go p e below P T (mkF m pc' ls' st)) : Go p e below P T (mkF m pc ls (.long x :: st)) := by
  subst hp; exact Go.of (fun _ k' => XT.lstoreN A.1.here A.2.1 rfl (hb A.2.2 hd) rfl hl k') k
theorem g_lstore (A : Ax p l e R s m args below meth c T locs cells slots B) {k : Nat} {x : Int64} (hd : decode B pc = .ok (.lstore k, 2)) (hl : storeLocals ls k (.long x) = some ls') (hp : pc + 2 = pc') (k : Go p e below P T (mkF m pc' ls' st)) : Go p e below P T (mkF m pc ls (.long x :: st)) := by
  subst hp; exact Go.of (fun _ k' => XT.lstore A.1.here A.2.1 rfl (hb A.2.2 hd) rfl hl k') k
theorem g_astoreN (A : Ax p l e R s m args below meth c T locs cells slots B) {k : Fin 4} {x : Value} (hd : decode B pc = .ok (.astore_n k, 1)) (hv : x.isRef = true) (hl : storeLocals ls k.val x = some ls') (hp : pc + 1 = pc') (k : Go p e below P T (mkF m pc' ls' st)) : Go p e below P T (mkF m pc ls (x :: st)) := by
  subst hp; exact Go.of (fun _ k' => XS.astoreN A.1.here A.2.1 rfl (hb A.2.2 hd) rfl hv hl k') k
theorem g_astore (A : Ax p l e R s m args below meth c T locs cells slots B) {k : Nat} {x : Value} (hd : decode B pc = .ok (.astore k, 2)) (hv : x.isRef = true) (hl : storeLocals ls k x = some ls') (hp : pc + 2 = pc') (k : Go p e below P T (mkF m pc' ls' st)) : Go p e below P T (mkF m pc ls (x :: st)) := by
  subst hp; exact Go.of (fun _ k' => XS.astore A.1.here A.2.1 rfl (hb A.2.2 hd) rfl hv hl k') k
theorem g_dstoreN (A : Ax p l e R s m args below meth c T locs cells slots B) {k : Fin 4} {x : UInt64} (hd : decode B pc = .ok (.dstore_n k, 1)) (hl : storeLocals ls k.val (.double x) = some ls') (hp : pc + 1 = pc') (k : Go p e below P T (mkF m pc' ls' st)) : Go p e below P T (mkF m pc ls (.double x :: st)) := by
  subst hp
  refine Go.of (fun t k' => ?_) k
  have h := A.1.here
  have hx := A.2.1
  have hd' := hb A.2.2 hd
  show Steps p.tables e below (T.setTop { method := m, pc := pc, locals := ls, stack := .double x :: st, locked := none }) _
  jvm_step h [h.top, hx, hd']
  exact ⟨ls', hl, k'⟩
theorem g_dstore (A : Ax p l e R s m args below meth c T locs cells slots B) {k : Nat} {x : UInt64} (hd : decode B pc = .ok (.dstore k, 2)) (hl : storeLocals ls k (.double x) = some ls') (hp : pc + 2 = pc') (k : Go p e below P T (mkF m pc' ls' st)) : Go p e below P T (mkF m pc ls (.double x :: st)) := by
  subst hp
  refine Go.of (fun t k' => ?_) k
  have h := A.1.here
  have hx := A.2.1
  have hd' := hb A.2.2 hd
  show Steps p.tables e below (T.setTop { method := m, pc := pc, locals := ls, stack := .double x :: st, locked := none }) _
  jvm_step h [h.top, hx, hd']
  exact ⟨ls', hl, k'⟩
theorem g_iconst (A : Ax p l e R s m args below meth c T locs cells slots B) {i : Int} {v : Int32} (hd : decode B pc = .ok (.iconst i, 1)) (hv : Int32.ofInt i = v) (hp : pc + 1 = pc') (k : Go p e below P T (mkF m pc' ls (.int v :: st))) : Go p e below P T (mkF m pc ls st) := by
  subst hp hv; exact Go.of (fun _ k' => XS.iconst A.1.here A.2.1 rfl (hb A.2.2 hd) k') k
theorem g_bipush (A : Ax p l e R s m args below meth c T locs cells slots B) {i : Int} {v : Int32} (hd : decode B pc = .ok (.bipush i, 2)) (hv : (Int8.ofInt i).toInt32 = v) (hp : pc + 2 = pc') (k : Go p e below P T (mkF m pc' ls (.int v :: st))) : Go p e below P T (mkF m pc ls st) := by
  subst hp hv; exact Go.of (fun _ k' => XS.bipush A.1.here A.2.1 rfl (hb A.2.2 hd) k') k
theorem g_sipush (A : Ax p l e R s m args below meth c T locs cells slots B) {i : Int} {v : Int32} (hd : decode B pc = .ok (.sipush i, 3)) (hv : (Int16.ofInt i).toInt32 = v) (hp : pc + 3 = pc') (k : Go p e below P T (mkF m pc' ls (.int v :: st))) : Go p e below P T (mkF m pc ls st) := by
  subst hp hv; exact Go.of (fun _ k' => XS.sipush A.1.here A.2.1 rfl (hb A.2.2 hd) k') k
theorem g_aconst (A : Ax p l e R s m args below meth c T locs cells slots B) (hd : decode B pc = .ok (.aconst_null, 1)) (hp : pc + 1 = pc') (k : Go p e below P T (mkF m pc' ls (.null :: st))) : Go p e below P T (mkF m pc ls st) := by
  subst hp; exact Go.of (fun _ k' => XS.aconstNull A.1.here A.2.1 rfl (hb A.2.2 hd) k') k
theorem g_lconst (A : Ax p l e R s m args below meth c T locs cells slots B) {i : Fin 2} {v : Int64} (hd : decode B pc = .ok (.lconst i, 1)) (hv : Int64.ofNat i = v) (hp : pc + 1 = pc') (k : Go p e below P T (mkF m pc' ls (.long v :: st))) : Go p e below P T (mkF m pc ls st) := by
  subst hp hv; exact Go.of (fun _ k' => XT.lconst A.1.here A.2.1 rfl (hb A.2.2 hd) k') k
theorem g_dconst0 (A : Ax p l e R s m args below meth c T locs cells slots B) (hd : decode B pc = .ok (.dconst 0, 1)) (hp : pc + 1 = pc') (k : Go p e below P T (mkF m pc' ls (.double (0 : UInt64) :: st))) : Go p e below P T (mkF m pc ls st) := by
  subst hp
  refine Go.of (fun t k' => ?_) k
  have h := A.1.here
  have hx := A.2.1
  have hd' := hb A.2.2 hd
  show Steps p.tables e below (T.setTop { method := m, pc := pc, locals := ls, stack := st, locked := none }) _
  jvm_step h [h.top, hx, hd']
  exact k'
theorem g_dconst1 (A : Ax p l e R s m args below meth c T locs cells slots B) (hd : decode B pc = .ok (.dconst 1, 1)) (hp : pc + 1 = pc') (k : Go p e below P T (mkF m pc' ls (.double (4607182418800017408 : UInt64) :: st))) : Go p e below P T (mkF m pc ls st) := by
  subst hp
  refine Go.of (fun t k' => ?_) k
  have h := A.1.here
  have hx := A.2.1
  have hd' := hb A.2.2 hd
  show Steps p.tables e below (T.setTop { method := m, pc := pc, locals := ls, stack := st, locked := none }) _
  jvm_step h [h.top, hx, hd']
  exact k'
theorem g_dadd (A : Ax p l e R s m args below meth c T locs cells slots B) {x y : UInt64} (hd : decode B pc = .ok (.dadd, 1)) (hn : NoNaN64 (FP.dadd x y)) (hp : pc + 1 = pc') (k : Go p e below P T (mkF m pc' ls (.double (FP.dadd x y) :: st))) : Go p e below P T (mkF m pc ls (.double y :: .double x :: st)) := by
  subst hp
  refine Go.of (fun t k' => ?_) k
  have h := A.1.here
  have hx := A.2.1
  have hd' := hb A.2.2 hd
  show Steps p.tables e below (T.setTop { method := m, pc := pc, locals := ls, stack := .double y :: .double x :: st, locked := none }) _
  jvm_step h [h.top, hx, hd', Op.dadd.at_number h.top hn]
  exact k'
theorem g_dsub (A : Ax p l e R s m args below meth c T locs cells slots B) {x y : UInt64} (hd : decode B pc = .ok (.dsub, 1)) (hn : NoNaN64 (FP.dsub x y)) (hp : pc + 1 = pc') (k : Go p e below P T (mkF m pc' ls (.double (FP.dsub x y) :: st))) : Go p e below P T (mkF m pc ls (.double y :: .double x :: st)) := by
  subst hp
  refine Go.of (fun t k' => ?_) k
  have h := A.1.here
  have hx := A.2.1
  have hd' := hb A.2.2 hd
  show Steps p.tables e below (T.setTop { method := m, pc := pc, locals := ls, stack := .double y :: .double x :: st, locked := none }) _
  jvm_step h [h.top, hx, hd', Op.dsub.at_number h.top hn]
  exact k'
theorem g_dmul (A : Ax p l e R s m args below meth c T locs cells slots B) {x y : UInt64} (hd : decode B pc = .ok (.dmul, 1)) (hn : NoNaN64 (FP.dmul x y)) (hp : pc + 1 = pc') (k : Go p e below P T (mkF m pc' ls (.double (FP.dmul x y) :: st))) : Go p e below P T (mkF m pc ls (.double y :: .double x :: st)) := by
  subst hp
  refine Go.of (fun t k' => ?_) k
  have h := A.1.here
  have hx := A.2.1
  have hd' := hb A.2.2 hd
  show Steps p.tables e below (T.setTop { method := m, pc := pc, locals := ls, stack := .double y :: .double x :: st, locked := none }) _
  jvm_step h [h.top, hx, hd', Op.dmul.at_number h.top hn]
  exact k'
theorem g_ddiv (A : Ax p l e R s m args below meth c T locs cells slots B) {x y : UInt64} (hd : decode B pc = .ok (.ddiv, 1)) (hn : NoNaN64 (FP.ddiv x y)) (hp : pc + 1 = pc') (k : Go p e below P T (mkF m pc' ls (.double (FP.ddiv x y) :: st))) : Go p e below P T (mkF m pc ls (.double y :: .double x :: st)) := by
  subst hp
  refine Go.of (fun t k' => ?_) k
  have h := A.1.here
  have hx := A.2.1
  have hd' := hb A.2.2 hd
  show Steps p.tables e below (T.setTop { method := m, pc := pc, locals := ls, stack := .double y :: .double x :: st, locked := none }) _
  jvm_step h [h.top, hx, hd', Op.ddiv.at_number h.top hn]
  exact k'
theorem g_daddL (A : Ax p l e R s m args below meth c T locs cells slots B) {x y z : UInt64} (hd : decode B pc = .ok (.dadd, 1)) (hz : FP.dadd x y = z) (hn : NoNaN64 z) (hp : pc + 1 = pc') (k : Go p e below P T (mkF m pc' ls (.double z :: st))) : Go p e below P T (mkF m pc ls (.double y :: .double x :: st)) := g_dadd A hd (hz.symm ▸ hn) hp (hz.symm ▸ k)
theorem g_dsubL (A : Ax p l e R s m args below meth c T locs cells slots B) {x y z : UInt64} (hd : decode B pc = .ok (.dsub, 1)) (hz : FP.dsub x y = z) (hn : NoNaN64 z) (hp : pc + 1 = pc') (k : Go p e below P T (mkF m pc' ls (.double z :: st))) : Go p e below P T (mkF m pc ls (.double y :: .double x :: st)) := g_dsub A hd (hz.symm ▸ hn) hp (hz.symm ▸ k)
theorem g_dmulL (A : Ax p l e R s m args below meth c T locs cells slots B) {x y z : UInt64} (hd : decode B pc = .ok (.dmul, 1)) (hz : FP.dmul x y = z) (hn : NoNaN64 z) (hp : pc + 1 = pc') (k : Go p e below P T (mkF m pc' ls (.double z :: st))) : Go p e below P T (mkF m pc ls (.double y :: .double x :: st)) := g_dmul A hd (hz.symm ▸ hn) hp (hz.symm ▸ k)
theorem g_ddivL (A : Ax p l e R s m args below meth c T locs cells slots B) {x y z : UInt64} (hd : decode B pc = .ok (.ddiv, 1)) (hz : FP.ddiv x y = z) (hn : NoNaN64 z) (hp : pc + 1 = pc') (k : Go p e below P T (mkF m pc' ls (.double z :: st))) : Go p e below P T (mkF m pc ls (.double y :: .double x :: st)) := g_ddiv A hd (hz.symm ▸ hn) hp (hz.symm ▸ k)
theorem g_dneg (A : Ax p l e R s m args below meth c T locs cells slots B) {x : UInt64} (hd : decode B pc = .ok (.dneg, 1)) (hp : pc + 1 = pc') (k : Go p e below P T (mkF m pc' ls (.double (FP.dneg x) :: st))) : Go p e below P T (mkF m pc ls (.double x :: st)) := by
  subst hp
  refine Go.of (fun t k' => ?_) k
  have h := A.1.here
  have hx := A.2.1
  have hd' := hb A.2.2 hd
  show Steps p.tables e below (T.setTop { method := m, pc := pc, locals := ls, stack := .double x :: st, locked := none }) _
  jvm_step h [h.top, hx, hd']
  exact k'
theorem g_i2d (A : Ax p l e R s m args below meth c T locs cells slots B) {x : Int32} (hd : decode B pc = .ok (.i2d, 1)) (hp : pc + 1 = pc') (k : Go p e below P T (mkF m pc' ls (.double (FP.i2d x) :: st))) : Go p e below P T (mkF m pc ls (.int x :: st)) := by
  subst hp
  refine Go.of (fun t k' => ?_) k
  have h := A.1.here
  have hx := A.2.1
  have hd' := hb A.2.2 hd
  show Steps p.tables e below (T.setTop { method := m, pc := pc, locals := ls, stack := .int x :: st, locked := none }) _
  jvm_step h [h.top, hx, hd']
  exact k'
theorem g_l2d (A : Ax p l e R s m args below meth c T locs cells slots B) {x : Int64} (hd : decode B pc = .ok (.l2d, 1)) (hp : pc + 1 = pc') (k : Go p e below P T (mkF m pc' ls (.double (FP.l2d x) :: st))) : Go p e below P T (mkF m pc ls (.long x :: st)) := by
  subst hp
  refine Go.of (fun t k' => ?_) k
  have h := A.1.here
  have hx := A.2.1
  have hd' := hb A.2.2 hd
  show Steps p.tables e below (T.setTop { method := m, pc := pc, locals := ls, stack := .long x :: st, locked := none }) _
  jvm_step h [h.top, hx, hd']
  exact k'
theorem g_dcmp (A : Ax p l e R s m args below meth c T locs cells slots B) {x y : UInt64} {op : CmpOp} (hd : decode B pc = .ok (.dcmp op, 1)) (hp : pc + 1 = pc') (k : Go p e below P T (mkF m pc' ls (.int (cmpValue (FP.dcmp x y) op) :: st))) : Go p e below P T (mkF m pc ls (.double y :: .double x :: st)) := by
  subst hp
  refine Go.of (fun t k' => ?_) k
  have h := A.1.here
  have hx := A.2.1
  have hd' := hb A.2.2 hd
  show Steps p.tables e below (T.setTop { method := m, pc := pc, locals := ls, stack := .double y :: .double x :: st, locked := none }) _
  jvm_step h [h.top, hx, hd']
  exact k'
theorem g_lcmp (A : Ax p l e R s m args below meth c T locs cells slots B) {x y : Int64} (hd : decode B pc = .ok (.lcmp, 1)) (hp : pc + 1 = pc') (k : Go p e below P T (mkF m pc' ls (.int (XT.cmpL x y) :: st))) : Go p e below P T (mkF m pc ls (.long y :: .long x :: st)) := by
  subst hp; exact Go.of (fun _ k' => XT.lcmp A.1.here A.2.1 rfl (hb A.2.2 hd) rfl k') k
theorem g_dup (A : Ax p l e R s m args below meth c T locs cells slots B) {x : Value} (hd : decode B pc = .ok (.dup, 1)) (hc : x.category = 1) (hp : pc + 1 = pc') (k : Go p e below P T (mkF m pc' ls (x :: x :: st))) : Go p e below P T (mkF m pc ls (x :: st)) := by
  subst hp; exact Go.of (fun _ k' => XS.dup A.1.here A.2.1 rfl (hb A.2.2 hd) rfl hc k') k
theorem g_pop (A : Ax p l e R s m args below meth c T locs cells slots B) {x : Value} (hd : decode B pc = .ok (.pop, 1)) (hc : x.category = 1) (hp : pc + 1 = pc') (k : Go p e below P T (mkF m pc' ls st)) : Go p e below P T (mkF m pc ls (x :: st)) := by
  subst hp; exact Go.of (fun _ k' => XT.pop A.1.here A.2.1 rfl (hb A.2.2 hd) rfl hc k') k
theorem g_iinc (A : Ax p l e R s m args below meth c T locs cells slots B) {k : Nat} {i : Int} {x y : Int32} (hd : decode B pc = .ok (.iinc k i, 3)) (hl : ls[k]? = some (.val (.int x))) (hy : x + Int32.ofInt i = y) (hl' : storeLocals ls k (.int y) = some ls') (hp : pc + 3 = pc') (k : Go p e below P T (mkF m pc' ls' st)) : Go p e below P T (mkF m pc ls st) := by
  subst hp hy; exact Go.of (fun _ k' => XS.iinc A.1.here A.2.1 rfl (hb A.2.2 hd) hl hl' k') k
theorem own_off {pc pc' : Nat} {o : Int} (h : (pc : Int) + o = (pc' : Int)) : 0 ≤ (pc : Int) + o ∧ ((pc : Int) + o).toNat = pc' := by omega
theorem g_goto (A : Ax p l e R s m args below meth c T locs cells slots B) {o : Int} (hd : decode B pc = .ok (.goto o, 3)) (hp : (pc : Int) + o = (pc' : Int)) (k : Go p e below P T (mkF m pc' ls st)) : Go p e below P T (mkF m pc ls st) := Go.of (fun _ k' => XS.goto A.1.here A.2.1 rfl rfl (hb A.2.2 hd) (own_off hp).1 (own_off hp).2 k') k
theorem g_ifY (A : Ax p l e R s m args below meth c T locs cells slots B) {o : Int} {cd : ClassFile.Cond} {x : Int32} (hd : decode B pc = .ok (.ifCond cd o, 3)) (hc : ifCond.holds cd x = true) (hp : (pc : Int) + o = (pc' : Int)) (k : Go p e below P T (mkF m pc' ls st)) : Go p e below P T (mkF m pc ls (.int x :: st)) := Go.of (fun _ k' => XS.ifYes A.1.here A.2.1 rfl rfl (hb A.2.2 hd) rfl hc (own_off hp).1 (own_off hp).2 k') k
theorem g_ifN (A : Ax p l e R s m args below meth c T locs cells slots B) {o : Int} {cd : ClassFile.Cond} {x : Int32} (hd : decode B pc = .ok (.ifCond cd o, 3)) (hc : ifCond.holds cd x = false) (hp : pc + 3 = pc') (k : Go p e below P T (mkF m pc' ls st)) : Go p e below P T (mkF m pc ls (.int x :: st)) := by
  subst hp; exact Go.of (fun _ k' => XS.ifNo A.1.here A.2.1 rfl (hb A.2.2 hd) rfl hc k') k
theorem g_icY (A : Ax p l e R s m args below meth c T locs cells slots B) {o : Int} {cd : ClassFile.Cond} {x y : Int32} (hd : decode B pc = .ok (.if_icmp cd o, 3)) (hc : if_icmp.holds cd x y = true) (hp : (pc : Int) + o = (pc' : Int)) (k : Go p e below P T (mkF m pc' ls st)) : Go p e below P T (mkF m pc ls (.int y :: .int x :: st)) := Go.of (fun _ k' => XS.icmpYes A.1.here A.2.1 rfl rfl (hb A.2.2 hd) rfl hc (own_off hp).1 (own_off hp).2 k') k
theorem g_icN (A : Ax p l e R s m args below meth c T locs cells slots B) {o : Int} {cd : ClassFile.Cond} {x y : Int32} (hd : decode B pc = .ok (.if_icmp cd o, 3)) (hc : if_icmp.holds cd x y = false) (hp : pc + 3 = pc') (k : Go p e below P T (mkF m pc' ls st)) : Go p e below P T (mkF m pc ls (.int y :: .int x :: st)) := by
  subst hp; exact Go.of (fun _ k' => XS.icmpNo A.1.here A.2.1 rfl (hb A.2.2 hd) rfl hc k') k
theorem c0_eq_t {x : Int32} (h : x = 0) : ifCond.holds .eq x = true := (if0 _ _).trans (teq h).1
theorem c0_eq_f {x : Int32} (h : ¬ x = 0) : ifCond.holds .eq x = false := (if0 _ _).trans (feq h).1
theorem c0_ne_t {x : Int32} (h : ¬ x = 0) : ifCond.holds .ne x = true := (if0 _ _).trans (feq h).2
theorem c0_ne_f {x : Int32} (h : x = 0) : ifCond.holds .ne x = false := (if0 _ _).trans (teq h).2
theorem c0_lt_t {x : Int32} (h : x < 0) : ifCond.holds .lt x = true := (if0 _ _).trans (tlt h).1
theorem c0_lt_f {x : Int32} (h : ¬ x < 0) : ifCond.holds .lt x = false := (if0 _ _).trans (flt h).1
theorem c0_ge_t {x : Int32} (h : ¬ x < 0) : ifCond.holds .ge x = true := (if0 _ _).trans (flt h).2.1
theorem c0_ge_f {x : Int32} (h : x < 0) : ifCond.holds .ge x = false := (if0 _ _).trans (tlt h).2.1
theorem c0_gt_t {x : Int32} (h : 0 < x) : ifCond.holds .gt x = true := (if0 _ _).trans (tlt h).2.2.1
theorem c0_gt_f {x : Int32} (h : ¬ 0 < x) : ifCond.holds .gt x = false := (if0 _ _).trans (flt h).2.2.1
theorem c0_le_t {x : Int32} (h : ¬ 0 < x) : ifCond.holds .le x = true := (if0 _ _).trans (flt h).2.2.2
theorem c0_le_f {x : Int32} (h : 0 < x) : ifCond.holds .le x = false := (if0 _ _).trans (tlt h).2.2.2
theorem c2_eq_t {x y : Int32} (h : x = y) : if_icmp.holds .eq x y = true := (teq h).1
theorem c2_eq_f {x y : Int32} (h : ¬ x = y) : if_icmp.holds .eq x y = false := (feq h).1
theorem c2_ne_t {x y : Int32} (h : ¬ x = y) : if_icmp.holds .ne x y = true := (feq h).2
theorem c2_ne_f {x y : Int32} (h : x = y) : if_icmp.holds .ne x y = false := (teq h).2
theorem c2_lt_t {x y : Int32} (h : x < y) : if_icmp.holds .lt x y = true := (tlt h).1
theorem c2_lt_f {x y : Int32} (h : ¬ x < y) : if_icmp.holds .lt x y = false := (flt h).1
theorem c2_ge_t {x y : Int32} (h : ¬ x < y) : if_icmp.holds .ge x y = true := (flt h).2.1
theorem c2_ge_f {x y : Int32} (h : x < y) : if_icmp.holds .ge x y = false := (tlt h).2.1
theorem c2_gt_t {x y : Int32} (h : y < x) : if_icmp.holds .gt x y = true := (tlt h).2.2.1
theorem c2_gt_f {x y : Int32} (h : ¬ y < x) : if_icmp.holds .gt x y = false := (flt h).2.2.1
theorem c2_le_t {x y : Int32} (h : ¬ y < x) : if_icmp.holds .le x y = true := (flt h).2.2.2
theorem c2_le_f {x y : Int32} (h : y < x) : if_icmp.holds .le x y = false := (tlt h).2.2.2
theorem b0_eq_t {C : Prop} [Decidable C] {v : Int32} (e : v = if C then 1 else 0) (h : ¬ C) : ifCond.holds .eq v = true := c0_eq_t (by rw [e, if_neg h])
theorem b0_eq_f {C : Prop} [Decidable C] {v : Int32} (e : v = if C then 1 else 0) (h : C) : ifCond.holds .eq v = false := c0_eq_f (by rw [e, if_pos h]; decide)
theorem b0_ne_t {C : Prop} [Decidable C] {v : Int32} (e : v = if C then 1 else 0) (h : C) : ifCond.holds .ne v = true := c0_ne_t (by rw [e, if_pos h]; decide)
theorem b0_ne_f {C : Prop} [Decidable C] {v : Int32} (e : v = if C then 1 else 0) (h : ¬ C) : ifCond.holds .ne v = false := c0_ne_f (by rw [e, if_neg h])
theorem own_b01 {C : Prop} [Decidable C] {v : Int32} (e : v = if C then 1 else 0) : narrow .boolean (.int v) = .int v := by
  subst e; by_cases h : C
  · rw [if_pos h]; rfl
  · rw [if_neg h]; rfl
theorem own_fb {C : Prop} [Decidable C] {v : Int32} (e : v = if C then 1 else 0) : fits .boolean (.int v) = true := by
  subst e; by_cases h : C
  · rw [if_pos h]; rfl
  · rw [if_neg h]; rfl
theorem own_ndadd {x y : UInt64} (h1 : Fin64 x) (h2 : Fin64 y) : NoNaN64 (FP.dadd x y) := dadd_out h1.noNaN h2
theorem own_ndsub {x y : UInt64} (h1 : Fin64 x) (h2 : Fin64 y) : NoNaN64 (FP.dsub x y) := dsub_out h1.noNaN h2
theorem own_ndmul {x y : UInt64} (h1 : Fin64 x) (h2 : Fin64 y) : NoNaN64 (FP.dmul x y) := dmul_out h1 h2
theorem own_fin {x : UInt64} : Fin64 x ↔ FP.Core.DFin x := fin64_core
theorem own_fneg {x : UInt64} (h : Fin64 x) : Fin64 (FP.dneg x) := by
  obtain ⟨s, c, q, e⟩ := fin64_core.mp h
  exact fin64_core.mpr ⟨!s, c, q, (FP.val64_dneg x).trans (by rw [e]; rfl)⟩
theorem own_self {x : UInt64} (h : Fin64 x) : FP.dcmp x x = some .eq := FP.Core.dcmp_self (fin64_core.mp h).ne_nan
theorem own_sgt {x : UInt64} (h : Fin64 x) : ¬ FP.dcmp x x = some .gt := by rw [own_self h]; decide
theorem own_slt {x : UInt64} (h : Fin64 x) : ¬ FP.dcmp x x = some .lt := by rw [own_self h]; decide
theorem own_and {c d : Jvm.Cond} {a : Array Value} {s : State} (h1 : c.before a s = true) (h2 : d.before a s = true) : (Jvm.Cond.and c d).before a s = true := by rw [Cond.before_and, h1, h2]; rfl
theorem own_isfin {x : UInt64} (h : Fin64 x) : some (Value.int (if Jvm.Free.Fl.relLe (FP.dcmp (x &&& 0x7fffffffffffffff) Jvm.Free.Fl.maxD) = true then (1 : Int32) else 0)) = some (.int (1 : Int32)) := by rw [if_pos ((le_max_iff h.noNaN).mpr h)]
theorem own_isinf {x : UInt64} (h : Fin64 x) : some (Value.int (if Jvm.Free.Fl.relGt (FP.dcmp (x &&& 0x7fffffffffffffff) Jvm.Free.Fl.maxD) = true then (1 : Int32) else 0)) = some (.int (0 : Int32)) := by rw [if_neg (fun h4 => (gt_max_iff h.noNaN).mp h4 h)]
theorem own_dfin {i : Int} {x : UInt64} (h : FP.Core.DInt i x) : Fin64 x := by
  refine fin64_core.mpr ?_
  have q : FP.Core.Whole i (FP.Core.val64 x) := h
  cases e : FP.Core.val64 x with
  | nan => rw [e] at q; exact q.elim
  | inf s => rw [e] at q; exact q.elim
  | fin s c q => exact ⟨s, c, q, e⟩
theorem own_fn {v : Int32} (h : narrow .boolean (.int v) = .int v) : fits .boolean (.int v) = true := by
  have q : v &&& 1 = v := Value.int.inj h
  rcases and_one v with z | z <;> rw [z] at q <;> subst q <;> rfl
/-- a double less than, equal to .. another, as the code asks it -/
abbrev oGe (o : Option Ordering) : Prop := o = some .gt ∨ o = some .eq
abbrev oLe (o : Option Ordering) : Prop := o = some .lt ∨ o = some .eq
theorem d_l_eq_t {o : Option Ordering} (h : o = some .eq) : ifCond.holds .eq (cmpValue o .l) = true := by
  rcases o with _ | _ | _ | _ <;> first | rfl | decide | (exfalso; revert h; decide)
theorem d_l_eq_f {o : Option Ordering} (h : ¬ o = some .eq) : ifCond.holds .eq (cmpValue o .l) = false := by
  rcases o with _ | _ | _ | _ <;> first | rfl | decide | (exfalso; revert h; decide)
theorem d_l_ne_t {o : Option Ordering} (h : ¬ o = some .eq) : ifCond.holds .ne (cmpValue o .l) = true := by
  rcases o with _ | _ | _ | _ <;> first | rfl | decide | (exfalso; revert h; decide)
theorem d_l_ne_f {o : Option Ordering} (h : o = some .eq) : ifCond.holds .ne (cmpValue o .l) = false := by
  rcases o with _ | _ | _ | _ <;> first | rfl | decide | (exfalso; revert h; decide)
theorem d_g_eq_t {o : Option Ordering} (h : o = some .eq) : ifCond.holds .eq (cmpValue o .g) = true := by
  rcases o with _ | _ | _ | _ <;> first | rfl | decide | (exfalso; revert h; decide)
theorem d_g_eq_f {o : Option Ordering} (h : ¬ o = some .eq) : ifCond.holds .eq (cmpValue o .g) = false := by
  rcases o with _ | _ | _ | _ <;> first | rfl | decide | (exfalso; revert h; decide)
theorem d_g_ne_t {o : Option Ordering} (h : ¬ o = some .eq) : ifCond.holds .ne (cmpValue o .g) = true := by
  rcases o with _ | _ | _ | _ <;> first | rfl | decide | (exfalso; revert h; decide)
theorem d_g_ne_f {o : Option Ordering} (h : o = some .eq) : ifCond.holds .ne (cmpValue o .g) = false := by
  rcases o with _ | _ | _ | _ <;> first | rfl | decide | (exfalso; revert h; decide)
theorem d_l_lt_t {o : Option Ordering} (h : ¬ oGe o) : ifCond.holds .lt (cmpValue o .l) = true := by
  rcases o with _ | _ | _ | _ <;> first | rfl | decide | (exfalso; revert h; decide)
theorem d_l_lt_f {o : Option Ordering} (h : oGe o) : ifCond.holds .lt (cmpValue o .l) = false := by
  rcases o with _ | _ | _ | _ <;> first | rfl | decide | (exfalso; revert h; decide)
theorem d_l_ge_t {o : Option Ordering} (h : oGe o) : ifCond.holds .ge (cmpValue o .l) = true := by
  rcases o with _ | _ | _ | _ <;> first | rfl | decide | (exfalso; revert h; decide)
theorem d_l_ge_f {o : Option Ordering} (h : ¬ oGe o) : ifCond.holds .ge (cmpValue o .l) = false := by
  rcases o with _ | _ | _ | _ <;> first | rfl | decide | (exfalso; revert h; decide)
theorem d_l_gt_t {o : Option Ordering} (h : o = some .gt) : ifCond.holds .gt (cmpValue o .l) = true := by
  rcases o with _ | _ | _ | _ <;> first | rfl | decide | (exfalso; revert h; decide)
theorem d_l_gt_f {o : Option Ordering} (h : ¬ o = some .gt) : ifCond.holds .gt (cmpValue o .l) = false := by
  rcases o with _ | _ | _ | _ <;> first | rfl | decide | (exfalso; revert h; decide)
theorem d_l_le_t {o : Option Ordering} (h : ¬ o = some .gt) : ifCond.holds .le (cmpValue o .l) = true := by
  rcases o with _ | _ | _ | _ <;> first | rfl | decide | (exfalso; revert h; decide)
theorem d_l_le_f {o : Option Ordering} (h : o = some .gt) : ifCond.holds .le (cmpValue o .l) = false := by
  rcases o with _ | _ | _ | _ <;> first | rfl | decide | (exfalso; revert h; decide)
theorem d_g_lt_t {o : Option Ordering} (h : o = some .lt) : ifCond.holds .lt (cmpValue o .g) = true := by
  rcases o with _ | _ | _ | _ <;> first | rfl | decide | (exfalso; revert h; decide)
theorem d_g_lt_f {o : Option Ordering} (h : ¬ o = some .lt) : ifCond.holds .lt (cmpValue o .g) = false := by
  rcases o with _ | _ | _ | _ <;> first | rfl | decide | (exfalso; revert h; decide)
theorem d_g_ge_t {o : Option Ordering} (h : ¬ o = some .lt) : ifCond.holds .ge (cmpValue o .g) = true := by
  rcases o with _ | _ | _ | _ <;> first | rfl | decide | (exfalso; revert h; decide)
theorem d_g_ge_f {o : Option Ordering} (h : o = some .lt) : ifCond.holds .ge (cmpValue o .g) = false := by
  rcases o with _ | _ | _ | _ <;> first | rfl | decide | (exfalso; revert h; decide)
theorem d_g_gt_t {o : Option Ordering} (h : ¬ oLe o) : ifCond.holds .gt (cmpValue o .g) = true := by
  rcases o with _ | _ | _ | _ <;> first | rfl | decide | (exfalso; revert h; decide)
theorem d_g_gt_f {o : Option Ordering} (h : oLe o) : ifCond.holds .gt (cmpValue o .g) = false := by
  rcases o with _ | _ | _ | _ <;> first | rfl | decide | (exfalso; revert h; decide)
theorem d_g_le_t {o : Option Ordering} (h : oLe o) : ifCond.holds .le (cmpValue o .g) = true := by
  rcases o with _ | _ | _ | _ <;> first | rfl | decide | (exfalso; revert h; decide)
theorem d_g_le_f {o : Option Ordering} (h : ¬ oLe o) : ifCond.holds .le (cmpValue o .g) = false := by
  rcases o with _ | _ | _ | _ <;> first | rfl | decide | (exfalso; revert h; decide)
theorem l_eq (x y : Int64) : XT.cmpL x y = 0 ↔ x = y := lw_eq x y
theorem l_lt (x y : Int64) : XT.cmpL x y < 0 ↔ x < y := lw_lt x y
theorem l_gt (x y : Int64) : 0 < XT.cmpL x y ↔ y < x := lw_gt x y
theorem g_ret (A : Ax p l e R s m args below meth c T locs cells slots B) {w : Value} {t : FieldType} {i : Instr} {Q : Option Value → Heap → List Loc → Prop} {K S : Nat} (hd : decode B pc = .ok (i, 1)) (hlk : meth.locks = false) (hret : meth.sig.returnType = some t) (hn : narrow t w = w)
    (hi : (i = .ireturn ∧ (t = .int ∨ t = .boolean ∨ t = .byte ∨ t = .char ∨ t = .short) ∧ ∃ z, w = .int z) ∨ (i = .lreturn ∧ t = .long ∧ ∃ z, w = .long z) ∨ (i = .dreturn ∧ t = .double ∧ ∃ z, w = .double z) ∨ (i = .freturn ∧ t = .float ∧ ∃ z, w = .float z) ∨ (i = .areturn ∧ t.isReference = true ∧ w.isRef = true))
    (hK : cells ≤ K) (hS : slots ≤ S) (hQ : Q (some w) T.heap locs) : Go p e below (fun U o => ∃ v L, o = .returned v ∧ Q v U.heap L ∧ FrameEnd s o U L K S) T (mkF m pc ls (w :: st)) := by
  obtain ⟨fs, hr, hrun, hended, hW, hsame⟩ := A.1.leave (v := some w) (fun h => by rw [hret] at h; cases h) hlk
  exact ⟨_, _, retOut A.1 A.2.1 hret hn hi (hb A.2.2 hd) hr, hrun, hended, _, _, rfl, hQ, ⟨_, rfl⟩, hW, hsame.mono hK hS⟩
theorem g_retW {vm1 : Vm} (A : Ax p l e R (s.setVm vm1) m args below meth c T locs cells slots B) {w : Value} {t : FieldType} {i : Instr} {Q : Option Value → Heap → List Loc → Prop} {K S n : Nat} (hSi : s.Since vm1 n) (hN : n ≤ T.heap.size) (hd : decode B pc = .ok (i, 1)) (hlk : meth.locks = false) (hret : meth.sig.returnType = some t) (hn : narrow t w = w)
    (hi : (i = .ireturn ∧ (t = .int ∨ t = .boolean ∨ t = .byte ∨ t = .char ∨ t = .short) ∧ ∃ z, w = .int z) ∨ (i = .lreturn ∧ t = .long ∧ ∃ z, w = .long z) ∨ (i = .dreturn ∧ t = .double ∧ ∃ z, w = .double z) ∨ (i = .freturn ∧ t = .float ∧ ∃ z, w = .float z) ∨ (i = .areturn ∧ t.isReference = true ∧ w.isRef = true))
    (hK : cells ≤ K) (hS : slots ≤ S) (hQ : Q (some w) T.heap locs) : Go p e below (fun U o => ∃ v L, o = .returned v ∧ Q v U.heap L ∧ ReturnedEndW s o U L K S) T (mkF m pc ls (w :: st)) := by
  obtain ⟨fs, hr, hrun, hended, hv, h1, h2, hsame⟩ := A.1.leaveW hSi hN (v := some w) (fun h => by rw [hret] at h; cases h) hlk
  exact ⟨_, _, retOut A.1 A.2.1 hret hn hi (hb A.2.2 hd) hr, hrun, hended, _, _, rfl, hQ, hv, h1, h2, hsame.mono hK hS⟩
theorem g_retV (A : Ax p l e R s m args below meth c T locs cells slots B) {Q : Option Value → Heap → List Loc → Prop} {K S : Nat} (hd : decode B pc = .ok (.return_, 1)) (hlk : meth.locks = false) (hret : meth.sig.returnType = none)
    (hK : cells ≤ K) (hS : slots ≤ S) (hQ : Q none T.heap locs) : Go p e below (fun U o => ∃ v L, o = .returned v ∧ Q v U.heap L ∧ FrameEnd s o U L K S) T (mkF m pc ls []) := by
  obtain ⟨fs, hr, hrun, hended, hW, hsame⟩ := A.1.leave (v := none) (fun _ => rfl) hlk
  exact ⟨_, _, A.1.returnOut A.2.1 hret (hb A.2.2 hd) hr, hrun, hended, _, _, rfl, hQ, ⟨_, rfl⟩, hW, hsame.mono hK hS⟩
theorem g_ldcI (A : Ax p l e R s m args below meth c T locs cells slots B) {Z : State} {a0 : Array Value} {own : String} {i : Nat} {v : Int32} (hZ : Z.Warmed39 s.vm) (hown : s.vm.findClass own = some m.cls) (w : (Jvm.Cond.constant own i v).before a0 Z = true) (hd : decode B pc = .ok (.ldc i, 2)) (hp : pc + 2 = pc') (k : Go p e below P T (mkF m pc' ls (.int v :: st))) : Go p e below P T (mkF m pc ls st) := by
  subst hp; exact Go.of (A.1.ldcInt A.2.1 hown (mvT hZ w) (g := mkF m pc ls st) rfl (hb A.2.2 hd)) k
theorem g_ldcD (A : Ax p l e R s m args below meth c T locs cells slots B) {Z : State} {a0 : Array Value} {own : String} {i : Nat} {v : UInt64} (hZ : Z.Warmed39 s.vm) (hown : s.vm.findClass own = some m.cls) (w : (Jvm.Cond.constantDouble own i v).before a0 Z = true) (hd : decode B pc = .ok (.ldc2_w i, 3)) (hp : pc + 3 = pc') (k : Go p e below P T (mkF m pc' ls (.double v :: st))) : Go p e below P T (mkF m pc ls st) := by
  subst hp; exact Go.of (A.1.ldc2DoubleC A.2.1 hown (mvT hZ w) (g := mkF m pc ls st) rfl (hb A.2.2 hd)) k
theorem g_ldcL (A : Ax p l e R s m args below meth c T locs cells slots B) {Z : State} {a0 : Array Value} {own : String} {i : Nat} {v : Int64} (hZ : Z.Warmed39 s.vm) (hown : s.vm.findClass own = some m.cls) (w : (Jvm.Cond.constantLong own i v).before a0 Z = true) (hd : decode B pc = .ok (.ldc2_w i, 3)) (hp : pc + 3 = pc') (k : Go p e below P T (mkF m pc' ls (.long v :: st))) : Go p e below P T (mkF m pc ls st) := by
  subst hp; exact Go.of (A.1.ldc2Long A.2.1 hown (mvT hZ w) (g := mkF m pc ls st) rfl (hb A.2.2 hd)) k
theorem g_nnY (A : Ax p l e R s m args below meth c T locs cells slots B) {o : Int} {b : Addr} (hd : decode B pc = .ok (.ifnonnull o, 3)) (hp : (pc : Int) + o = (pc' : Int)) (k : Go p e below P T (mkF m pc' ls st)) : Go p e below P T (mkF m pc ls (.ref b :: st)) := Go.of (fun _ k' => XT.ifnonnullYes A.1.here A.2.1 rfl rfl (hb A.2.2 hd) rfl (own_off hp).1 (own_off hp).2 k') k
theorem g_nnN (A : Ax p l e R s m args below meth c T locs cells slots B) {o : Int} (hd : decode B pc = .ok (.ifnonnull o, 3)) (hp : pc + 3 = pc') (k : Go p e below P T (mkF m pc' ls st)) : Go p e below P T (mkF m pc ls (.null :: st)) := by
  subst hp; exact Go.of (fun _ k' => XT.ifnonnullNo A.1.here A.2.1 rfl (hb A.2.2 hd) rfl k') k
theorem g_nuY (A : Ax p l e R s m args below meth c T locs cells slots B) {o : Int} (hd : decode B pc = .ok (.ifnull o, 3)) (hp : (pc : Int) + o = (pc' : Int)) (k : Go p e below P T (mkF m pc' ls st)) : Go p e below P T (mkF m pc ls (.null :: st)) := Go.of (fun _ k' => XS.ifnullYes A.1.here A.2.1 rfl rfl (hb A.2.2 hd) rfl (own_off hp).1 (own_off hp).2 k') k
theorem g_nuN (A : Ax p l e R s m args below meth c T locs cells slots B) {o : Int} {b : Addr} (hd : decode B pc = .ok (.ifnull o, 3)) (hp : pc + 3 = pc') (k : Go p e below P T (mkF m pc' ls st)) : Go p e below P T (mkF m pc ls (.ref b :: st)) := by
  subst hp; exact Go.of (fun _ k' => XS.ifnullNo A.1.here A.2.1 rfl (hb A.2.2 hd) rfl k') k
theorem g_acY (A : Ax p l e R s m args below meth c T locs cells slots B) {o : Int} {cd : ClassFile.ACond} {x y : Value} (hd : decode B pc = .ok (.if_acmp cd o, 3)) (h1 : x.isRef = true) (h2 : y.isRef = true) (hc : XT.acmp cd x y = true) (hp : (pc : Int) + o = (pc' : Int)) (k : Go p e below P T (mkF m pc' ls st)) : Go p e below P T (mkF m pc ls (y :: x :: st)) := Go.of (fun _ k' => XT.acmpYes A.1.here A.2.1 rfl rfl (hb A.2.2 hd) rfl h1 h2 hc (own_off hp).1 (own_off hp).2 k') k
theorem g_acN (A : Ax p l e R s m args below meth c T locs cells slots B) {o : Int} {cd : ClassFile.ACond} {x y : Value} (hd : decode B pc = .ok (.if_acmp cd o, 3)) (h1 : x.isRef = true) (h2 : y.isRef = true) (hc : XT.acmp cd x y = false) (hp : pc + 3 = pc') (k : Go p e below P T (mkF m pc' ls st)) : Go p e below P T (mkF m pc ls (y :: x :: st)) := by
  subst hp; exact Go.of (fun _ k' => XT.acmpNo A.1.here A.2.1 rfl (hb A.2.2 hd) rfl h1 h2 hc k') k
/-- an array of n places: its i-th holds f i -/
def Dar (Z : State) (h : Heap) (a : Addr) (ty : FieldType) (n : Nat) (f : Nat → Value) : Prop := ∃ cl : Cell, RoadKit.Arr Z h a cl ty ∧ cl.slots.size = n ∧ n < 2147483648 ∧ ∀ i, i < n → cl.slots[i]? = some (f i)
variable {Z : State} {h h' : Heap} {a b : Addr} {ty : FieldType} {n : Nat} {f g : Nat → Value} {sl : Nat} {v : Value} {ws : List Addr}
theorem Dar.lt (F : Dar Z h a ty n f) : a < h.size := by obtain ⟨cl, A, -⟩ := F; exact A.lt
theorem Dar.ext (E : Ext h h') (F : Dar Z h a ty n f) : Dar Z h' a ty n f := by obtain ⟨cl, A, r⟩ := F; exact ⟨cl, A.ext E, r⟩
theorem Dar.other (W : Wr h h' b sl v) (F : Dar Z h a ty n f) (q : a ≠ b) : Dar Z h' a ty n f := by obtain ⟨cl, A, r⟩ := F; exact ⟨cl, A.other W q, r⟩
theorem Dar.keep (F : Dar Z h a ty n f) (K : Keep h h' ws) (q : a ∉ ws) : Dar Z h' a ty n f := by obtain ⟨cl, A, r⟩ := F; exact ⟨cl, ⟨K.2.1 a cl A.1 q, A.2⟩, r⟩
theorem Dar.congr (F : Dar Z h a ty n f) (q : ∀ i, i < n → f i = g i) : Dar Z h a ty n g := by obtain ⟨cl, A, r1, r2, r3⟩ := F; exact ⟨cl, A, r1, r2, fun i hi => by rw [← q i hi]; exact r3 i hi⟩
theorem Dar.new {cA : ClassId} {z : Int32} (A : RoadKit.Arr Z h a (newA cA ty z) ty) (hz : z.toNatClampNeg = n) : Dar Z h a ty n (fun _ => defaultValue ty) := by
  refine ⟨_, A, (sz_new _ _ _).trans hz, ?_, fun i hi => by subst hz; simp [newA, hi]⟩
  have := z.toInt_lt
  rw [← hz, Int32.toNatClampNeg]; omega
theorem Dar.ne_exa {a0 : Array Value} {k : Nat} {C : String} (F : Dar Z h a ty n f) (E : Exa Z h b C) (wi : (Jvm.Cond.instantiable C k).before a0 Z = true) : a ≠ b := by obtain ⟨cl, A, -⟩ := F; exact fun q => ne_arr E wi A q.symm
theorem own_ne {a b : Nat} {h : Heap} (g : a = h.size) (q : b < h.size) : b ≠ a := by rw [g]; exact Nat.ne_of_lt q
theorem own_clamp {i : Nat} (hi : i < 2147483648) : (Int32.ofNat i).toNatClampNeg = i ∧ ¬ Int32.ofNat i < 0 := by
  have e : (Int32.ofNat i).toInt = i := Int32.toInt_ofNat_of_lt hi
  refine ⟨by rw [Int32.toNatClampNeg, e]; omega, fun q => ?_⟩
  rw [Int32.lt_iff_toInt_lt, e] at q
  have : (0 : Int32).toInt = 0 := rfl
  omega
theorem Dar.set {i : Nat} (F : Dar Z h a ty n f) (W : Wr h h' a i v) (q : ∀ j, j < n → g j = if j = i then v else f j) : Dar Z h' a ty n g := by
  obtain ⟨cl, A, r1, r2, r3⟩ := F
  refine ⟨_, A.same W, (sz_set _ _ _).trans r1, r2, fun j hj => ?_⟩
  rw [q j hj]
  by_cases e : j = i
  · subst e; rw [if_pos rfl]; simp [Cell.setSlot, r1, hj]
  · rw [if_neg e]; exact (Array.getElem?_setIfInBounds_ne (Ne.symm e)).trans (r3 j hj)
theorem own_in {cl : Cell} {i : Nat} (S : cl.slots.size = n) (hn : n < 2147483648) (hi : i < n) : ¬ (Int32.ofNat i < 0 ∨ cl.slots.size ≤ (Int32.ofNat i).toNatClampNeg) := by
  obtain ⟨q1, q2⟩ := own_clamp (i := i) (by omega)
  rw [q1, S]; exact fun z => z.elim q2 (by omega)
theorem g_daload (A : Ax p l e R s m args below meth c T locs cells slots B) (hZ : Z.Warmed39 s.vm) (eT : T.heap = h) {j : Int32} {i : Nat} {x : UInt64} (F : Dar Z h a .double n f) (hi : i < n) (hj : j = Int32.ofNat i) (hv : f i = .double x) (hd : decode B pc = .ok (.daload, 1)) (hp : pc + 1 = pc') (k : Go p e below P T (mkF m pc' ls (.double x :: st))) : Go p e below P T (mkF m pc ls (.int j :: .ref a :: st)) := by
  subst hp hj
  obtain ⟨cl, A2, r1, r2, r3⟩ := F
  have q := (own_clamp (i := i) (by omega)).1
  exact Go.of (fun t k' => A.1.daload A.2.1 (j := Int32.ofNat i) (v := .double x) (by rw [eT]; exact A2.1) (State.isArrayOf_alike hZ.alike A2.2.1) A2.2.2 (own_in r1 r2 hi) (by rw [q, ← hv]; exact r3 i hi) (g := mkF m pc ls (.int (Int32.ofNat i) :: .ref a :: st)) rfl rfl (hb A.2.2 hd) t k') k
theorem g_iaload (A : Ax p l e R s m args below meth c T locs cells slots B) (hZ : Z.Warmed39 s.vm) (eT : T.heap = h) {j : Int32} {i : Nat} {x : Int32} (F : Dar Z h a .int n f) (hi : i < n) (hj : j = Int32.ofNat i) (hv : f i = .int x) (hd : decode B pc = .ok (.iaload, 1)) (hp : pc + 1 = pc') (k : Go p e below P T (mkF m pc' ls (.int x :: st))) : Go p e below P T (mkF m pc ls (.int j :: .ref a :: st)) := by
  subst hp hj
  obtain ⟨cl, A2, r1, r2, r3⟩ := F
  have q := (own_clamp (i := i) (by omega)).1
  exact Go.of (fun t k' => A.1.iaload A.2.1 (j := Int32.ofNat i) (v := .int x) (by rw [eT]; exact A2.1) (State.isArrayOf_alike hZ.alike A2.2.1) A2.2.2 (own_in r1 r2 hi) (by rw [q, ← hv]; exact r3 i hi) (g := mkF m pc ls (.int (Int32.ofNat i) :: .ref a :: st)) rfl rfl (hb A.2.2 hd) t k') k
theorem g_baload (A : Ax p l e R s m args below meth c T locs cells slots B) (hZ : Z.Warmed39 s.vm) (eT : T.heap = h) {j : Int32} {i : Nat} {x : Int32} (F : Dar Z h a .boolean n f) (hi : i < n) (hj : j = Int32.ofNat i) (hv : f i = .int x) (hd : decode B pc = .ok (.baload, 1)) (hp : pc + 1 = pc') (k : Go p e below P T (mkF m pc' ls (.int x :: st))) : Go p e below P T (mkF m pc ls (.int j :: .ref a :: st)) := by
  subst hp hj
  obtain ⟨cl, A2, r1, r2, r3⟩ := F
  have q := (own_clamp (i := i) (by omega)).1
  exact Go.of (fun t k' => A.1.baloadBooleans A.2.1 (j := Int32.ofNat i) (v := .int x) (by rw [eT]; exact A2.1) (State.isArrayOf_alike hZ.alike A2.2.1) A2.2.2 (own_in r1 r2 hi) (by rw [q, ← hv]; exact r3 i hi) (g := mkF m pc ls (.int (Int32.ofNat i) :: .ref a :: st)) rfl rfl (hb A.2.2 hd) t k') k
theorem g_baloadB (A : Ax p l e R s m args below meth c T locs cells slots B) (hZ : Z.Warmed39 s.vm) (eT : T.heap = h) {j : Int32} {i : Nat} {x : Int32} (F : Dar Z h a .byte n f) (hi : i < n) (hj : j = Int32.ofNat i) (hv : f i = .int x) (hd : decode B pc = .ok (.baload, 1)) (hp : pc + 1 = pc') (k : Go p e below P T (mkF m pc' ls (.int x :: st))) : Go p e below P T (mkF m pc ls (.int j :: .ref a :: st)) := by
  subst hp hj
  obtain ⟨cl, A2, r1, r2, r3⟩ := F
  have q := (own_clamp (i := i) (by omega)).1
  exact Go.of (fun t k' => A.1.baloadBytes A.2.1 (j := Int32.ofNat i) (v := .int x) (by rw [eT]; exact A2.1) (State.isArrayOf_alike hZ.alike A2.2.1) A2.2.2 (own_in r1 r2 hi) (by rw [q, ← hv]; exact r3 i hi) (g := mkF m pc ls (.int (Int32.ofNat i) :: .ref a :: st)) rfl rfl (hb A.2.2 hd) t k') k
theorem g_alen (A : Ax p l e R s m args below meth c T locs cells slots B) (hZ : Z.Warmed39 s.vm) (eT : T.heap = h) (F : Dar Z h a ty n f) (hd : decode B pc = .ok (.arraylength, 1)) {z : Int32} (hz : Int32.ofNat n = z) (hp : pc + 1 = pc') (k : Go p e below P T (mkF m pc' ls (.int z :: st))) : Go p e below P T (mkF m pc ls (.ref a :: st)) := by
  subst hp hz
  obtain ⟨cl, A2, r1, r2, r3⟩ := F
  exact Go.of (fun t k' => A.1.arraylength A.2.1 (cell := cl) (by rw [eT]; exact A2.1) (State.isArrayOf_alike hZ.alike A2.2.1) (g := mkF m pc ls (.ref a :: st)) rfl (rest := st) rfl (hb A.2.2 hd) t (by rw [r1]; exact k')) k
theorem s_dastore (A : Ax p l e R s m args below meth c T locs cells slots B) (hZ : Z.Warmed39 s.vm) (eT : T.heap = h) {j : Int32} {i : Nat} {x : UInt64} (F : Dar Z h a .double n f) (hi : i < n) (hj : j = Int32.ofNat i) (hd : decode B pc = .ok (.dastore, 1)) (hp : pc + 1 = pc') :
    ∃ T' h', Ax p l e R s m args below meth c T' (locs ++ [⟨a, i⟩]) cells slots B ∧ T'.heap = h' ∧ Wr h h' a i (.double x) ∧ ∀ {P : State → Outcome → Prop}, Go p e below P T' (mkF m pc' ls st) → Go p e below P T (mkF m pc ls (.double x :: .int j :: .ref a :: st)) := by
  subst hp hj
  obtain ⟨cl, A2, r1, r2, r3⟩ := F
  have q := (own_clamp (i := i) (by omega)).1
  obtain ⟨X', st'⟩ := A.1.dastore A.2.1 (by rw [eT]; exact A2.1) (State.isArrayOf_alike hZ.alike A2.2.1) A2.2.2 (own_in r1 r2 hi) (x := x) (g := mkF m pc ls (.double x :: .int (Int32.ofNat i) :: .ref a :: st)) rfl rfl (hb A.2.2 hd)
  rw [q] at X' st'
  exact ⟨_, _, ⟨X', A.2⟩, rfl, ⟨cl, A2.1, A2.plain, by rw [r1]; exact hi, by rw [← eT]; rfl⟩, fun k => Go.of st' k⟩
theorem s_iastore (A : Ax p l e R s m args below meth c T locs cells slots B) (hZ : Z.Warmed39 s.vm) (eT : T.heap = h) {j : Int32} {i : Nat} {x : Int32} (F : Dar Z h a .int n f) (hi : i < n) (hj : j = Int32.ofNat i) (hd : decode B pc = .ok (.iastore, 1)) (hp : pc + 1 = pc') :
    ∃ T' h', Ax p l e R s m args below meth c T' (locs ++ [⟨a, i⟩]) cells slots B ∧ T'.heap = h' ∧ Wr h h' a i (.int x) ∧ ∀ {P : State → Outcome → Prop}, Go p e below P T' (mkF m pc' ls st) → Go p e below P T (mkF m pc ls (.int x :: .int j :: .ref a :: st)) := by
  subst hp hj
  obtain ⟨cl, A2, r1, r2, r3⟩ := F
  have q := (own_clamp (i := i) (by omega)).1
  obtain ⟨T', h', X', e', W, st'⟩ := stI A.1 A.2.1 hZ eT A2 (own_in r1 r2 hi) (x := x) (g := mkF m pc ls (.int x :: .int (Int32.ofNat i) :: .ref a :: st)) rfl rfl (hb A.2.2 hd)
  rw [q] at X' W
  exact ⟨_, _, ⟨X', A.2⟩, e', W, fun k => Go.of st' k⟩
theorem s_zastore (A : Ax p l e R s m args below meth c T locs cells slots B) (hZ : Z.Warmed39 s.vm) (eT : T.heap = h) {j : Int32} {i : Nat} {x : Int32} (F : Dar Z h a .boolean n f) (hi : i < n) (hj : j = Int32.ofNat i) (hx1 : narrow .boolean (.int x) = .int x) (hd : decode B pc = .ok (.bastore, 1)) (hp : pc + 1 = pc') :
    ∃ T' h', Ax p l e R s m args below meth c T' (locs ++ [⟨a, i⟩]) cells slots B ∧ T'.heap = h' ∧ Wr h h' a i (.int x) ∧ ∀ {P : State → Outcome → Prop}, Go p e below P T' (mkF m pc' ls st) → Go p e below P T (mkF m pc ls (.int x :: .int j :: .ref a :: st)) := by
  subst hp hj
  obtain ⟨cl, A2, r1, r2, r3⟩ := F
  have q := (own_clamp (i := i) (by omega)).1
  obtain ⟨T', h', X', e', W, st'⟩ := stZ A.1 A.2.1 hZ eT A2 (own_in r1 r2 hi) (x := x) (g := mkF m pc ls (.int x :: .int (Int32.ofNat i) :: .ref a :: st)) rfl rfl (hb A.2.2 hd)
  have q2 : nar .boolean x = x := Value.int.inj hx1
  rw [q] at X' W; rw [q2] at W
  exact ⟨_, _, ⟨X', A.2⟩, e', W, fun k => Go.of st' k⟩
theorem s_bastoreB (A : Ax p l e R s m args below meth c T locs cells slots B) (hZ : Z.Warmed39 s.vm) (eT : T.heap = h) {j : Int32} {i : Nat} {x : Int32} (F : Dar Z h a .byte n f) (hi : i < n) (hj : j = Int32.ofNat i) (hd : decode B pc = .ok (.bastore, 1)) (hp : pc + 1 = pc') :
    ∃ T' h', Ax p l e R s m args below meth c T' (locs ++ [⟨a, i⟩]) cells slots B ∧ T'.heap = h' ∧ Wr h h' a i (.int (nar .byte x)) ∧ ∀ {P : State → Outcome → Prop}, Go p e below P T' (mkF m pc' ls st) → Go p e below P T (mkF m pc ls (.int x :: .int j :: .ref a :: st)) := by
  subst hp hj
  obtain ⟨cl, A2, r1, r2, r3⟩ := F
  have q := (own_clamp (i := i) (by omega)).1
  obtain ⟨T', h', X', e', W, st'⟩ := stB A.1 A.2.1 hZ eT A2 (own_in r1 r2 hi) (x := x) (g := mkF m pc ls (.int x :: .int (Int32.ofNat i) :: .ref a :: st)) rfl rfl (hb A.2.2 hd)
  rw [q] at X' W
  exact ⟨_, _, ⟨X', A.2⟩, e', W, fun k => Go.of st' k⟩
end own_go
section own_arr
variable {p : Program} {l : Launch} {e : Env} {R : Room} {s : State} {m : MethodId} {args : Array Value} {below : List Frame} {meth : Method} {c : Code} {T : State} {locs : List Loc} {cells slots : Nat} {P : State → Outcome → Prop} {B : ByteArray} {pc pc' : Nat} {ls ls' : Array Slot} {st : List Value} {Z : State} {h h' : Heap} {a b : Addr}
/-- the array's class is that of arrays of double[] -/
def Ovd (Z : State) (h : Heap) (a : Addr) : Prop := ∃ cl : Cell, h[a]? = some cl ∧ OvrA Z cl.cls .double "[D"
theorem Ovd.lt (F : Ovd Z h a) : a < h.size := by obtain ⟨cl, h1, -⟩ := F; exact (Array.getElem?_eq_some_iff.mp h1).1
theorem Ovd.ext (E : Ext h h') (F : Ovd Z h a) : Ovd Z h' a := by obtain ⟨cl, h1, h2⟩ := F; exact ⟨cl, E.2 _ _ h1, h2⟩
theorem Ovd.wr {sl : Nat} {v : Value} (W : Wr h h' b sl v) (F : Ovd Z h a) : Ovd Z h' a := by
  obtain ⟨cl, h1, h2⟩ := F
  obtain ⟨c', e1, e2, -⟩ := wr_at W h1
  exact ⟨c', e1, by rw [e2]; exact h2⟩
theorem Ovd.keep {ws : List Addr} (F : Ovd Z h a) (K : Keep h h' ws) : Ovd Z h' a := by
  obtain ⟨cl, h1, h2⟩ := F
  obtain ⟨c', e1, e2, -⟩ := K.2.2 a cl h1
  exact ⟨c', e1, by rw [e2]; exact h2⟩
theorem s_aastore (A : Ax p l e R s m args below meth c T locs cells slots B) (hZ : Z.Warmed39 s.vm) (eT : T.heap = h) {n : Nat} {f : Nat → Value} {j : Int32} {i : Nat} {y : Addr} (F : Dar Z h a (.array .double) n f) (O : Ovd Z h a) (I : Exa Z h y "[D") (hi : i < n) (hj : j = Int32.ofNat i) (hd : decode B pc = .ok (.aastore, 1)) (hp : pc + 1 = pc') :
    ∃ T' h', Ax p l e R s m args below meth c T' (locs ++ [⟨a, i⟩]) cells slots B ∧ T'.heap = h' ∧ Wr h h' a i (.ref y) ∧ ∀ {P : State → Outcome → Prop}, Go p e below P T' (mkF m pc' ls st) → Go p e below P T (mkF m pc ls (.ref y :: .int j :: .ref a :: st)) := by
  subst hp hj
  obtain ⟨cl, A2, r1, r2, r3⟩ := F
  obtain ⟨cl', o1, o2⟩ := O
  cases A2.1.symm.trans o1
  have q := (own_clamp (i := i) (by omega)).1
  obtain ⟨T', h', X', e', W, st'⟩ := stR A.1 A.2.1 hZ eT A2 (own_in r1 r2 hi) rfl (Sto.ofVA A2 rfl o2 (Ins.self I)) (g := mkF m pc ls (.ref y :: .int (Int32.ofNat i) :: .ref a :: st)) rfl rfl (hb A.2.2 hd)
  rw [q] at X' W
  exact ⟨_, _, ⟨X', A.2⟩, e', W, fun k => Go.of st' k⟩
theorem g_aaload (A : Ax p l e R s m args below meth c T locs cells slots B) (hZ : Z.Warmed39 s.vm) (eT : T.heap = h) {n : Nat} {f : Nat → Value} {j : Int32} {i : Nat} {v : Value} (F : Dar Z h a (.array .double) n f) (hi : i < n) (hj : j = Int32.ofNat i) (hv : f i = v) (hd : decode B pc = .ok (.aaload, 1)) (hp : pc + 1 = pc') (k : Go p e below P T (mkF m pc' ls (v :: st))) : Go p e below P T (mkF m pc ls (.int j :: .ref a :: st)) := by
  subst hp hj
  obtain ⟨cl, A2, r1, r2, r3⟩ := F
  have q := (own_clamp (i := i) (by omega)).1
  exact Go.of (fun t k' => A.1.aaload A.2.1 (j := Int32.ofNat i) (v := v) (by rw [eT]; exact A2.1) (State.isArrayOf_alike hZ.alike A2.2.1) rfl A2.2.2 (own_in r1 r2 hi) (by rw [q, ← hv]; exact r3 i hi) (g := mkF m pc ls (.int (Int32.ofNat i) :: .ref a :: st)) rfl rfl (hb A.2.2 hd) t k') k
theorem own_rg (x : Nat → UInt64) (n i : Nat) (hi : i < n) : ((List.range n).map fun j => Value.double (x j)).getD i (.double 0) = .double (x i) := by
  simp [hi]
theorem own_splice (x y : Nat → UInt64) (n n' sp nn i : Nat) (h4 : sp + nn ≤ n) (h5 : nn ≤ n') (hi : i < n') :
    (((List.range n').map (fun j => Value.double (y j))).take 0 ++ (List.range nn).map (fun i => ((List.range n).map fun j => Value.double (x j)).getD (sp + i) (.double 0)) ++ ((List.range n').map (fun j => Value.double (y j))).drop (0 + nn)).getD i (.double 0) = .double (if i < nn then x (sp + i) else y i) := by
  rw [List.getD_eq_getElem?_getD, List.take_zero, List.nil_append, List.getElem?_append]
  by_cases q : i < nn
  · rw [if_pos (by simpa using q), if_pos q]
    simp [q, show sp + i < n by omega]
  · rw [if_neg (by simpa using q), if_neg q]
    simp only [List.length_map, List.length_range, Nat.zero_add, List.getElem?_drop]
    rw [show nn + (i - nn) = i by omega]
    simp [hi]
theorem own_arv {n : Nat} {x : Nat → UInt64} (F : Dar Z h a .double n (fun j => .double (x j))) : ∃ k, Arv Z h a k .double (Int32.ofNat n) ((List.range n).map fun j => Value.double (x j)) (.double 0) := by
  obtain ⟨ca, A1, r1, r2, r3⟩ := F
  obtain ⟨c1, c2⟩ := own_clamp (i := n) r2
  refine ⟨ca.cls, ca, A1, rfl, by rw [c1]; exact r1, c2, fun k hk => ?_, fun i hi => ?_⟩
  · rw [own_rg x n k (by omega)]; exact r3 k (by omega)
  · rw [own_rg x n i (by omega)]; rfl
theorem s_acopy (A : Ax p l e R s m args below meth c T locs cells slots B) (hZ : Z.Warmed39 s.vm) (eT : T.heap = h) {a0 : Array Value} {own : String} {index : Nat} (hown : s.vm.findClass own = some m.cls) (w1 : (Jvm.Cond.methodLink own index Jvm.Stand.acN).before a0 Z = true) (w2 : (Jvm.Cond.native Jvm.Stand.acN).before a0 Z = true) (w3 : (Jvm.Cond.static Jvm.Stand.acN).before a0 Z = true) (w4 : (Jvm.Cond.initialized "java/lang/System").before a0 Z = true)
    {n n' sp nn n0 : Nat} {x y : Nat → UInt64} (F : Dar Z h a .double n (fun j => .double (x j))) (G : Dar Z h b .double n' (fun j => .double (y j))) (h4 : sp + nn ≤ n) (h5 : nn ≤ n') (N : Fr n0 locs) (ge : n0 ≤ b) {j1 j2 : Int32} (e1 : j1 = Int32.ofNat sp) (e2 : j2 = Int32.ofNat nn) (hsize : ls.size = c.maxLocals) (hd : decode B pc = .ok (.invokestatic index, 3)) (hp : pc + 3 = pc') (hf : 1 ≤ R.frames) {W : Nat} (hW : 2 * 0 + (st.map fun v => v.category).sum ≤ W) (hlo : W + (nativeFrameWords "java/lang/System" "arraycopy" 5 + 11) ≤ R.locals) :
    ∃ T' h' L, Ax p l e R s m args below meth c T' L cells slots B ∧ T'.heap = h' ∧ Fr n0 L ∧ Keep h h' [b] ∧ Dar Z h' b .double n' (fun j => .double (if j < nn then x (sp + j) else y j)) ∧ ∀ {P : State → Outcome → Prop}, Go p e below P T' (mkF m pc' ls st) → Go p e below P T (mkF m pc ls (.int j2 :: .int (0 : Int32) :: .ref b :: .int j1 :: .ref a :: st)) := by
  subst hp e1 e2
  have hn : n < 2147483648 := by obtain ⟨_, _, _, r, _⟩ := F; exact r
  have hn' : n' < 2147483648 := by obtain ⟨_, _, _, r, _⟩ := G; exact r
  obtain ⟨ka, FA⟩ := own_arv F
  obtain ⟨kb, GB⟩ := own_arv G
  obtain ⟨c1, c1'⟩ := own_clamp (i := sp) (by omega)
  obtain ⟨c2, c2'⟩ := own_clamp (i := nn) (by omega)
  obtain ⟨c3, c3'⟩ := own_clamp (i := n) (by omega)
  obtain ⟨c4, c4'⟩ := own_clamp (i := n') (by omega)
  have c0 : (0 : Int32).toNatClampNeg = 0 := rfl
  obtain ⟨T', h', L, X', e', N', K, D, st'⟩ := cpA A.1 A.2.1 hZ hown w1 w2 w3 w4 eT FA GB (Or.inl ⟨rfl, rfl⟩) (sp := Int32.ofNat sp) (dp := (0 : Int32)) (nn := Int32.ofNat nn) c1' (by decide) c2' (by rw [c1, c2, c3]; exact h4) (by rw [c0, c2, c4]; omega) rfl (by rw [c0, c2]; simp; exact h5) N ge (g := mkF m pc ls (.int (Int32.ofNat nn) :: .int (0 : Int32) :: .ref b :: .int (Int32.ofNat sp) :: .ref a :: st)) rfl hsize rfl (hb A.2.2 hd) hf hW hlo
  refine ⟨T', h', L, ⟨X', A.2⟩, e', N', K, ?_, fun k => Go.of st' k⟩
  obtain ⟨cd, D1, -, s1, -, s3, -⟩ := D
  refine ⟨cd, D1, by rw [s1, c4], hn', fun i hi => ?_⟩
  rw [s3 i (by rw [s1, c4]; exact hi), c0, c1, c2]
  exact congrArg some (own_splice x y n n' sp nn i h4 h5 hi)
end own_arr
theorem own_succ (i : Nat) : Int32.ofNat i + Int32.ofInt 1 = Int32.ofNat (i + 1) := by
  show Int32.ofNat i + Int32.ofNat 1 = Int32.ofNat (i + 1)
  rw [Int32.ofNat_add]
theorem own_olt {i n : Nat} (h : i < n) (hn : n < 2147483648) : Int32.ofNat i < Int32.ofNat n := by
  rw [Int32.lt_iff_toInt_lt, Int32.toInt_ofNat_of_lt (by omega), Int32.toInt_ofNat_of_lt hn]; omega
theorem own_onl {i n : Nat} (h : n ≤ i) (hn : i < 2147483648) : ¬ Int32.ofNat i < Int32.ofNat n := by
  rw [Int32.lt_iff_toInt_lt, Int32.toInt_ofNat_of_lt hn, Int32.toInt_ofNat_of_lt (by omega)]; omega
theorem own_osub {i j : Nat} (h : i ≤ j) : Int32.ofNat j - Int32.ofNat i = Int32.ofNat (j - i) := by
  have e : Int32.ofNat j = Int32.ofNat (j - i) + Int32.ofNat i := by rw [← Int32.ofNat_add]; congr 1; omega
  rw [e, Int32.add_sub_cancel]
theorem own_oinj {i j : Nat} (hi : i < 2147483648) (hj : j < 2147483648) (h : Int32.ofNat i = Int32.ofNat j) : i = j := by
  have e := congrArg Int32.toInt h
  rw [Int32.toInt_ofNat_of_lt hi, Int32.toInt_ofNat_of_lt hj] at e; omega
theorem own_pred {b : Nat} (h : 0 < b) : Int32.ofNat b - (1 : Int32) = Int32.ofNat (b - 1) := own_osub (i := 1) h
theorem own_pred' {b : Nat} (h : 0 < b) : Int32.ofNat b + Int32.ofInt (-1) = Int32.ofNat (b - 1) := by
  rw [← own_pred h, Int32.sub_eq_add_neg]; rfl
theorem own_ncl {u w N : Nat} (h : ¬ (u = 0 ∧ w = N)) (hw : w ≤ N) (hN : N < 2147483648) (hu : u ≤ w) (q : Int32.ofNat u = 0) : ¬ Int32.ofNat w = Int32.ofNat N := fun z => h ⟨own_oinj (j := 0) (by omega) (by omega) q, own_oinj (by omega) hN z⟩
/-- the double is a zero -/
abbrev own_zr (x : UInt64) : Prop := FP.dcmp x (0 : UInt64) = some .eq
/-- a, b: what the two searches find between F and E -/
def own_S (x : Nat → UInt64) (F E a b : Nat) : Prop := F ≤ a ∧ a ≤ b ∧ b ≤ E ∧ (∀ k, F ≤ k → k < a → own_zr (x k)) ∧ (∀ k, b ≤ k → k < E → own_zr (x k)) ∧ (a < b → ¬ own_zr (x a) ∧ ¬ own_zr (x (b - 1)))
def own_s (a b F : Nat) : Int32 := if Int32.ofNat a < Int32.ofNat b then (((0 : Int32) + Int32.ofNat a) - Int32.ofNat F) else (0 : Int32)
theorem d9_0 : decode jdk_65_method_131_code 0 = .ok (.iload_n 1, 1) := by decide +kernel
theorem d9_1 : decode jdk_65_method_131_code 1 = .ok (.iload_n 0, 1) := by decide +kernel
theorem d9_2 : decode jdk_65_method_131_code 2 = .ok (.if_icmp .ge 35, 3) := by decide +kernel
theorem d9_5 : decode jdk_65_method_131_code 5 = .ok (.new 43, 3) := by decide +kernel
theorem d9_8 : decode jdk_65_method_131_code 8 = .ok (.dup, 1) := by decide +kernel
theorem d9_9 : decode jdk_65_method_131_code 9 = .ok (.new 45, 3) := by decide +kernel
theorem d9_12 : decode jdk_65_method_131_code 12 = .ok (.dup, 1) := by decide +kernel
theorem d9_13 : decode jdk_65_method_131_code 13 = .ok (.invokespecial 47, 3) := by decide +kernel
theorem d9_16 : decode jdk_65_method_131_code 16 = .ok (.iload_n 0, 1) := by decide +kernel
theorem d9_17 : decode jdk_65_method_131_code 17 = .ok (.invokevirtual 54, 3) := by decide +kernel
theorem d9_20 : decode jdk_65_method_131_code 20 = .ok (.ldc_w 337, 3) := by decide +kernel
theorem d9_23 : decode jdk_65_method_131_code 23 = .ok (.invokevirtual 50, 3) := by decide +kernel
theorem d9_26 : decode jdk_65_method_131_code 26 = .ok (.iload_n 1, 1) := by decide +kernel
theorem d9_27 : decode jdk_65_method_131_code 27 = .ok (.invokevirtual 54, 3) := by decide +kernel
theorem d9_30 : decode jdk_65_method_131_code 30 = .ok (.invokevirtual 61, 3) := by decide +kernel
theorem d9_33 : decode jdk_65_method_131_code 33 = .ok (.invokespecial 65, 3) := by decide +kernel
theorem d9_36 : decode jdk_65_method_131_code 36 = .ok (.athrow, 1) := by decide +kernel
theorem d9_37 : decode jdk_65_method_131_code 37 = .ok (.return_, 1) := by decide +kernel
theorem pn_0 : plainName "java/util/Arrays" = true := by first | (simp [plainName, overriddenIn]; done) | decide +kernel
theorem ef1 (m : MethodId) (q0 : Int32) (q1 : Int32) : entryFrame m #[(.int q0), (.int q1)] 2 = mkF m 0 #[.val (.int q0), .val (.int q1)] [] := by first | (simp [entryFrame, mkF, argsToLocals, Value.category]; done) | rfl
def Q9 (Z : State) (q0 : Int32) (q1 : Int32) (h0 : Heap) (n0 : Nat) (v : Option Value) (h : Heap) (L : List Loc) : Prop := v = none ∧ Fr n0 L ∧ h = h0
set_option maxRecDepth 65536 in
set_option maxHeartbeats 40000000 in
theorem rm9 (l : Launch) (Z : State) (a0 : Array Value) (hw : ∀ d ∈ tables_1, d.before a0 Z = true) (ws : List Jvm.Cond) (q0 : Int32) (q1 : Int32) (h0 : Heap) (n0 : Nat) (Z0 : n0 ≤ h0.size) (h1 : ¬ q1 < q0) :
    MetFree l (⟨"java/util/Arrays", "checkLength", "(II)V"⟩ : MethodName) (head1 (Jvm.Cond.code (⟨"java/util/Arrays", "checkLength", "(II)V"⟩ : MethodName) jdk_65_method_131_code 2 none :: ws) ({ frames := 0, cells := 0, slots := 0, locals := 0 } : Room)) (fun a U => a = #[(.int q0), (.int q1)] ∧ Z.Warmed39 U.vm ∧ U.heap = h0) (fun _ _ _ _ _ => True) (fun _ U o U' => ∃ v L, o = .returned v ∧ Q9 Z q0 q1 h0 n0 v U'.heap L ∧ FrameEnd U o U' L 0 0) := by
  refine MetFree.of_bodySF (plainFor_of_name pn_0) hisR ?_
  intro p e s m args below meth c s₁ Bd hml0 hP hK
  obtain ⟨rfl, hZ, hh⟩ := hP
  have hx := Bd.exec
  have hby := Bd.bytes
  have hml : c.maxLocals = 2 := hml0
  have hown : s.vm.findClass "java/util/Arrays" = some m.cls := findClass_of_methodNamed Bd.named
  have hnm := (name_of_methodNamed Bd.named Bd.method).1
  have X0 : Stand p l e ({ frames := 0, cells := 0, slots := 0, locals := 0 } : Room) s m #[(.int q0), (.int q1)] below meth c s₁ [] 0 0 := Stand.of_body Bd
  have e0 : s₁.heap = h0 := by rw [← hh, Bd.state]; rfl
  have N0 := Fr.nil n0
  have A0 := (⟨X0, hx, hby⟩ : Ax _ _ _ _ _ _ _ _ _ _ _ _ _ _ _)
  show Go p e below (fun U o => ∃ v L, o = .returned v ∧ Q9 Z q0 q1 h0 n0 v U.heap L ∧ FrameEnd s o U L 0 0) s₁ (entryFrame m #[(.int q0), (.int q1)] 2)
  refine Go.cast (ef1 m q0 q1) ?_
  refine g_iloadN A0 d9_0 rfl (pc' := 1) rfl ?_
  refine g_iloadN A0 d9_1 rfl (pc' := 2) rfl ?_
  refine g_icY A0 d9_2 (c2_ge_t h1) (pc' := 37) rfl ?_
  exact g_retV (Q := Q9 Z q0 q1 h0 n0) A0 d9_37 Bd.notSynchronized Bd.returns (by decide) (by decide) (by rw [e0]; exact ⟨rfl, N0, rfl⟩)
theorem d10_0 : decode jdk_29_method_69_code 0 = .ok (.iload_n 0, 1) := by decide +kernel
theorem d10_1 : decode jdk_29_method_69_code 1 = .ok (.iload_n 1, 1) := by decide +kernel
theorem d10_2 : decode jdk_29_method_69_code 2 = .ok (.if_icmp .gt 7, 3) := by decide +kernel
theorem d10_5 : decode jdk_29_method_69_code 5 = .ok (.iload_n 0, 1) := by decide +kernel
theorem d10_6 : decode jdk_29_method_69_code 6 = .ok (.goto 4, 3) := by decide +kernel
theorem d10_9 : decode jdk_29_method_69_code 9 = .ok (.iload_n 1, 1) := by decide +kernel
theorem d10_10 : decode jdk_29_method_69_code 10 = .ok (.ireturn, 1) := by decide +kernel
theorem ef2 (m : MethodId) (u : Nat) (w : Nat) : entryFrame m #[(.int (Int32.ofNat u)), (.int (Int32.ofNat w))] 2 = mkF m 0 #[.val (.int (Int32.ofNat u)), .val (.int (Int32.ofNat w))] [] := by first | (simp [entryFrame, mkF, argsToLocals, Value.category]; done) | rfl
def Q10 (Z : State) (u : Nat) (w : Nat) (h0 : Heap) (n0 : Nat) (v : Option Value) (h : Heap) (L : List Loc) : Prop := v = some (.int (Int32.ofNat w)) ∧ Fr n0 L ∧ h = h0
set_option maxRecDepth 65536 in
set_option maxHeartbeats 40000000 in
theorem rm10 (l : Launch) (Z : State) (a0 : Array Value) (hw : ∀ d ∈ tables_1, d.before a0 Z = true) (ws : List Jvm.Cond) (u : Nat) (w : Nat) (h0 : Heap) (n0 : Nat) (Z0 : n0 ≤ h0.size) (h1 : w ≤ u) (h2 : u < 2147483648) :
    MetFree l (⟨"java/lang/Math", "min", "(II)I"⟩ : MethodName) (head1 (Jvm.Cond.code (⟨"java/lang/Math", "min", "(II)I"⟩ : MethodName) jdk_29_method_69_code 2 (some .int) :: ws) ({ frames := 0, cells := 0, slots := 0, locals := 0 } : Room)) (fun a U => a = #[(.int (Int32.ofNat u)), (.int (Int32.ofNat w))] ∧ Z.Warmed39 U.vm ∧ U.heap = h0) (fun _ _ _ _ _ => True) (fun _ U o U' => ∃ v L, o = .returned v ∧ Q10 Z u w h0 n0 v U'.heap L ∧ FrameEnd U o U' L 0 0) := by
  refine MetFree.of_bodySF (by decide +kernel) hisR ?_
  intro p e s m args below meth c s₁ Bd hml0 hP hK
  obtain ⟨rfl, hZ, hh⟩ := hP
  have hx := Bd.exec
  have hby := Bd.bytes
  have hml : c.maxLocals = 2 := hml0
  have hown : s.vm.findClass "java/lang/Math" = some m.cls := findClass_of_methodNamed Bd.named
  have hnm := (name_of_methodNamed Bd.named Bd.method).1
  have X0 : Stand p l e ({ frames := 0, cells := 0, slots := 0, locals := 0 } : Room) s m #[(.int (Int32.ofNat u)), (.int (Int32.ofNat w))] below meth c s₁ [] 0 0 := Stand.of_body Bd
  have e0 : s₁.heap = h0 := by rw [← hh, Bd.state]; rfl
  have N0 := Fr.nil n0
  have A0 := (⟨X0, hx, hby⟩ : Ax _ _ _ _ _ _ _ _ _ _ _ _ _ _ _)
  show Go p e below (fun U o => ∃ v L, o = .returned v ∧ Q10 Z u w h0 n0 v U.heap L ∧ FrameEnd s o U L 0 0) s₁ (entryFrame m #[(.int (Int32.ofNat u)), (.int (Int32.ofNat w))] 2)
  refine Go.cast (ef2 m u w) ?_
  refine g_iloadN A0 d10_0 rfl (pc' := 1) rfl ?_
  refine g_iloadN A0 d10_1 rfl (pc' := 2) rfl ?_
  by_cases hcm : (Int32.ofNat w) < (Int32.ofNat u)
  · skip
    refine g_icY A0 d10_2 (c2_gt_t hcm) (pc' := 9) rfl ?_
    refine g_iloadN A0 d10_9 rfl (pc' := 10) rfl ?_
    exact g_ret (Q := Q10 Z u w h0 n0) A0 d10_10 Bd.notSynchronized Bd.returns rfl (Or.inl ⟨rfl, by simp, _, rfl⟩) (by decide) (by decide) (by rw [e0]; exact ⟨rfl, N0, rfl⟩)
  · skip
    have euw : u = w := Nat.le_antisymm (Nat.le_of_not_lt fun z => hcm (own_olt z h2)) h1
    refine g_icN A0 d10_2 (c2_gt_f hcm) (pc' := 5) rfl ?_
    refine g_iloadN A0 d10_5 rfl (pc' := 6) rfl ?_
    refine g_goto A0 d10_6 (pc' := 10) rfl ?_
    exact g_ret (Q := Q10 Z u w h0 n0) A0 d10_10 Bd.notSynchronized Bd.returns rfl (Or.inl ⟨rfl, by simp, _, rfl⟩) (by decide) (by decide) (by rw [e0]; exact ⟨(by rw [euw]), N0, rfl⟩)
theorem d8_0 : decode jdk_65_method_145_code 0 = .ok (.iload_n 1, 1) := by decide +kernel
theorem d8_1 : decode jdk_65_method_145_code 1 = .ok (.iload_n 2, 1) := by decide +kernel
theorem d8_2 : decode jdk_65_method_145_code 2 = .ok (.invokestatic 343, 3) := by decide +kernel
theorem d8_5 : decode jdk_65_method_145_code 5 = .ok (.iload_n 2, 1) := by decide +kernel
theorem d8_6 : decode jdk_65_method_145_code 6 = .ok (.iload_n 1, 1) := by decide +kernel
theorem d8_7 : decode jdk_65_method_145_code 7 = .ok (.isub, 1) := by decide +kernel
theorem d8_8 : decode jdk_65_method_145_code 8 = .ok (.istore_n 3, 1) := by decide +kernel
theorem d8_9 : decode jdk_65_method_145_code 9 = .ok (.iload_n 3, 1) := by decide +kernel
theorem d8_10 : decode jdk_65_method_145_code 10 = .ok (.newarray .double, 2) := by decide +kernel
theorem d8_12 : decode jdk_65_method_145_code 12 = .ok (.astore 4, 2) := by decide +kernel
theorem d8_14 : decode jdk_65_method_145_code 14 = .ok (.aload_n 0, 1) := by decide +kernel
theorem d8_15 : decode jdk_65_method_145_code 15 = .ok (.iload_n 1, 1) := by decide +kernel
theorem d8_16 : decode jdk_65_method_145_code 16 = .ok (.aload 4, 2) := by decide +kernel
theorem d8_18 : decode jdk_65_method_145_code 18 = .ok (.iconst 0, 1) := by decide +kernel
theorem d8_19 : decode jdk_65_method_145_code 19 = .ok (.aload_n 0, 1) := by decide +kernel
theorem d8_20 : decode jdk_65_method_145_code 20 = .ok (.arraylength, 1) := by decide +kernel
theorem d8_21 : decode jdk_65_method_145_code 21 = .ok (.iload_n 1, 1) := by decide +kernel
theorem d8_22 : decode jdk_65_method_145_code 22 = .ok (.isub, 1) := by decide +kernel
theorem d8_23 : decode jdk_65_method_145_code 23 = .ok (.iload_n 3, 1) := by decide +kernel
theorem d8_24 : decode jdk_65_method_145_code 24 = .ok (.invokestatic 304, 3) := by decide +kernel
theorem d8_27 : decode jdk_65_method_145_code 27 = .ok (.invokestatic 150, 3) := by decide +kernel
theorem d8_30 : decode jdk_65_method_145_code 30 = .ok (.aload 4, 2) := by decide +kernel
theorem d8_32 : decode jdk_65_method_145_code 32 = .ok (.areturn, 1) := by decide +kernel
theorem ef3 (m : MethodId) (va : Addr) (u : Nat) (w : Nat) (N : Nat) (x : Nat → UInt64) : entryFrame m #[(.ref va), (.int (Int32.ofNat u)), (.int (Int32.ofNat w))] 5 = mkF m 0 #[.val (.ref va), .val (.int (Int32.ofNat u)), .val (.int (Int32.ofNat w)), .unset, .unset] [] := by first | (simp [entryFrame, mkF, argsToLocals, Value.category]; done) | rfl
def Q8 (Z : State) (va : Addr) (u : Nat) (w : Nat) (N : Nat) (x : Nat → UInt64) (h0 : Heap) (n0 : Nat) (v : Option Value) (h : Heap) (L : List Loc) : Prop := ∃ r : Addr, v = some (.ref r) ∧ Fr n0 L ∧ Keep h0 h [] ∧ h0.size ≤ r ∧ Exa Z h r "[D" ∧ Dar Z h r .double (w - u) (fun t => .double (x (u + t)))
theorem pd_0 : parseMethodDescriptor "(II)V" = some ⟨[.int, .int], none⟩ := by decide +kernel
theorem pd_1 : parseMethodDescriptor "(II)I" = some ⟨[.int, .int], some .int⟩ := by decide +kernel
set_option maxRecDepth 65536 in
set_option maxHeartbeats 40000000 in
theorem rm8 (l : Launch) (Z : State) (a0 : Array Value) (hw : ∀ d ∈ tables_1, d.before a0 Z = true) (ws : List Jvm.Cond) (va : Addr) (u : Nat) (w : Nat) (N : Nat) (x : Nat → UInt64) (h0 : Heap) (n0 : Nat) (Z0 : n0 ≤ h0.size) (V4 : Dar Z h0 va .double N (fun t => .double (x t))) (hu : u ≤ w) (hwN : w ≤ N) (hN : N < 2147483648) (hc : w - u ≤ 4) :
    MetFree l (⟨"java/util/Arrays", "copyOfRangeDouble", "([DII)[D"⟩ : MethodName) (head1 (Jvm.Cond.code (⟨"java/util/Arrays", "copyOfRangeDouble", "([DII)[D"⟩ : MethodName) jdk_65_method_145_code 5 (some (.array .double)) :: ws) ({ frames := 1, cells := 1, slots := 4, locals := 18 } : Room)) (fun a U => a = #[(.ref va), (.int (Int32.ofNat u)), (.int (Int32.ofNat w))] ∧ Z.Warmed39 U.vm ∧ U.heap = h0) (fun _ _ _ _ _ => True) (fun _ U o U' => ∃ v L, o = .returned v ∧ Q8 Z va u w N x h0 n0 v U'.heap L ∧ FrameEnd U o U' L 1 4) := by
  refine MetFree.of_bodySF (plainFor_of_name pn_0) hisR ?_
  intro p e s m args below meth c s₁ Bd hml0 hP hK
  obtain ⟨rfl, hZ, hh⟩ := hP
  have hx := Bd.exec
  have hby := Bd.bytes
  have hml : c.maxLocals = 5 := hml0
  have hown : s.vm.findClass "java/util/Arrays" = some m.cls := findClass_of_methodNamed Bd.named
  have hnm := (name_of_methodNamed Bd.named Bd.method).1
  have X0 : Stand p l e ({ frames := 1, cells := 1, slots := 4, locals := 18 } : Room) s m #[(.ref va), (.int (Int32.ofNat u)), (.int (Int32.ofNat w))] below meth c s₁ [] 0 0 := Stand.of_body Bd
  have e0 : s₁.heap = h0 := by rw [← hh, Bd.state]; rfl
  have N0 := Fr.nil n0
  have A0 := (⟨X0, hx, hby⟩ : Ax _ _ _ _ _ _ _ _ _ _ _ _ _ _ _)
  show Go p e below (fun U o => ∃ v L, o = .returned v ∧ Q8 Z va u w N x h0 n0 v U.heap L ∧ FrameEnd s o U L 1 4) s₁ (entryFrame m #[(.ref va), (.int (Int32.ofNat u)), (.int (Int32.ofNat w))] 5)
  refine Go.cast (ef3 m va u w N x) ?_
  refine g_iloadN A0 d8_0 rfl (pc' := 1) rfl ?_
  refine g_iloadN A0 d8_1 rfl (pc' := 2) rfl ?_
  have hp5 : ¬ (Int32.ofNat w) < (Int32.ofNat u) := (own_onl hu (by omega))
  obtain ⟨vv6, _, ⟨T6, L6, k6, n6⟩, -, X6, ⟨L6c, hQ6, l6, y6, z6⟩, st6⟩ := Jvm.LawKit.callS X0 hx (y := (⟨"java/util/Arrays", "checkLength", "(II)V"⟩ : MethodName)) hown (mvT hZ (hw _ (List.mem_of_getElem? (i := 46) rfl))) (mvT hZ (hw _ (List.mem_of_getElem? (i := 47) rfl))) (mvT hZ (hw _ (List.mem_of_getElem? (i := 41) rfl))) (mvT hZ (hw _ (List.mem_of_getElem? (i := 48) rfl))) (by decide) (backOf (W := 0) (rm9 l Z a0 hw [] (Int32.ofNat u) (Int32.ofNat w) h0 n0 Z0 hp5) hZ (hw _ (List.mem_of_getElem? (i := 48) rfl)) (hw _ (List.mem_of_getElem? (i := 41) rfl)) (by decide) (by decide)) (g := (mkF m 2 #[.val (.ref va), .val (.int (Int32.ofNat u)), .val (.int (Int32.ofNat w)), .unset, .unset] [(.int (Int32.ofNat w)), (.int (Int32.ofNat u))])) rfl (by rw [hml]; rfl) (argsL := [(.int (Int32.ofNat u)), (.int (Int32.ofNat w))]) (rest := []) (lenOf pd_0 rfl) rfl (by show 2 * 0 + _ ≤ _; exact Nat.le_of_eq rfl) (hb hby d8_2) (fun _ _ => ⟨rfl, e0, (by decide : 0 + 0 ≤ _), (by decide : 0 + 0 ≤ _)⟩)
  have hQ6b : Q9 Z (Int32.ofNat u) (Int32.ofNat w) h0 n0 vv6 T6.heap L6c := hQ6
  clear hQ6
  dsimp only [Pt.U, Pt.locs, Pt.cells, Pt.slots] at X6 l6 y6 z6 st6
  subst y6 z6
  obtain ⟨rfl, Nq7, Kq8⟩ := hQ6b
  have N9 : Fr n0 L6 := by rw [l6]; exact Fr.app N0 Nq7
  refine Go.of (g' := (mkF m 5 #[.val (.ref va), .val (.int (Int32.ofNat u)), .val (.int (Int32.ofNat w)), .unset, .unset] [])) st6 ?_
  have e10 : T6.heap = h0 := Kq8
  have A11 := (⟨X6, hx, hby⟩ : Ax _ _ _ _ _ _ _ _ _ _ _ _ _ _ _)
  refine g_iloadN A11 d8_5 rfl (pc' := 6) rfl ?_
  refine g_iloadN A11 d8_6 rfl (pc' := 7) rfl ?_
  refine g_isub A11 d8_7 (pc' := 8) rfl ?_
  rw [own_osub hu]
  refine g_istoreN A11 d8_8 (ls' := #[.val (.ref va), .val (.int (Int32.ofNat u)), .val (.int (Int32.ofNat w)), .val (.int (Int32.ofNat (w - u))), .unset]) rfl (pc' := 9) rfl ?_
  refine g_iloadN A11 d8_9 rfl (pc' := 10) rfl ?_
  obtain ⟨T12, h12, k12, X12, e12, E12, Ar12, Ex12, st12⟩ := newPE X6 hx hZ (hw _ (List.mem_of_getElem? (i := 0) rfl)) e10 (g := (mkF m 10 #[.val (.ref va), .val (.int (Int32.ofNat u)), .val (.int (Int32.ofNat w)), .val (.int (Int32.ofNat (w - u))), .unset] [(.int (Int32.ofNat (w - u)))])) rfl (hb hby d8_10) rfl (own_clamp (by omega)).2 (cap := 4) (by rw [(own_clamp (i := w - u) (by omega)).1]; omega) (by decide) (by decide) (by decide) (ad := "[D") rfl
  obtain ⟨b13, eb13⟩ : ∃ z, z = h0.size := ⟨_, rfl⟩
  rw [← eb13] at Ar12 st12 Ex12
  have ne14 : va ≠ b13 := own_ne eb13 V4.lt
  have g15 : n0 ≤ b13 := by rw [eb13]; exact Z0
  have gh16 : h0.size ≤ b13 := by rw [eb13]; exact (Keep.refl h0 []).1
  have K17 : Keep h0 h12 [] := (Keep.refl h0 []).ext E12
  have V18 : Dar Z h12 va .double N (fun t => .double (x t)) := Dar.ext E12 V4
  have Z19 : n0 ≤ h12.size := Nat.le_trans Z0 E12.1
  have V20 : Dar Z h12 b13 .double (w - u) (fun _ => .double (0 : UInt64)) := Dar.new Ar12 (own_clamp (by omega)).1
  refine Go.of (g' := (mkF m 12 #[.val (.ref va), .val (.int (Int32.ofNat u)), .val (.int (Int32.ofNat w)), .val (.int (Int32.ofNat (w - u))), .unset] [(.ref b13)])) st12 ?_
  have A21 := (⟨X12, hx, hby⟩ : Ax _ _ _ _ _ _ _ _ _ _ _ _ _ _ _)
  refine g_astore A21 d8_12 rfl (ls' := #[.val (.ref va), .val (.int (Int32.ofNat u)), .val (.int (Int32.ofNat w)), .val (.int (Int32.ofNat (w - u))), .val (.ref b13)]) rfl (pc' := 14) rfl ?_
  refine g_aloadN A21 d8_14 rfl rfl (pc' := 15) rfl ?_
  refine g_iloadN A21 d8_15 rfl (pc' := 16) rfl ?_
  refine g_aload A21 d8_16 rfl rfl (pc' := 18) rfl ?_
  refine g_iconst A21 d8_18 (v := (0 : Int32)) rfl (pc' := 19) rfl ?_
  refine g_aloadN A21 d8_19 rfl rfl (pc' := 20) rfl ?_
  refine g_alen A21 hZ e12 V18 d8_20 (z := (Int32.ofNat N)) rfl (pc' := 21) rfl ?_
  refine g_iloadN A21 d8_21 rfl (pc' := 22) rfl ?_
  refine g_isub A21 d8_22 (pc' := 23) rfl ?_
  rw [own_osub (show u ≤ N by omega)]
  refine g_iloadN A21 d8_23 rfl (pc' := 24) rfl ?_
  have hp22 : (w - u) ≤ (N - u) := (by omega)
  have hp23 : (N - u) < 2147483648 := (by omega)
  obtain ⟨vv24, _, ⟨T24, L24, k24, n24⟩, -, X24, ⟨L24c, hQ24, l24, y24, z24⟩, st24⟩ := Jvm.LawKit.callS X12 hx (y := (⟨"java/lang/Math", "min", "(II)I"⟩ : MethodName)) hown (mvT hZ (hw _ (List.mem_of_getElem? (i := 49) rfl))) (mvT hZ (hw _ (List.mem_of_getElem? (i := 50) rfl))) (mvT hZ (hw _ (List.mem_of_getElem? (i := 51) rfl))) (mvT hZ (hw _ (List.mem_of_getElem? (i := 52) rfl))) (by decide) (backOf (W := 4) (rm10 l Z a0 hw [] (N - u) (w - u) h12 n0 Z19 hp22 hp23) hZ (hw _ (List.mem_of_getElem? (i := 52) rfl)) (hw _ (List.mem_of_getElem? (i := 51) rfl)) (by decide) (by decide)) (g := (mkF m 24 #[.val (.ref va), .val (.int (Int32.ofNat u)), .val (.int (Int32.ofNat w)), .val (.int (Int32.ofNat (w - u))), .val (.ref b13)] [(.int (Int32.ofNat (w - u))), (.int (Int32.ofNat (N - u))), (.int (0 : Int32)), (.ref b13), (.int (Int32.ofNat u)), (.ref va)])) rfl (by rw [hml]; rfl) (argsL := [(.int (Int32.ofNat (N - u))), (.int (Int32.ofNat (w - u)))]) (rest := [(.int (0 : Int32)), (.ref b13), (.int (Int32.ofNat u)), (.ref va)]) (lenOf pd_1 rfl) rfl (by show 2 * 0 + _ ≤ _; exact Nat.le_of_eq rfl) (hb hby d8_24) (fun _ _ => ⟨rfl, e12, (by decide : 1 + 0 ≤ _), (by decide : 4 + 0 ≤ _)⟩)
  have hQ24b : Q10 Z (N - u) (w - u) h12 n0 vv24 T24.heap L24c := hQ24
  clear hQ24
  dsimp only [Pt.U, Pt.locs, Pt.cells, Pt.slots] at X24 l24 y24 z24 st24
  subst y24 z24
  obtain ⟨rfl, Nq25, Kq26⟩ := hQ24b
  have N27 : Fr n0 L24 := by rw [l24]; exact Fr.app N9 Nq25
  refine Go.of (g' := (mkF m 27 #[.val (.ref va), .val (.int (Int32.ofNat u)), .val (.int (Int32.ofNat w)), .val (.int (Int32.ofNat (w - u))), .val (.ref b13)] [(.int (Int32.ofNat (w - u))), (.int (0 : Int32)), (.ref b13), (.int (Int32.ofNat u)), (.ref va)])) st24 ?_
  have e28 : T24.heap = h12 := Kq26
  have A29 := (⟨X24, hx, hby⟩ : Ax _ _ _ _ _ _ _ _ _ _ _ _ _ _ _)
  obtain ⟨T30, h30, L30, A30, e30, N30, K30, V30, st30⟩ := s_acopy A29 hZ e28 hown (hw _ (List.mem_of_getElem? (i := 53) rfl)) (hw _ (List.mem_of_getElem? (i := 56) rfl)) (hw _ (List.mem_of_getElem? (i := 54) rfl)) (hw _ (List.mem_of_getElem? (i := 55) rfl)) (ls := #[.val (.ref va), .val (.int (Int32.ofNat u)), .val (.int (Int32.ofNat w)), .val (.int (Int32.ofNat (w - u))), .val (.ref b13)]) (st := []) (x := x) (y := (fun _ => (0 : UInt64))) V18 V20 (sp := u) (nn := (w - u)) (by omega) (Nat.le_refl _) N27 g15 (j1 := (Int32.ofNat u)) (j2 := (Int32.ofNat (w - u))) rfl rfl (by rw [hml]; rfl) d8_27 (pc' := 30) rfl (by decide) (W := 0) (Nat.le_of_eq rfl) (by decide)
  have V31 : Dar Z h30 va .double N (fun t => .double (x t)) := Dar.keep V18 K30 (ninS ne14 nin0)
  have E32 : Exa Z h30 b13 "[D" := Exa.keep Ex12 K30
  have Z33 : n0 ≤ h30.size := Nat.le_trans Z19 K30.1
  have K34 : Keep h0 h30 [] := K17.trans K30 (allS (Or.inr gh16) all0)
  refine st30 ?_
  refine g_aload A30 d8_30 rfl rfl (pc' := 32) rfl ?_
  have V35 : Dar Z h30 b13 .double (w - u) (fun t => .double (x (u + t))) := Dar.congr V30 (fun t ht => congrArg Value.double (if_pos ht))
  exact g_ret (Q := Q8 Z va u w N x h0 n0) A30 d8_32 Bd.notSynchronized Bd.returns rfl (Or.inr (Or.inr (Or.inr (Or.inr ⟨rfl, rfl, rfl⟩)))) (by decide) (by decide) (by rw [e30]; exact ⟨b13, rfl, N30, K34, gh16, E32, V35⟩)
theorem d7_0 : decode jdk_65_method_144_code 0 = .ok (.iload_n 1, 1) := by decide +kernel
theorem d7_1 : decode jdk_65_method_144_code 1 = .ok (.ifCond .ne 9, 3) := by decide +kernel
theorem d7_4 : decode jdk_65_method_144_code 4 = .ok (.iload_n 2, 1) := by decide +kernel
theorem d7_5 : decode jdk_65_method_144_code 5 = .ok (.aload_n 0, 1) := by decide +kernel
theorem d7_6 : decode jdk_65_method_144_code 6 = .ok (.arraylength, 1) := by decide +kernel
theorem d7_7 : decode jdk_65_method_144_code 7 = .ok (.if_icmp .eq 10, 3) := by decide +kernel
theorem d7_10 : decode jdk_65_method_144_code 10 = .ok (.aload_n 0, 1) := by decide +kernel
theorem d7_11 : decode jdk_65_method_144_code 11 = .ok (.iload_n 1, 1) := by decide +kernel
theorem d7_12 : decode jdk_65_method_144_code 12 = .ok (.iload_n 2, 1) := by decide +kernel
theorem d7_13 : decode jdk_65_method_144_code 13 = .ok (.invokestatic 367, 3) := by decide +kernel
theorem d7_16 : decode jdk_65_method_144_code 16 = .ok (.areturn, 1) := by decide +kernel
theorem d7_17 : decode jdk_65_method_144_code 17 = .ok (.aload_n 0, 1) := by decide +kernel
theorem d7_18 : decode jdk_65_method_144_code 18 = .ok (.invokevirtual 328, 3) := by decide +kernel
theorem d7_21 : decode jdk_65_method_144_code 21 = .ok (.checkcast 329, 3) := by decide +kernel
theorem d7_24 : decode jdk_65_method_144_code 24 = .ok (.areturn, 1) := by decide +kernel
theorem ef36 (m : MethodId) (va : Addr) (u : Nat) (w : Nat) (N : Nat) (x : Nat → UInt64) : entryFrame m #[(.ref va), (.int (Int32.ofNat u)), (.int (Int32.ofNat w))] 3 = mkF m 0 #[.val (.ref va), .val (.int (Int32.ofNat u)), .val (.int (Int32.ofNat w))] [] := by first | (simp [entryFrame, mkF, argsToLocals, Value.category]; done) | rfl
def Q7 (Z : State) (va : Addr) (u : Nat) (w : Nat) (N : Nat) (x : Nat → UInt64) (h0 : Heap) (n0 : Nat) (v : Option Value) (h : Heap) (L : List Loc) : Prop := ∃ r : Addr, v = some (.ref r) ∧ Fr n0 L ∧ Keep h0 h [] ∧ h0.size ≤ r ∧ Exa Z h r "[D" ∧ Dar Z h r .double (w - u) (fun t => .double (x (u + t)))
theorem pd_2 : parseMethodDescriptor "([DII)[D" = some ⟨[(.array .double), .int, .int], some (.array .double)⟩ := by decide +kernel
set_option maxRecDepth 65536 in
set_option maxHeartbeats 40000000 in
theorem rm7 (l : Launch) (Z : State) (a0 : Array Value) (hw : ∀ d ∈ tables_1, d.before a0 Z = true) (ws : List Jvm.Cond) (va : Addr) (u : Nat) (w : Nat) (N : Nat) (x : Nat → UInt64) (h0 : Heap) (n0 : Nat) (Z0 : n0 ≤ h0.size) (V37 : Dar Z h0 va .double N (fun t => .double (x t))) (hu : u ≤ w) (hwN : w ≤ N) (hN : N < 2147483648) (hc : w - u ≤ 4) (hcl : ¬ (u = 0 ∧ w = N)) :
    MetFree l (⟨"java/util/Arrays", "copyOfRange", "([DII)[D"⟩ : MethodName) (head1 (Jvm.Cond.code (⟨"java/util/Arrays", "copyOfRange", "([DII)[D"⟩ : MethodName) jdk_65_method_144_code 3 (some (.array .double)) :: ws) ({ frames := 2, cells := 1, slots := 4, locals := 34 } : Room)) (fun a U => a = #[(.ref va), (.int (Int32.ofNat u)), (.int (Int32.ofNat w))] ∧ Z.Warmed39 U.vm ∧ U.heap = h0) (fun _ _ _ _ _ => True) (fun _ U o U' => ∃ v L, o = .returned v ∧ Q7 Z va u w N x h0 n0 v U'.heap L ∧ FrameEnd U o U' L 1 4) := by
  refine MetFree.of_bodySF (plainFor_of_name pn_0) hisR ?_
  intro p e s m args below meth c s₁ Bd hml0 hP hK
  obtain ⟨rfl, hZ, hh⟩ := hP
  have hx := Bd.exec
  have hby := Bd.bytes
  have hml : c.maxLocals = 3 := hml0
  have hown : s.vm.findClass "java/util/Arrays" = some m.cls := findClass_of_methodNamed Bd.named
  have hnm := (name_of_methodNamed Bd.named Bd.method).1
  have X0 : Stand p l e ({ frames := 2, cells := 1, slots := 4, locals := 34 } : Room) s m #[(.ref va), (.int (Int32.ofNat u)), (.int (Int32.ofNat w))] below meth c s₁ [] 0 0 := Stand.of_body Bd
  have e0 : s₁.heap = h0 := by rw [← hh, Bd.state]; rfl
  have N0 := Fr.nil n0
  have A0 := (⟨X0, hx, hby⟩ : Ax _ _ _ _ _ _ _ _ _ _ _ _ _ _ _)
  show Go p e below (fun U o => ∃ v L, o = .returned v ∧ Q7 Z va u w N x h0 n0 v U.heap L ∧ FrameEnd s o U L 1 4) s₁ (entryFrame m #[(.ref va), (.int (Int32.ofNat u)), (.int (Int32.ofNat w))] 3)
  refine Go.cast (ef36 m va u w N x) ?_
  refine g_iloadN A0 d7_0 rfl (pc' := 1) rfl ?_
  by_cases hc38 : (Int32.ofNat u) = 0
  · skip
    refine g_ifN A0 d7_1 (c0_ne_f hc38) (pc' := 4) rfl ?_
    refine g_iloadN A0 d7_4 rfl (pc' := 5) rfl ?_
    refine g_aloadN A0 d7_5 rfl rfl (pc' := 6) rfl ?_
    refine g_alen A0 hZ e0 V37 d7_6 (z := (Int32.ofNat N)) rfl (pc' := 7) rfl ?_
    refine g_icN A0 d7_7 (c2_eq_f (own_ncl hcl hwN hN hu hc38)) (pc' := 10) rfl ?_
    refine g_aloadN A0 d7_10 rfl rfl (pc' := 11) rfl ?_
    refine g_iloadN A0 d7_11 rfl (pc' := 12) rfl ?_
    refine g_iloadN A0 d7_12 rfl (pc' := 13) rfl ?_
    obtain ⟨vv39, _, ⟨T39, L39, k39, n39⟩, -, X39, ⟨L39c, hQ39, l39, y39, z39⟩, st39⟩ := Jvm.LawKit.callS X0 hx (y := (⟨"java/util/Arrays", "copyOfRangeDouble", "([DII)[D"⟩ : MethodName)) hown (mvT hZ (hw _ (List.mem_of_getElem? (i := 43) rfl))) (mvT hZ (hw _ (List.mem_of_getElem? (i := 44) rfl))) (mvT hZ (hw _ (List.mem_of_getElem? (i := 41) rfl))) (mvT hZ (hw _ (List.mem_of_getElem? (i := 45) rfl))) (by decide) (backOf (W := 0) (rm8 l Z a0 hw [] va u w N x h0 n0 Z0 V37 hu hwN hN hc) hZ (hw _ (List.mem_of_getElem? (i := 45) rfl)) (hw _ (List.mem_of_getElem? (i := 41) rfl)) (by decide) (by decide)) (g := (mkF m 13 #[.val (.ref va), .val (.int (Int32.ofNat u)), .val (.int (Int32.ofNat w))] [(.int (Int32.ofNat w)), (.int (Int32.ofNat u)), (.ref va)])) rfl (by rw [hml]; rfl) (argsL := [(.ref va), (.int (Int32.ofNat u)), (.int (Int32.ofNat w))]) (rest := []) (lenOf pd_2 rfl) rfl (by show 2 * 0 + _ ≤ _; exact Nat.le_of_eq rfl) (hb hby d7_13) (fun _ _ => ⟨rfl, e0, (by decide : 0 + 1 ≤ _), (by decide : 0 + 4 ≤ _)⟩)
    have hQ39b : Q8 Z va u w N x h0 n0 vv39 T39.heap L39c := hQ39
    clear hQ39
    dsimp only [Pt.U, Pt.locs, Pt.cells, Pt.slots] at X39 l39 y39 z39 st39
    subst y39 z39
    obtain ⟨r40, rfl, Nq41, Kq42, gx43, E44, V45⟩ := hQ39b
    have N46 : Fr n0 L39 := by rw [l39]; exact Fr.app N0 Nq41
    refine Go.of (g' := (mkF m 16 #[.val (.ref va), .val (.int (Int32.ofNat u)), .val (.int (Int32.ofNat w))] [(.ref r40)])) st39 ?_
    have V47 : Dar Z T39.heap va .double N (fun t => .double (x t)) := Dar.keep V37 Kq42 nin0
    have Z48 : n0 ≤ T39.heap.size := Nat.le_trans Z0 Kq42.1
    have K49 : Keep h0 T39.heap [] := (Keep.refl h0 []).trans Kq42 all0
    have A50 := (⟨X39, hx, hby⟩ : Ax _ _ _ _ _ _ _ _ _ _ _ _ _ _ _)
    have g51 : n0 ≤ r40 := Nat.le_trans Z0 gx43
    have gh52 : h0.size ≤ r40 := Nat.le_trans (Keep.refl h0 []).1 gx43
    have ne53 : va ≠ r40 := Nat.ne_of_lt (Nat.lt_of_lt_of_le V37.lt gx43)
    exact g_ret (Q := Q7 Z va u w N x h0 n0) A50 d7_16 Bd.notSynchronized Bd.returns rfl (Or.inr (Or.inr (Or.inr (Or.inr ⟨rfl, rfl, rfl⟩)))) (by decide) (by decide) ⟨r40, rfl, N46, K49, gh52, E44, V45⟩
  · skip
    refine g_ifY A0 d7_1 (c0_ne_t hc38) (pc' := 10) rfl ?_
    refine g_aloadN A0 d7_10 rfl rfl (pc' := 11) rfl ?_
    refine g_iloadN A0 d7_11 rfl (pc' := 12) rfl ?_
    refine g_iloadN A0 d7_12 rfl (pc' := 13) rfl ?_
    obtain ⟨vv54, _, ⟨T54, L54, k54, n54⟩, -, X54, ⟨L54c, hQ54, l54, y54, z54⟩, st54⟩ := Jvm.LawKit.callS X0 hx (y := (⟨"java/util/Arrays", "copyOfRangeDouble", "([DII)[D"⟩ : MethodName)) hown (mvT hZ (hw _ (List.mem_of_getElem? (i := 43) rfl))) (mvT hZ (hw _ (List.mem_of_getElem? (i := 44) rfl))) (mvT hZ (hw _ (List.mem_of_getElem? (i := 41) rfl))) (mvT hZ (hw _ (List.mem_of_getElem? (i := 45) rfl))) (by decide) (backOf (W := 0) (rm8 l Z a0 hw [] va u w N x h0 n0 Z0 V37 hu hwN hN hc) hZ (hw _ (List.mem_of_getElem? (i := 45) rfl)) (hw _ (List.mem_of_getElem? (i := 41) rfl)) (by decide) (by decide)) (g := (mkF m 13 #[.val (.ref va), .val (.int (Int32.ofNat u)), .val (.int (Int32.ofNat w))] [(.int (Int32.ofNat w)), (.int (Int32.ofNat u)), (.ref va)])) rfl (by rw [hml]; rfl) (argsL := [(.ref va), (.int (Int32.ofNat u)), (.int (Int32.ofNat w))]) (rest := []) (lenOf pd_2 rfl) rfl (by show 2 * 0 + _ ≤ _; exact Nat.le_of_eq rfl) (hb hby d7_13) (fun _ _ => ⟨rfl, e0, (by decide : 0 + 1 ≤ _), (by decide : 0 + 4 ≤ _)⟩)
    have hQ54b : Q8 Z va u w N x h0 n0 vv54 T54.heap L54c := hQ54
    clear hQ54
    dsimp only [Pt.U, Pt.locs, Pt.cells, Pt.slots] at X54 l54 y54 z54 st54
    subst y54 z54
    obtain ⟨r55, rfl, Nq56, Kq57, gx58, E59, V60⟩ := hQ54b
    have N61 : Fr n0 L54 := by rw [l54]; exact Fr.app N0 Nq56
    refine Go.of (g' := (mkF m 16 #[.val (.ref va), .val (.int (Int32.ofNat u)), .val (.int (Int32.ofNat w))] [(.ref r55)])) st54 ?_
    have V62 : Dar Z T54.heap va .double N (fun t => .double (x t)) := Dar.keep V37 Kq57 nin0
    have Z63 : n0 ≤ T54.heap.size := Nat.le_trans Z0 Kq57.1
    have K64 : Keep h0 T54.heap [] := (Keep.refl h0 []).trans Kq57 all0
    have A65 := (⟨X54, hx, hby⟩ : Ax _ _ _ _ _ _ _ _ _ _ _ _ _ _ _)
    have g66 : n0 ≤ r55 := Nat.le_trans Z0 gx58
    have gh67 : h0.size ≤ r55 := Nat.le_trans (Keep.refl h0 []).1 gx58
    have ne68 : va ≠ r55 := Nat.ne_of_lt (Nat.lt_of_lt_of_le V37.lt gx58)
    exact g_ret (Q := Q7 Z va u w N x h0 n0) A65 d7_16 Bd.notSynchronized Bd.returns rfl (Or.inr (Or.inr (Or.inr (Or.inr ⟨rfl, rfl, rfl⟩)))) (by decide) (by decide) ⟨r55, rfl, N61, K64, gh67, E59, V60⟩
theorem d6_0 : decode prog_1_method_14_code 0 = .ok (.iload_n 3, 1) := by decide +kernel
theorem d6_1 : decode prog_1_method_14_code 1 = .ok (.istore 6, 2) := by decide +kernel
theorem d6_3 : decode prog_1_method_14_code 3 = .ok (.iload 6, 2) := by decide +kernel
theorem d6_5 : decode prog_1_method_14_code 5 = .ok (.iload 4, 2) := by decide +kernel
theorem d6_7 : decode prog_1_method_14_code 7 = .ok (.if_icmp .ge 18, 3) := by decide +kernel
theorem d6_10 : decode prog_1_method_14_code 10 = .ok (.aload_n 2, 1) := by decide +kernel
theorem d6_11 : decode prog_1_method_14_code 11 = .ok (.iload 6, 2) := by decide +kernel
theorem d6_13 : decode prog_1_method_14_code 13 = .ok (.daload, 1) := by decide +kernel
theorem d6_14 : decode prog_1_method_14_code 14 = .ok (.dconst 0, 1) := by decide +kernel
theorem d6_15 : decode prog_1_method_14_code 15 = .ok (.dcmp .l, 1) := by decide +kernel
theorem d6_16 : decode prog_1_method_14_code 16 = .ok (.ifCond .ne 9, 3) := by decide +kernel
theorem d6_19 : decode prog_1_method_14_code 19 = .ok (.iinc 6 1, 3) := by decide +kernel
theorem d6_22 : decode prog_1_method_14_code 22 = .ok (.goto (-19), 3) := by decide +kernel
theorem d6_25 : decode prog_1_method_14_code 25 = .ok (.iload 4, 2) := by decide +kernel
theorem d6_27 : decode prog_1_method_14_code 27 = .ok (.istore 7, 2) := by decide +kernel
theorem d6_29 : decode prog_1_method_14_code 29 = .ok (.iload 7, 2) := by decide +kernel
theorem d6_31 : decode prog_1_method_14_code 31 = .ok (.iload 6, 2) := by decide +kernel
theorem d6_33 : decode prog_1_method_14_code 33 = .ok (.if_icmp .le 20, 3) := by decide +kernel
theorem d6_36 : decode prog_1_method_14_code 36 = .ok (.aload_n 2, 1) := by decide +kernel
theorem d6_37 : decode prog_1_method_14_code 37 = .ok (.iload 7, 2) := by decide +kernel
theorem d6_39 : decode prog_1_method_14_code 39 = .ok (.iconst 1, 1) := by decide +kernel
theorem d6_40 : decode prog_1_method_14_code 40 = .ok (.isub, 1) := by decide +kernel
theorem d6_41 : decode prog_1_method_14_code 41 = .ok (.daload, 1) := by decide +kernel
theorem d6_42 : decode prog_1_method_14_code 42 = .ok (.dconst 0, 1) := by decide +kernel
theorem d6_43 : decode prog_1_method_14_code 43 = .ok (.dcmp .l, 1) := by decide +kernel
theorem d6_44 : decode prog_1_method_14_code 44 = .ok (.ifCond .ne 9, 3) := by decide +kernel
theorem d6_47 : decode prog_1_method_14_code 47 = .ok (.iinc 7 (-1), 3) := by decide +kernel
theorem d6_50 : decode prog_1_method_14_code 50 = .ok (.goto (-21), 3) := by decide +kernel
theorem d6_53 : decode prog_1_method_14_code 53 = .ok (.aload_n 0, 1) := by decide +kernel
theorem d6_54 : decode prog_1_method_14_code 54 = .ok (.getfield 13, 3) := by decide +kernel
theorem d6_57 : decode prog_1_method_14_code 57 = .ok (.iload_n 1, 1) := by decide +kernel
theorem d6_58 : decode prog_1_method_14_code 58 = .ok (.iload 6, 2) := by decide +kernel
theorem d6_60 : decode prog_1_method_14_code 60 = .ok (.iload 7, 2) := by decide +kernel
theorem d6_62 : decode prog_1_method_14_code 62 = .ok (.if_icmp .ge 13, 3) := by decide +kernel
theorem d6_65 : decode prog_1_method_14_code 65 = .ok (.iload 5, 2) := by decide +kernel
theorem d6_67 : decode prog_1_method_14_code 67 = .ok (.iload 6, 2) := by decide +kernel
theorem d6_69 : decode prog_1_method_14_code 69 = .ok (.iadd, 1) := by decide +kernel
theorem d6_70 : decode prog_1_method_14_code 70 = .ok (.iload_n 3, 1) := by decide +kernel
theorem d6_71 : decode prog_1_method_14_code 71 = .ok (.isub, 1) := by decide +kernel
theorem d6_72 : decode prog_1_method_14_code 72 = .ok (.goto 4, 3) := by decide +kernel
theorem d6_75 : decode prog_1_method_14_code 75 = .ok (.iconst 0, 1) := by decide +kernel
theorem d6_76 : decode prog_1_method_14_code 76 = .ok (.iastore, 1) := by decide +kernel
theorem d6_77 : decode prog_1_method_14_code 77 = .ok (.aload_n 0, 1) := by decide +kernel
theorem d6_78 : decode prog_1_method_14_code 78 = .ok (.getfield 19, 3) := by decide +kernel
theorem d6_81 : decode prog_1_method_14_code 81 = .ok (.iload_n 1, 1) := by decide +kernel
theorem d6_82 : decode prog_1_method_14_code 82 = .ok (.aload_n 2, 1) := by decide +kernel
theorem d6_83 : decode prog_1_method_14_code 83 = .ok (.iload 6, 2) := by decide +kernel
theorem d6_85 : decode prog_1_method_14_code 85 = .ok (.iload 7, 2) := by decide +kernel
theorem d6_87 : decode prog_1_method_14_code 87 = .ok (.invokestatic 122, 3) := by decide +kernel
theorem d6_90 : decode prog_1_method_14_code 90 = .ok (.aastore, 1) := by decide +kernel
theorem d6_91 : decode prog_1_method_14_code 91 = .ok (.return_, 1) := by decide +kernel
theorem own_l1 {p : Program} {l : Launch} {e : Env} {R : Room} {s : State} {m : MethodId} {args : Array Value} {below : List Frame} {meth : Method} {c : Code} {T : State} {locs : List Loc} {cells slots : Nat} {P : State → Outcome → Prop} {Z : State} {h : Heap} (A : Ax p l e R s m args below meth c T locs cells slots prog_1_method_14_code) (hZ : Z.Warmed39 s.vm) (eT : T.heap = h) {N F E : Nat} {x : Nat → UInt64} {o1 va : Addr} {i1 q5 : Int32} {sl : Slot} (V : Dar Z h va .double N (fun t => .double (x t))) (hE : E ≤ N) (hN : N < 2147483648)
    (done : ∀ a, F ≤ a → a ≤ E → (∀ k, F ≤ k → k < a → own_zr (x k)) → (a < E → ¬ own_zr (x a)) → Go p e below P T (mkF m 25 #[.val (.ref o1), .val (.int i1), .val (.ref va), .val (.int (Int32.ofNat F)), .val (.int (Int32.ofNat E)), .val (.int q5), .val (.int (Int32.ofNat a)), sl] [])) :
    ∀ (k a : Nat), a + k = E → F ≤ a → (∀ k, F ≤ k → k < a → own_zr (x k)) → Go p e below P T (mkF m 3 #[.val (.ref o1), .val (.int i1), .val (.ref va), .val (.int (Int32.ofNat F)), .val (.int (Int32.ofNat E)), .val (.int q5), .val (.int (Int32.ofNat a)), sl] []) := by
  intro k
  induction k with
  | zero =>
    intro a ha hF hz
    obtain rfl : a = E := by omega
    refine g_iload A d6_3 rfl (pc' := 5) rfl ?_
    refine g_iload A d6_5 rfl (pc' := 7) rfl ?_
    refine g_icY A d6_7 (c2_ge_t Int32.lt_irrefl) (pc' := 25) rfl ?_
    exact done a hF (Nat.le_refl _) hz (fun q => absurd q (Nat.lt_irrefl _))
  | succ k ih =>
    intro a ha hF hz
    refine g_iload A d6_3 rfl (pc' := 5) rfl ?_
    refine g_iload A d6_5 rfl (pc' := 7) rfl ?_
    refine g_icN A d6_7 (c2_ge_f (own_olt (by omega) (by omega))) (pc' := 10) rfl ?_
    refine g_aloadN A d6_10 rfl rfl (pc' := 11) rfl ?_
    refine g_iload A d6_11 rfl (pc' := 13) rfl ?_
    refine g_daload A hZ eT V (i := a) (by omega) rfl (x := x a) rfl d6_13 (pc' := 14) rfl ?_
    refine g_dconst0 A d6_14 (pc' := 15) rfl ?_
    refine g_dcmp A d6_15 (pc' := 16) rfl ?_
    by_cases q : FP.dcmp (x a) (0 : UInt64) = some .eq
    · refine g_ifN A d6_16 (d_l_ne_f q) (pc' := 19) rfl ?_
      refine g_iinc A d6_19 rfl (y := Int32.ofNat (a + 1)) (own_succ a) (ls' := #[.val (.ref o1), .val (.int i1), .val (.ref va), .val (.int (Int32.ofNat F)), .val (.int (Int32.ofNat E)), .val (.int q5), .val (.int (Int32.ofNat (a + 1))), sl]) rfl (pc' := 22) rfl ?_
      refine g_goto A d6_22 (pc' := 3) rfl ?_
      refine ih (a + 1) (by omega) (by omega) (fun j h1 h2 => ?_)
      by_cases r : j = a
      · subst r; exact q
      · exact hz j h1 (by omega)
    · refine g_ifY A d6_16 (d_l_ne_t q) (pc' := 25) rfl ?_
      exact done a hF (by omega) hz (fun _ => q)
theorem own_l2 {p : Program} {l : Launch} {e : Env} {R : Room} {s : State} {m : MethodId} {args : Array Value} {below : List Frame} {meth : Method} {c : Code} {T : State} {locs : List Loc} {cells slots : Nat} {P : State → Outcome → Prop} {Z : State} {h : Heap} (A : Ax p l e R s m args below meth c T locs cells slots prog_1_method_14_code) (hZ : Z.Warmed39 s.vm) (eT : T.heap = h) {N F E : Nat} {x : Nat → UInt64} {o1 va : Addr} {i1 q5 : Int32} {a : Nat} (V : Dar Z h va .double N (fun t => .double (x t))) (hE : E ≤ N) (hN : N < 2147483648)
    (done : ∀ b, a ≤ b → b ≤ E → (∀ k, b ≤ k → k < E → own_zr (x k)) → (a < b → ¬ own_zr (x (b - 1))) → Go p e below P T (mkF m 53 #[.val (.ref o1), .val (.int i1), .val (.ref va), .val (.int (Int32.ofNat F)), .val (.int (Int32.ofNat E)), .val (.int q5), .val (.int (Int32.ofNat a)), .val (.int (Int32.ofNat b))] [])) :
    ∀ (k b : Nat), a + k = b → b ≤ E → (∀ k, b ≤ k → k < E → own_zr (x k)) → Go p e below P T (mkF m 29 #[.val (.ref o1), .val (.int i1), .val (.ref va), .val (.int (Int32.ofNat F)), .val (.int (Int32.ofNat E)), .val (.int q5), .val (.int (Int32.ofNat a)), .val (.int (Int32.ofNat b))] []) := by
  intro k
  induction k with
  | zero =>
    intro b hb0 hbE hz
    obtain rfl : a = b := by omega
    refine g_iload A d6_29 rfl (pc' := 31) rfl ?_
    refine g_iload A d6_31 rfl (pc' := 33) rfl ?_
    refine g_icY A d6_33 (c2_le_t Int32.lt_irrefl) (pc' := 53) rfl ?_
    exact done a (Nat.le_refl _) hbE hz (fun q => absurd q (Nat.lt_irrefl _))
  | succ k ih =>
    intro b hb0 hbE hz
    refine g_iload A d6_29 rfl (pc' := 31) rfl ?_
    refine g_iload A d6_31 rfl (pc' := 33) rfl ?_
    refine g_icN A d6_33 (c2_le_f (own_olt (by omega) (by omega))) (pc' := 36) rfl ?_
    refine g_aloadN A d6_36 rfl rfl (pc' := 37) rfl ?_
    refine g_iload A d6_37 rfl (pc' := 39) rfl ?_
    refine g_iconst A d6_39 (v := (1 : Int32)) rfl (pc' := 40) rfl ?_
    refine g_isub A d6_40 (pc' := 41) rfl ?_
    refine g_daload A hZ eT V (i := b - 1) (by omega) (own_pred (by omega)) (x := x (b - 1)) rfl d6_41 (pc' := 42) rfl ?_
    refine g_dconst0 A d6_42 (pc' := 43) rfl ?_
    refine g_dcmp A d6_43 (pc' := 44) rfl ?_
    by_cases q : FP.dcmp (x (b - 1)) (0 : UInt64) = some .eq
    · refine g_ifN A d6_44 (d_l_ne_f q) (pc' := 47) rfl ?_
      refine g_iinc A d6_47 rfl (y := Int32.ofNat (b - 1)) (own_pred' (by omega)) (ls' := #[.val (.ref o1), .val (.int i1), .val (.ref va), .val (.int (Int32.ofNat F)), .val (.int (Int32.ofNat E)), .val (.int q5), .val (.int (Int32.ofNat a)), .val (.int (Int32.ofNat (b - 1)))]) rfl (pc' := 50) rfl ?_
      refine g_goto A d6_50 (pc' := 29) rfl ?_
      refine ih (b - 1) (by omega) (by omega) (fun j h1 h2 => ?_)
      by_cases r : j = b - 1
      · subst r; exact q
      · exact hz j (by omega) h2
    · refine g_ifY A d6_44 (d_l_ne_t q) (pc' := 53) rfl ?_
      exact done b (by omega) hbE hz (fun _ => q)
theorem pn_1 : plainName "com/example/pursuant/pursuant/dictionary/BandDictionary" = true := by first | (simp [plainName, overriddenIn]; done) | decide +kernel
theorem ef69 (m : MethodId) (a1 : Addr) (i : Nat) (va : Addr) (F : Nat) (E : Nat) (N : Nat) (K : Nat) (x : Nat → UInt64) (sa : Addr) (ta : Addr) (fs : Nat → Value) (ft : Nat → Value) : entryFrame m #[(.ref a1), (.int (Int32.ofNat i)), (.ref va), (.int (Int32.ofNat F)), (.int (Int32.ofNat E)), (.int (0 : Int32))] 8 = mkF m 0 #[.val (.ref a1), .val (.int (Int32.ofNat i)), .val (.ref va), .val (.int (Int32.ofNat F)), .val (.int (Int32.ofNat E)), .val (.int (0 : Int32)), .unset, .unset] [] := by first | (simp [entryFrame, mkF, argsToLocals, Value.category]; done) | rfl
def Q6 (Z : State) (a1 : Addr) (i : Nat) (va : Addr) (F : Nat) (E : Nat) (N : Nat) (K : Nat) (x : Nat → UInt64) (sa : Addr) (ta : Addr) (fs : Nat → Value) (ft : Nat → Value) (h0 : Heap) (n0 : Nat) (v : Option Value) (h : Heap) (L : List Loc) : Prop := ∃ ra : Nat, ∃ rb : Nat, ∃ r : Addr, v = none ∧ Fr n0 L ∧ Keep h0 h [sa, ta] ∧ h0.size ≤ r ∧ Dar Z h r .double (rb - ra) (fun t => .double (x (ra + t))) ∧ Dar Z h sa .int K (fun j => if j = i then .int (own_s ra rb F) else fs j) ∧ Dar Z h ta (.array .double) K (fun j => if j = i then .ref r else ft j) ∧ own_S x F E ra rb
set_option maxRecDepth 65536 in
set_option maxHeartbeats 40000000 in
theorem rm6 (l : Launch) (Z : State) (a0 : Array Value) (hw : ∀ d ∈ tables_1, d.before a0 Z = true) (ws : List Jvm.Cond) (a1 : Addr) (i : Nat) (va : Addr) (F : Nat) (E : Nat) (N : Nat) (K : Nat) (x : Nat → UInt64) (sa : Addr) (ta : Addr) (fs : Nat → Value) (ft : Nat → Value) (h0 : Heap) (n0 : Nat) (Z0 : n0 ≤ h0.size) (E70 : Exa Z h0 a1 "com/example/pursuant/pursuant/dictionary/BandDictionary") (F71 : Fld Z h0 a1 "com/example/pursuant/pursuant/dictionary/BandDictionary" "starts" "[I" (.ref sa)) (F72 : Fld Z h0 a1 "com/example/pursuant/pursuant/dictionary/BandDictionary" "stretches" "[[D" (.ref ta)) (V73 : Dar Z h0 va .double N (fun t => .double (x t))) (V74 : Dar Z h0 sa .int K fs) (V75 : Dar Z h0 ta (.array .double) K ft) (O76 : Ovd Z h0 ta) (ne77 : a1 ≠ sa) (ne78 : a1 ≠ ta) (ne79 : sa ≠ ta) (ne80 : va ≠ sa) (ne81 : va ≠ ta) (g82 : n0 ≤ sa) (g83 : n0 ≤ ta) (hi : i < K) (hF : F ≤ E) (hE : E ≤ N) (hN : N < 2147483648) (hc : E - F ≤ 4) (hz : 0 < F ∨ E < N) :
    MetFree l (⟨"com/example/pursuant/pursuant/dictionary/BandDictionary", "keepStretch", "(I[DIII)V"⟩ : MethodName) (head1 (Jvm.Cond.code (⟨"com/example/pursuant/pursuant/dictionary/BandDictionary", "keepStretch", "(I[DIII)V"⟩ : MethodName) prog_1_method_14_code 8 none :: ws) ({ frames := 3, cells := 1, slots := 4, locals := 50 } : Room)) (fun a U => a = #[(.ref a1), (.int (Int32.ofNat i)), (.ref va), (.int (Int32.ofNat F)), (.int (Int32.ofNat E)), (.int (0 : Int32))] ∧ Z.Warmed39 U.vm ∧ U.heap = h0) (fun _ _ _ _ _ => True) (fun _ U o U' => ∃ v L, o = .returned v ∧ Q6 Z a1 i va F E N K x sa ta fs ft h0 n0 v U'.heap L ∧ FrameEnd U o U' L 1 4) := by
  refine MetFree.of_bodySF (plainFor_of_name pn_1) hisR ?_
  intro p e s m args below meth c s₁ Bd hml0 hP hK
  obtain ⟨rfl, hZ, hh⟩ := hP
  have hx := Bd.exec
  have hby := Bd.bytes
  have hml : c.maxLocals = 8 := hml0
  have hown : s.vm.findClass "com/example/pursuant/pursuant/dictionary/BandDictionary" = some m.cls := findClass_of_methodNamed Bd.named
  have hnm := (name_of_methodNamed Bd.named Bd.method).1
  have X0 : Stand p l e ({ frames := 3, cells := 1, slots := 4, locals := 50 } : Room) s m #[(.ref a1), (.int (Int32.ofNat i)), (.ref va), (.int (Int32.ofNat F)), (.int (Int32.ofNat E)), (.int (0 : Int32))] below meth c s₁ [] 0 0 := Stand.of_body Bd
  have e0 : s₁.heap = h0 := by rw [← hh, Bd.state]; rfl
  have N0 := Fr.nil n0
  have A0 := (⟨X0, hx, hby⟩ : Ax _ _ _ _ _ _ _ _ _ _ _ _ _ _ _)
  show Go p e below (fun U o => ∃ v L, o = .returned v ∧ Q6 Z a1 i va F E N K x sa ta fs ft h0 n0 v U.heap L ∧ FrameEnd s o U L 1 4) s₁ (entryFrame m #[(.ref a1), (.int (Int32.ofNat i)), (.ref va), (.int (Int32.ofNat F)), (.int (Int32.ofNat E)), (.int (0 : Int32))] 8)
  refine Go.cast (ef69 m a1 i va F E N K x sa ta fs ft) ?_
  refine g_iloadN A0 d6_0 rfl (pc' := 1) rfl ?_
  refine g_istore A0 d6_1 (ls' := #[.val (.ref a1), .val (.int (Int32.ofNat i)), .val (.ref va), .val (.int (Int32.ofNat F)), .val (.int (Int32.ofNat E)), .val (.int (0 : Int32)), .val (.int (Int32.ofNat F)), .unset]) rfl (pc' := 3) rfl ?_
  refine own_l1 A0 hZ e0 V73 hE hN ?_ (E - F) F (by omega) (Nat.le_refl _) (fun k q1 q2 => absurd q1 (Nat.not_le.mpr q2))
  intro a a1F a1E a1z a1n
  refine g_iload A0 d6_25 rfl (pc' := 27) rfl ?_
  refine g_istore A0 d6_27 (ls' := #[.val (.ref a1), .val (.int (Int32.ofNat i)), .val (.ref va), .val (.int (Int32.ofNat F)), .val (.int (Int32.ofNat E)), .val (.int (0 : Int32)), .val (.int (Int32.ofNat a)), .val (.int (Int32.ofNat E))]) rfl (pc' := 29) rfl ?_
  refine own_l2 A0 hZ e0 V73 hE hN ?_ (E - a) E (by omega) (Nat.le_refl _) (fun k q1 q2 => absurd q1 (Nat.not_le.mpr q2))
  intro b b1a b1E b1z b1n
  refine g_aloadN A0 d6_53 rfl rfl (pc' := 54) rfl ?_
  obtain ⟨T84, X84, e84, st84⟩ := getF X0 hx hZ hown (host := "") (Or.inl (hw _ (List.mem_of_getElem? (i := 29) rfl))) Via.refl e0 F71 (g := (mkF m 54 #[.val (.ref a1), .val (.int (Int32.ofNat i)), .val (.ref va), .val (.int (Int32.ofNat F)), .val (.int (Int32.ofNat E)), .val (.int (0 : Int32)), .val (.int (Int32.ofNat a)), .val (.int (Int32.ofNat b))] [(.ref a1)])) rfl rfl (hb hby d6_54)
  refine Go.of (g' := (mkF m 57 #[.val (.ref a1), .val (.int (Int32.ofNat i)), .val (.ref va), .val (.int (Int32.ofNat F)), .val (.int (Int32.ofNat E)), .val (.int (0 : Int32)), .val (.int (Int32.ofNat a)), .val (.int (Int32.ofNat b))] [(.ref sa)])) st84 ?_
  have A85 := (⟨X84, hx, hby⟩ : Ax _ _ _ _ _ _ _ _ _ _ _ _ _ _ _)
  refine g_iloadN A85 d6_57 rfl (pc' := 58) rfl ?_
  refine g_iload A85 d6_58 rfl (pc' := 60) rfl ?_
  refine g_iload A85 d6_60 rfl (pc' := 62) rfl ?_
  obtain ⟨v86, hv86⟩ : ∃ z : Int32, z = (if (Int32.ofNat a) < (Int32.ofNat b) then (((0 : Int32) + (Int32.ofNat a)) - (Int32.ofNat F)) else (0 : Int32)) := ⟨_, rfl⟩
  have sg87 : ∀ {P : State → Outcome → Prop}, Go p e below P T84 (mkF m 76 #[.val (.ref a1), .val (.int (Int32.ofNat i)), .val (.ref va), .val (.int (Int32.ofNat F)), .val (.int (Int32.ofNat E)), .val (.int (0 : Int32)), .val (.int (Int32.ofNat a)), .val (.int (Int32.ofNat b))] [(.int v86), (.int (Int32.ofNat i)), (.ref sa)]) → Go p e below P T84 (mkF m 62 #[.val (.ref a1), .val (.int (Int32.ofNat i)), .val (.ref va), .val (.int (Int32.ofNat F)), .val (.int (Int32.ofNat E)), .val (.int (0 : Int32)), .val (.int (Int32.ofNat a)), .val (.int (Int32.ofNat b))] [(.int (Int32.ofNat b)), (.int (Int32.ofNat a)), (.int (Int32.ofNat i)), (.ref sa)]) := by
    intro P hr
    by_cases c88 : (Int32.ofNat a) < (Int32.ofNat b)
    · skip
      refine g_icN A85 d6_62 (c2_ge_f c88) (pc' := 65) rfl ?_
      refine g_iload A85 d6_65 rfl (pc' := 67) rfl ?_
      refine g_iload A85 d6_67 rfl (pc' := 69) rfl ?_
      refine g_iadd A85 d6_69 (pc' := 70) rfl ?_
      refine g_iloadN A85 d6_70 rfl (pc' := 71) rfl ?_
      refine g_isub A85 d6_71 (pc' := 72) rfl ?_
      refine g_goto A85 d6_72 (pc' := 76) rfl ?_
      obtain rfl : v86 = (((0 : Int32) + (Int32.ofNat a)) - (Int32.ofNat F)) := hv86.trans ((if_pos c88).trans rfl)
      exact hr
    · skip
      refine g_icY A85 d6_62 (c2_ge_t c88) (pc' := 75) rfl ?_
      refine g_iconst A85 d6_75 (v := (0 : Int32)) rfl (pc' := 76) rfl ?_
      obtain rfl : v86 = (0 : Int32) := hv86.trans ((if_neg c88).trans rfl)
      exact hr
  refine sg87 ?_
  rw [show v86 = own_s a b F from hv86]
  obtain ⟨T89, h89, A89, e89, W89, st89⟩ := s_iastore A85 hZ e84 (ls := #[.val (.ref a1), .val (.int (Int32.ofNat i)), .val (.ref va), .val (.int (Int32.ofNat F)), .val (.int (Int32.ofNat E)), .val (.int (0 : Int32)), .val (.int (Int32.ofNat a)), .val (.int (Int32.ofNat b))]) (st := []) (x := (own_s a b F)) V74 (i := i) hi (j := (Int32.ofNat i)) rfl d6_76 (pc' := 77) rfl
  have N90 := Fr.snoc A89.1 N0 g82
  have K91 : Keep h0 h89 [sa, ta] := (Keep.refl h0 [sa, ta]).wr W89 (Or.inl (List.mem_of_getElem? (i := 0) rfl))
  have E92 : Exa Z h89 a1 "com/example/pursuant/pursuant/dictionary/BandDictionary" := Exa.wr W89 E70
  have F93 : Fld Z h89 a1 "com/example/pursuant/pursuant/dictionary/BandDictionary" "starts" "[I" (.ref sa) := Fld.other W89 F71 (Or.inl ne77)
  have F94 : Fld Z h89 a1 "com/example/pursuant/pursuant/dictionary/BandDictionary" "stretches" "[[D" (.ref ta) := Fld.other W89 F72 (Or.inl ne77)
  have V95 : Dar Z h89 va .double N (fun t => .double (x t)) := Dar.other W89 V73 ne80
  have V96 : Dar Z h89 ta (.array .double) K ft := Dar.other W89 V75 (Ne.symm ne79)
  have O97 : Ovd Z h89 ta := Ovd.wr W89 O76
  have V98 : Dar Z h89 sa .int K (fun j => if j = i then .int (own_s a b F) else fs j) := Dar.set V74 W89 (fun _ _ => rfl)
  have Z99 : n0 ≤ h89.size := by rw [W89.size]; exact Z0
  refine st89 ?_
  refine g_aloadN A89 d6_77 rfl rfl (pc' := 78) rfl ?_
  obtain ⟨T100, X100, e100, st100⟩ := getF A89.1 hx hZ hown (host := "") (Or.inl (hw _ (List.mem_of_getElem? (i := 33) rfl))) Via.refl e89 F94 (g := (mkF m 78 #[.val (.ref a1), .val (.int (Int32.ofNat i)), .val (.ref va), .val (.int (Int32.ofNat F)), .val (.int (Int32.ofNat E)), .val (.int (0 : Int32)), .val (.int (Int32.ofNat a)), .val (.int (Int32.ofNat b))] [(.ref a1)])) rfl rfl (hb hby d6_78)
  refine Go.of (g' := (mkF m 81 #[.val (.ref a1), .val (.int (Int32.ofNat i)), .val (.ref va), .val (.int (Int32.ofNat F)), .val (.int (Int32.ofNat E)), .val (.int (0 : Int32)), .val (.int (Int32.ofNat a)), .val (.int (Int32.ofNat b))] [(.ref ta)])) st100 ?_
  have A101 := (⟨X100, hx, hby⟩ : Ax _ _ _ _ _ _ _ _ _ _ _ _ _ _ _)
  refine g_iloadN A101 d6_81 rfl (pc' := 82) rfl ?_
  refine g_aloadN A101 d6_82 rfl rfl (pc' := 83) rfl ?_
  refine g_iload A101 d6_83 rfl (pc' := 85) rfl ?_
  refine g_iload A101 d6_85 rfl (pc' := 87) rfl ?_
  have hp102 : b ≤ N := (by omega)
  have hp103 : b - a ≤ 4 := (by omega)
  have hp104 : ¬ (a = 0 ∧ b = N) := (by omega)
  obtain ⟨vv105, _, ⟨T105, L105, k105, n105⟩, -, X105, ⟨L105c, hQ105, l105, y105, z105⟩, st105⟩ := Jvm.LawKit.callS X100 hx (y := (⟨"java/util/Arrays", "copyOfRange", "([DII)[D"⟩ : MethodName)) hown (mvT hZ (hw _ (List.mem_of_getElem? (i := 39) rfl))) (mvT hZ (hw _ (List.mem_of_getElem? (i := 40) rfl))) (mvT hZ (hw _ (List.mem_of_getElem? (i := 41) rfl))) (mvT hZ (hw _ (List.mem_of_getElem? (i := 42) rfl))) (by decide) (backOf (W := 2) (rm7 l Z a0 hw [] va a b N x h89 n0 Z99 V95 b1a hp102 hN hp103 hp104) hZ (hw _ (List.mem_of_getElem? (i := 42) rfl)) (hw _ (List.mem_of_getElem? (i := 41) rfl)) (by decide) (by decide)) (g := (mkF m 87 #[.val (.ref a1), .val (.int (Int32.ofNat i)), .val (.ref va), .val (.int (Int32.ofNat F)), .val (.int (Int32.ofNat E)), .val (.int (0 : Int32)), .val (.int (Int32.ofNat a)), .val (.int (Int32.ofNat b))] [(.int (Int32.ofNat b)), (.int (Int32.ofNat a)), (.ref va), (.int (Int32.ofNat i)), (.ref ta)])) rfl (by rw [hml]; rfl) (argsL := [(.ref va), (.int (Int32.ofNat a)), (.int (Int32.ofNat b))]) (rest := [(.int (Int32.ofNat i)), (.ref ta)]) (lenOf pd_2 rfl) rfl (by show 2 * 0 + _ ≤ _; exact Nat.le_of_eq rfl) (hb hby d6_87) (fun _ _ => ⟨rfl, e100, (by decide : 0 + 1 ≤ _), (by decide : 0 + 4 ≤ _)⟩)
  have hQ105b : Q7 Z va a b N x h89 n0 vv105 T105.heap L105c := hQ105
  clear hQ105
  dsimp only [Pt.U, Pt.locs, Pt.cells, Pt.slots] at X105 l105 y105 z105 st105
  subst y105 z105
  obtain ⟨r106, rfl, Nq107, Kq108, gx109, E110, V111⟩ := hQ105b
  have N112 : Fr n0 L105 := by rw [l105]; exact Fr.app N90 Nq107
  refine Go.of (g' := (mkF m 90 #[.val (.ref a1), .val (.int (Int32.ofNat i)), .val (.ref va), .val (.int (Int32.ofNat F)), .val (.int (Int32.ofNat E)), .val (.int (0 : Int32)), .val (.int (Int32.ofNat a)), .val (.int (Int32.ofNat b))] [(.ref r106), (.int (Int32.ofNat i)), (.ref ta)])) st105 ?_
  have E113 : Exa Z T105.heap a1 "com/example/pursuant/pursuant/dictionary/BandDictionary" := Exa.keep E92 Kq108
  have F114 : Fld Z T105.heap a1 "com/example/pursuant/pursuant/dictionary/BandDictionary" "starts" "[I" (.ref sa) := Fld.keep F93 Kq108 nin0
  have F115 : Fld Z T105.heap a1 "com/example/pursuant/pursuant/dictionary/BandDictionary" "stretches" "[[D" (.ref ta) := Fld.keep F94 Kq108 nin0
  have V116 : Dar Z T105.heap va .double N (fun t => .double (x t)) := Dar.keep V95 Kq108 nin0
  have V117 : Dar Z T105.heap ta (.array .double) K ft := Dar.keep V96 Kq108 nin0
  have O118 : Ovd Z T105.heap ta := Ovd.keep O97 Kq108
  have V119 : Dar Z T105.heap sa .int K (fun j => if j = i then .int (own_s a b F) else fs j) := Dar.keep V98 Kq108 nin0
  have Z120 : n0 ≤ T105.heap.size := Nat.le_trans Z99 Kq108.1
  have K121 : Keep h0 T105.heap [sa, ta] := K91.trans Kq108 all0
  have A122 := (⟨X105, hx, hby⟩ : Ax _ _ _ _ _ _ _ _ _ _ _ _ _ _ _)
  have g123 : n0 ≤ r106 := Nat.le_trans Z99 gx109
  have gh124 : h0.size ≤ r106 := Nat.le_trans K91.1 gx109
  have ne125 : a1 ≠ r106 := Nat.ne_of_lt (Nat.lt_of_lt_of_le E92.lt gx109)
  have ne126 : sa ≠ r106 := Nat.ne_of_lt (Nat.lt_of_lt_of_le V98.lt gx109)
  have ne127 : ta ≠ r106 := Nat.ne_of_lt (Nat.lt_of_lt_of_le V96.lt gx109)
  have ne128 : va ≠ r106 := Nat.ne_of_lt (Nat.lt_of_lt_of_le V95.lt gx109)
  obtain ⟨T129, h129, A129, e129, W129, st129⟩ := s_aastore A122 hZ rfl (ls := #[.val (.ref a1), .val (.int (Int32.ofNat i)), .val (.ref va), .val (.int (Int32.ofNat F)), .val (.int (Int32.ofNat E)), .val (.int (0 : Int32)), .val (.int (Int32.ofNat a)), .val (.int (Int32.ofNat b))]) (st := []) (y := r106) V117 O118 E110 (i := i) hi (j := (Int32.ofNat i)) rfl d6_90 (pc' := 91) rfl
  have N130 := Fr.snoc A129.1 N112 g83
  have K131 : Keep h0 h129 [sa, ta] := K121.wr W129 (Or.inl (List.mem_of_getElem? (i := 1) rfl))
  have E132 : Exa Z h129 a1 "com/example/pursuant/pursuant/dictionary/BandDictionary" := Exa.wr W129 E113
  have F133 : Fld Z h129 a1 "com/example/pursuant/pursuant/dictionary/BandDictionary" "starts" "[I" (.ref sa) := Fld.other W129 F114 (Or.inl ne78)
  have F134 : Fld Z h129 a1 "com/example/pursuant/pursuant/dictionary/BandDictionary" "stretches" "[[D" (.ref ta) := Fld.other W129 F115 (Or.inl ne78)
  have V135 : Dar Z h129 va .double N (fun t => .double (x t)) := Dar.other W129 V116 ne81
  have O136 : Ovd Z h129 ta := Ovd.wr W129 O118
  have V137 : Dar Z h129 sa .int K (fun j => if j = i then .int (own_s a b F) else fs j) := Dar.other W129 V119 ne79
  have E138 : Exa Z h129 r106 "[D" := Exa.wr W129 E110
  have V139 : Dar Z h129 r106 .double (b - a) (fun t => .double (x (a + t))) := Dar.other W129 V111 (Ne.symm ne127)
  have V140 : Dar Z h129 ta (.array .double) K (fun j => if j = i then .ref r106 else ft j) := Dar.set V117 W129 (fun _ _ => rfl)
  have Z141 : n0 ≤ h129.size := by rw [W129.size]; exact Z120
  refine st129 ?_
  exact g_retV (Q := Q6 Z a1 i va F E N K x sa ta fs ft h0 n0) A129 d6_91 Bd.notSynchronized Bd.returns (by decide) (by decide) (by rw [e129]; exact ⟨a, b, r106, rfl, N130, K131, gh124, V139, V137, V140, ⟨a1F, b1a, b1E, a1z, b1z, fun q => ⟨a1n (Nat.lt_of_lt_of_le q b1E), b1n q⟩⟩⟩)
theorem d3_0 : decode prog_4_method_1_code 0 = .ok (.aload_n 0, 1) := by decide +kernel
theorem d3_1 : decode prog_4_method_1_code 1 = .ok (.invokespecial 1, 3) := by decide +kernel
theorem d3_4 : decode prog_4_method_1_code 4 = .ok (.iload_n 1, 1) := by decide +kernel
theorem d3_5 : decode prog_4_method_1_code 5 = .ok (.iconst 1, 1) := by decide +kernel
theorem d3_6 : decode prog_4_method_1_code 6 = .ok (.if_icmp .lt 8, 3) := by decide +kernel
theorem d3_9 : decode prog_4_method_1_code 9 = .ok (.iload_n 2, 1) := by decide +kernel
theorem d3_10 : decode prog_4_method_1_code 10 = .ok (.iconst 1, 1) := by decide +kernel
theorem d3_11 : decode prog_4_method_1_code 11 = .ok (.if_icmp .ge 18, 3) := by decide +kernel
theorem d3_14 : decode prog_4_method_1_code 14 = .ok (.new 7, 3) := by decide +kernel
theorem d3_17 : decode prog_4_method_1_code 17 = .ok (.dup, 1) := by decide +kernel
theorem d3_18 : decode prog_4_method_1_code 18 = .ok (.iload_n 1, 1) := by decide +kernel
theorem d3_19 : decode prog_4_method_1_code 19 = .ok (.iload_n 2, 1) := by decide +kernel
theorem d3_20 : decode prog_4_method_1_code 20 = .ok (.invokedynamic 9, 5) := by decide +kernel
theorem d3_25 : decode prog_4_method_1_code 25 = .ok (.invokespecial 13, 3) := by decide +kernel
theorem d3_28 : decode prog_4_method_1_code 28 = .ok (.athrow, 1) := by decide +kernel
theorem d3_29 : decode prog_4_method_1_code 29 = .ok (.aload_n 0, 1) := by decide +kernel
theorem d3_30 : decode prog_4_method_1_code 30 = .ok (.iload_n 1, 1) := by decide +kernel
theorem d3_31 : decode prog_4_method_1_code 31 = .ok (.putfield 16, 3) := by decide +kernel
theorem d3_34 : decode prog_4_method_1_code 34 = .ok (.aload_n 0, 1) := by decide +kernel
theorem d3_35 : decode prog_4_method_1_code 35 = .ok (.iload_n 2, 1) := by decide +kernel
theorem d3_36 : decode prog_4_method_1_code 36 = .ok (.putfield 22, 3) := by decide +kernel
theorem d3_39 : decode prog_4_method_1_code 39 = .ok (.return_, 1) := by decide +kernel
theorem pn_2 : plainName "com/example/pursuant/pursuant/dictionary/Dictionary" = true := by first | (simp [plainName, overriddenIn]; done) | decide +kernel
theorem ef142 (m : MethodId) (a1 : Addr) (u0 : Value) (u1 : Value) (u2 : Value) (u3 : Value) : entryFrame m #[(.ref a1), (.int (4 : Int32)), (.int (2 : Int32))] 3 = mkF m 0 #[.val (.ref a1), .val (.int (4 : Int32)), .val (.int (2 : Int32))] [] := by first | (simp [entryFrame, mkF, argsToLocals, Value.category]; done) | rfl
def Q3 (Z : State) (a1 : Addr) (u0 : Value) (u1 : Value) (u2 : Value) (u3 : Value) (h0 : Heap) (n0 : Nat) (v : Option Value) (h : Heap) (L : List Loc) : Prop := v = none ∧ Fr n0 L ∧ Keep h0 h [a1] ∧ Fld Z h a1 "com/example/pursuant/pursuant/dictionary/BandDictionary" "starts" "[I" u2 ∧ Fld Z h a1 "com/example/pursuant/pursuant/dictionary/BandDictionary" "stretches" "[[D" u3
set_option maxRecDepth 65536 in
set_option maxHeartbeats 40000000 in
theorem rm3 (l : Launch) (Z : State) (a0 : Array Value) (hw : ∀ d ∈ tables_1, d.before a0 Z = true) (ws : List Jvm.Cond) (a1 : Addr) (u0 : Value) (u1 : Value) (u2 : Value) (u3 : Value) (h0 : Heap) (n0 : Nat) (Z0 : n0 ≤ h0.size) (E143 : Exa Z h0 a1 "com/example/pursuant/pursuant/dictionary/BandDictionary") (F144 : Fld Z h0 a1 "com/example/pursuant/pursuant/dictionary/Dictionary" "n" "I" u0) (F145 : Fld Z h0 a1 "com/example/pursuant/pursuant/dictionary/Dictionary" "k" "I" u1) (F146 : Fld Z h0 a1 "com/example/pursuant/pursuant/dictionary/BandDictionary" "starts" "[I" u2) (F147 : Fld Z h0 a1 "com/example/pursuant/pursuant/dictionary/BandDictionary" "stretches" "[[D" u3) (g148 : n0 ≤ a1) :
    MetFree l (⟨"com/example/pursuant/pursuant/dictionary/Dictionary", "<init>", "(II)V"⟩ : MethodName) (head1 (Jvm.Cond.code (⟨"com/example/pursuant/pursuant/dictionary/Dictionary", "<init>", "(II)V"⟩ : MethodName) prog_4_method_1_code 3 none :: ws) ({ frames := 1, cells := 0, slots := 0, locals := 12 } : Room)) (fun a U => a = #[(.ref a1), (.int (4 : Int32)), (.int (2 : Int32))] ∧ Z.Warmed39 U.vm ∧ U.heap = h0) (fun _ _ _ _ _ => True) (fun _ U o U' => ∃ v L, o = .returned v ∧ Q3 Z a1 u0 u1 u2 u3 h0 n0 v U'.heap L ∧ FrameEnd U o U' L 0 0) := by
  refine MetFree.of_bodySF (plainFor_of_name pn_2) hisR ?_
  intro p e s m args below meth c s₁ Bd hml0 hP hK
  obtain ⟨rfl, hZ, hh⟩ := hP
  have hx := Bd.exec
  have hby := Bd.bytes
  have hml : c.maxLocals = 3 := hml0
  have hown : s.vm.findClass "com/example/pursuant/pursuant/dictionary/Dictionary" = some m.cls := findClass_of_methodNamed Bd.named
  have hnm := (name_of_methodNamed Bd.named Bd.method).1
  have X0 : Stand p l e ({ frames := 1, cells := 0, slots := 0, locals := 12 } : Room) s m #[(.ref a1), (.int (4 : Int32)), (.int (2 : Int32))] below meth c s₁ [] 0 0 := Stand.of_body Bd
  have e0 : s₁.heap = h0 := by rw [← hh, Bd.state]; rfl
  have N0 := Fr.nil n0
  have A0 := (⟨X0, hx, hby⟩ : Ax _ _ _ _ _ _ _ _ _ _ _ _ _ _ _)
  show Go p e below (fun U o => ∃ v L, o = .returned v ∧ Q3 Z a1 u0 u1 u2 u3 h0 n0 v U.heap L ∧ FrameEnd s o U L 0 0) s₁ (entryFrame m #[(.ref a1), (.int (4 : Int32)), (.int (2 : Int32))] 3)
  refine Go.cast (ef142 m a1 u0 u1 u2 u3) ?_
  refine g_aloadN A0 d3_0 rfl rfl (pc' := 1) rfl ?_
  obtain ⟨T149, X149, e149, st149⟩ := initO X0 hx hZ hown (hw _ (List.mem_of_getElem? (i := 17) rfl)) (hw _ (List.mem_of_getElem? (i := 18) rfl)) (hw _ (List.mem_of_getElem? (i := 19) rfl)) e0 (g := (mkF m 1 #[.val (.ref a1), .val (.int (4 : Int32)), .val (.int (2 : Int32))] [(.ref a1)])) rfl (by rw [hml]; rfl) rfl (hb hby d3_1) (by decide) (W := 0) (by show 2 * 0 + _ ≤ _; exact Nat.le_of_eq rfl) (by decide)
  refine Go.of (g' := (mkF m 4 #[.val (.ref a1), .val (.int (4 : Int32)), .val (.int (2 : Int32))] [])) st149 ?_
  have A150 := (⟨X149, hx, hby⟩ : Ax _ _ _ _ _ _ _ _ _ _ _ _ _ _ _)
  refine g_iloadN A150 d3_4 rfl (pc' := 5) rfl ?_
  refine g_iconst A150 d3_5 (v := (1 : Int32)) rfl (pc' := 6) rfl ?_
  refine g_icN A150 d3_6 (c2_lt_f (by decide)) (pc' := 9) rfl ?_
  refine g_iloadN A150 d3_9 rfl (pc' := 10) rfl ?_
  refine g_iconst A150 d3_10 (v := (1 : Int32)) rfl (pc' := 11) rfl ?_
  refine g_icY A150 d3_11 (c2_ge_t (by decide)) (pc' := 29) rfl ?_
  refine g_aloadN A150 d3_29 rfl rfl (pc' := 30) rfl ?_
  refine g_iloadN A150 d3_30 rfl (pc' := 31) rfl ?_
  obtain ⟨T151, h151, X151, e151, W151, st151⟩ := putF X149 hx hZ hown (host := "") (Or.inl (hw _ (List.mem_of_getElem? (i := 20) rfl))) Via.refl e149 F144 E143 (Or.inr ⟨(hw _ (List.mem_of_getElem? (i := 21) rfl)), rfl, hnm⟩) (hw _ (List.mem_of_getElem? (i := 7) rfl)) (ty := .int) (by decide) rfl rfl (g := (mkF m 31 #[.val (.ref a1), .val (.int (4 : Int32)), .val (.int (2 : Int32))] [(.int (4 : Int32)), (.ref a1)])) rfl rfl (hb hby d3_31)
  have N152 := Fr.snoc X151 N0 g148
  have K153 : Keep h0 h151 [a1] := (Keep.refl h0 [a1]).wr W151 (Or.inl (List.mem_of_getElem? (i := 0) rfl))
  have E154 : Exa Z h151 a1 "com/example/pursuant/pursuant/dictionary/BandDictionary" := Exa.wr W151 E143
  have F155 : Fld Z h151 a1 "com/example/pursuant/pursuant/dictionary/Dictionary" "k" "I" u1 := Fld.other W151 F145 (Or.inr (slot_ne (Or.inr (hw _ (List.mem_of_getElem? (i := 23) rfl))) (Or.inr (hw _ (List.mem_of_getElem? (i := 21) rfl))) (by decide) (t := .int) (t' := .int) (by decide) (by decide)))
  have F156 : Fld Z h151 a1 "com/example/pursuant/pursuant/dictionary/BandDictionary" "starts" "[I" u2 := Fld.other W151 F146 (Or.inr (slot_ne (Or.inr (hw _ (List.mem_of_getElem? (i := 30) rfl))) (Or.inr (hw _ (List.mem_of_getElem? (i := 21) rfl))) (by decide) (t := (.array .int)) (t' := .int) (by decide) (by decide)))
  have F157 : Fld Z h151 a1 "com/example/pursuant/pursuant/dictionary/BandDictionary" "stretches" "[[D" u3 := Fld.other W151 F147 (Or.inr (slot_ne (Or.inr (hw _ (List.mem_of_getElem? (i := 34) rfl))) (Or.inr (hw _ (List.mem_of_getElem? (i := 21) rfl))) (by decide) (t := (.array (.array .double))) (t' := .int) (by decide) (by decide)))
  have F158 : Fld Z h151 a1 "com/example/pursuant/pursuant/dictionary/Dictionary" "n" "I" (.int (4 : Int32)) := Fld.same W151 F144
  have Z159 : n0 ≤ h151.size := by rw [W151.size]; exact Z0
  refine Go.of (g' := (mkF m 34 #[.val (.ref a1), .val (.int (4 : Int32)), .val (.int (2 : Int32))] [])) st151 ?_
  have A160 := (⟨X151, hx, hby⟩ : Ax _ _ _ _ _ _ _ _ _ _ _ _ _ _ _)
  refine g_aloadN A160 d3_34 rfl rfl (pc' := 35) rfl ?_
  refine g_iloadN A160 d3_35 rfl (pc' := 36) rfl ?_
  obtain ⟨T161, h161, X161, e161, W161, st161⟩ := putF X151 hx hZ hown (host := "") (Or.inl (hw _ (List.mem_of_getElem? (i := 22) rfl))) Via.refl e151 F155 E154 (Or.inr ⟨(hw _ (List.mem_of_getElem? (i := 23) rfl)), rfl, hnm⟩) (hw _ (List.mem_of_getElem? (i := 7) rfl)) (ty := .int) (by decide) rfl rfl (g := (mkF m 36 #[.val (.ref a1), .val (.int (4 : Int32)), .val (.int (2 : Int32))] [(.int (2 : Int32)), (.ref a1)])) rfl rfl (hb hby d3_36)
  have N162 := Fr.snoc X161 N152 g148
  have K163 : Keep h0 h161 [a1] := K153.wr W161 (Or.inl (List.mem_of_getElem? (i := 0) rfl))
  have E164 : Exa Z h161 a1 "com/example/pursuant/pursuant/dictionary/BandDictionary" := Exa.wr W161 E154
  have F165 : Fld Z h161 a1 "com/example/pursuant/pursuant/dictionary/BandDictionary" "starts" "[I" u2 := Fld.other W161 F156 (Or.inr (slot_ne (Or.inr (hw _ (List.mem_of_getElem? (i := 30) rfl))) (Or.inr (hw _ (List.mem_of_getElem? (i := 23) rfl))) (by decide) (t := (.array .int)) (t' := .int) (by decide) (by decide)))
  have F166 : Fld Z h161 a1 "com/example/pursuant/pursuant/dictionary/BandDictionary" "stretches" "[[D" u3 := Fld.other W161 F157 (Or.inr (slot_ne (Or.inr (hw _ (List.mem_of_getElem? (i := 34) rfl))) (Or.inr (hw _ (List.mem_of_getElem? (i := 23) rfl))) (by decide) (t := (.array (.array .double))) (t' := .int) (by decide) (by decide)))
  have F167 : Fld Z h161 a1 "com/example/pursuant/pursuant/dictionary/Dictionary" "n" "I" (.int (4 : Int32)) := Fld.other W161 F158 (Or.inr (slot_ne (Or.inr (hw _ (List.mem_of_getElem? (i := 21) rfl))) (Or.inr (hw _ (List.mem_of_getElem? (i := 23) rfl))) (by decide) (t := .int) (t' := .int) (by decide) (by decide)))
  have F168 : Fld Z h161 a1 "com/example/pursuant/pursuant/dictionary/Dictionary" "k" "I" (.int (2 : Int32)) := Fld.same W161 F155
  have Z169 : n0 ≤ h161.size := by rw [W161.size]; exact Z159
  refine Go.of (g' := (mkF m 39 #[.val (.ref a1), .val (.int (4 : Int32)), .val (.int (2 : Int32))] [])) st161 ?_
  have A170 := (⟨X161, hx, hby⟩ : Ax _ _ _ _ _ _ _ _ _ _ _ _ _ _ _)
  exact g_retV (Q := Q3 Z a1 u0 u1 u2 u3 h0 n0) A170 d3_39 Bd.notSynchronized Bd.returns (by decide) (by decide) (by rw [e161]; exact ⟨rfl, N162, K163, F165, F166⟩)
theorem d5_0 : decode prog_4_method_28_code 0 = .ok (.aload_n 2, 1) := by decide +kernel
theorem d5_1 : decode prog_4_method_28_code 1 = .ok (.arraylength, 1) := by decide +kernel
theorem d5_2 : decode prog_4_method_28_code 2 = .ok (.i2l, 1) := by decide +kernel
theorem d5_3 : decode prog_4_method_28_code 3 = .ok (.iload_n 0, 1) := by decide +kernel
theorem d5_4 : decode prog_4_method_28_code 4 = .ok (.i2l, 1) := by decide +kernel
theorem d5_5 : decode prog_4_method_28_code 5 = .ok (.iload_n 1, 1) := by decide +kernel
theorem d5_6 : decode prog_4_method_28_code 6 = .ok (.i2l, 1) := by decide +kernel
theorem d5_7 : decode prog_4_method_28_code 7 = .ok (.lmul, 1) := by decide +kernel
theorem d5_8 : decode prog_4_method_28_code 8 = .ok (.lcmp, 1) := by decide +kernel
theorem d5_9 : decode prog_4_method_28_code 9 = .ok (.ifCond .eq 25, 3) := by decide +kernel
theorem d5_12 : decode prog_4_method_28_code 12 = .ok (.new 7, 3) := by decide +kernel
theorem d5_15 : decode prog_4_method_28_code 15 = .ok (.dup, 1) := by decide +kernel
theorem d5_16 : decode prog_4_method_28_code 16 = .ok (.aload_n 2, 1) := by decide +kernel
theorem d5_17 : decode prog_4_method_28_code 17 = .ok (.arraylength, 1) := by decide +kernel
theorem d5_18 : decode prog_4_method_28_code 18 = .ok (.iload_n 0, 1) := by decide +kernel
theorem d5_19 : decode prog_4_method_28_code 19 = .ok (.i2l, 1) := by decide +kernel
theorem d5_20 : decode prog_4_method_28_code 20 = .ok (.iload_n 1, 1) := by decide +kernel
theorem d5_21 : decode prog_4_method_28_code 21 = .ok (.i2l, 1) := by decide +kernel
theorem d5_22 : decode prog_4_method_28_code 22 = .ok (.lmul, 1) := by decide +kernel
theorem d5_23 : decode prog_4_method_28_code 23 = .ok (.iload_n 0, 1) := by decide +kernel
theorem d5_24 : decode prog_4_method_28_code 24 = .ok (.iload_n 1, 1) := by decide +kernel
theorem d5_25 : decode prog_4_method_28_code 25 = .ok (.invokedynamic 117, 5) := by decide +kernel
theorem d5_30 : decode prog_4_method_28_code 30 = .ok (.invokespecial 13, 3) := by decide +kernel
theorem d5_33 : decode prog_4_method_28_code 33 = .ok (.athrow, 1) := by decide +kernel
theorem d5_34 : decode prog_4_method_28_code 34 = .ok (.return_, 1) := by decide +kernel
theorem ef171 (m : MethodId) (va : Addr) (f : Nat → Value) : entryFrame m #[(.int (4 : Int32)), (.int (2 : Int32)), (.ref va)] 3 = mkF m 0 #[.val (.int (4 : Int32)), .val (.int (2 : Int32)), .val (.ref va)] [] := by first | (simp [entryFrame, mkF, argsToLocals, Value.category]; done) | rfl
def Q5 (Z : State) (va : Addr) (f : Nat → Value) (h0 : Heap) (n0 : Nat) (v : Option Value) (h : Heap) (L : List Loc) : Prop := v = none ∧ Fr n0 L ∧ h = h0
set_option maxRecDepth 65536 in
set_option maxHeartbeats 40000000 in
theorem rm5 (l : Launch) (Z : State) (a0 : Array Value) (hw : ∀ d ∈ tables_1, d.before a0 Z = true) (ws : List Jvm.Cond) (va : Addr) (f : Nat → Value) (h0 : Heap) (n0 : Nat) (Z0 : n0 ≤ h0.size) (V172 : Dar Z h0 va .double 8 f) :
    MetFree l (⟨"com/example/pursuant/pursuant/dictionary/Dictionary", "checkValueCount", "(II[D)V"⟩ : MethodName) (head1 (Jvm.Cond.code (⟨"com/example/pursuant/pursuant/dictionary/Dictionary", "checkValueCount", "(II[D)V"⟩ : MethodName) prog_4_method_28_code 3 none :: ws) ({ frames := 0, cells := 0, slots := 0, locals := 0 } : Room)) (fun a U => a = #[(.int (4 : Int32)), (.int (2 : Int32)), (.ref va)] ∧ Z.Warmed39 U.vm ∧ U.heap = h0) (fun _ _ _ _ _ => True) (fun _ U o U' => ∃ v L, o = .returned v ∧ Q5 Z va f h0 n0 v U'.heap L ∧ FrameEnd U o U' L 0 0) := by
  refine MetFree.of_bodySF (plainFor_of_name pn_2) hisR ?_
  intro p e s m args below meth c s₁ Bd hml0 hP hK
  obtain ⟨rfl, hZ, hh⟩ := hP
  have hx := Bd.exec
  have hby := Bd.bytes
  have hml : c.maxLocals = 3 := hml0
  have hown : s.vm.findClass "com/example/pursuant/pursuant/dictionary/Dictionary" = some m.cls := findClass_of_methodNamed Bd.named
  have hnm := (name_of_methodNamed Bd.named Bd.method).1
  have X0 : Stand p l e ({ frames := 0, cells := 0, slots := 0, locals := 0 } : Room) s m #[(.int (4 : Int32)), (.int (2 : Int32)), (.ref va)] below meth c s₁ [] 0 0 := Stand.of_body Bd
  have e0 : s₁.heap = h0 := by rw [← hh, Bd.state]; rfl
  have N0 := Fr.nil n0
  have A0 := (⟨X0, hx, hby⟩ : Ax _ _ _ _ _ _ _ _ _ _ _ _ _ _ _)
  show Go p e below (fun U o => ∃ v L, o = .returned v ∧ Q5 Z va f h0 n0 v U.heap L ∧ FrameEnd s o U L 0 0) s₁ (entryFrame m #[(.int (4 : Int32)), (.int (2 : Int32)), (.ref va)] 3)
  refine Go.cast (ef171 m va f) ?_
  refine g_aloadN A0 d5_0 rfl rfl (pc' := 1) rfl ?_
  refine g_alen A0 hZ e0 V172 d5_1 (z := (8 : Int32)) rfl (pc' := 2) rfl ?_
  refine g_i2l A0 d5_2 (pc' := 3) rfl ?_
  refine g_iloadN A0 d5_3 rfl (pc' := 4) rfl ?_
  refine g_i2l A0 d5_4 (pc' := 5) rfl ?_
  refine g_iloadN A0 d5_5 rfl (pc' := 6) rfl ?_
  refine g_i2l A0 d5_6 (pc' := 7) rfl ?_
  refine g_lmul A0 d5_7 (pc' := 8) rfl ?_
  refine g_lcmp A0 d5_8 (pc' := 9) rfl ?_
  refine g_ifY A0 d5_9 (c0_eq_t ((l_eq ((8 : Int32).toInt64) (((4 : Int32).toInt64) * ((2 : Int32).toInt64))).mpr (by decide))) (pc' := 34) rfl ?_
  exact g_retV (Q := Q5 Z va f h0 n0) A0 d5_34 Bd.notSynchronized Bd.returns (by decide) (by decide) (by rw [e0]; exact ⟨rfl, N0, rfl⟩)
theorem d2_0 : decode prog_1_method_1_code 0 = .ok (.aload_n 0, 1) := by decide +kernel
theorem d2_1 : decode prog_1_method_1_code 1 = .ok (.iload_n 1, 1) := by decide +kernel
theorem d2_2 : decode prog_1_method_1_code 2 = .ok (.iload_n 2, 1) := by decide +kernel
theorem d2_3 : decode prog_1_method_1_code 3 = .ok (.invokespecial 1, 3) := by decide +kernel
theorem d2_6 : decode prog_1_method_1_code 6 = .ok (.iload_n 1, 1) := by decide +kernel
theorem d2_7 : decode prog_1_method_1_code 7 = .ok (.iload_n 2, 1) := by decide +kernel
theorem d2_8 : decode prog_1_method_1_code 8 = .ok (.aload_n 3, 1) := by decide +kernel
theorem d2_9 : decode prog_1_method_1_code 9 = .ok (.invokestatic 7, 3) := by decide +kernel
theorem d2_12 : decode prog_1_method_1_code 12 = .ok (.aload_n 0, 1) := by decide +kernel
theorem d2_13 : decode prog_1_method_1_code 13 = .ok (.iload_n 2, 1) := by decide +kernel
theorem d2_14 : decode prog_1_method_1_code 14 = .ok (.newarray .int, 2) := by decide +kernel
theorem d2_16 : decode prog_1_method_1_code 16 = .ok (.putfield 13, 3) := by decide +kernel
theorem d2_19 : decode prog_1_method_1_code 19 = .ok (.aload_n 0, 1) := by decide +kernel
theorem d2_20 : decode prog_1_method_1_code 20 = .ok (.iload_n 2, 1) := by decide +kernel
theorem d2_21 : decode prog_1_method_1_code 21 = .ok (.anewarray 17, 3) := by decide +kernel
theorem d2_24 : decode prog_1_method_1_code 24 = .ok (.putfield 19, 3) := by decide +kernel
theorem d2_27 : decode prog_1_method_1_code 27 = .ok (.iconst 0, 1) := by decide +kernel
theorem d2_28 : decode prog_1_method_1_code 28 = .ok (.istore 4, 2) := by decide +kernel
theorem d2_30 : decode prog_1_method_1_code 30 = .ok (.iload 4, 2) := by decide +kernel
theorem d2_32 : decode prog_1_method_1_code 32 = .ok (.iload_n 2, 1) := by decide +kernel
theorem d2_33 : decode prog_1_method_1_code 33 = .ok (.if_icmp .ge 27, 3) := by decide +kernel
theorem d2_36 : decode prog_1_method_1_code 36 = .ok (.aload_n 0, 1) := by decide +kernel
theorem d2_37 : decode prog_1_method_1_code 37 = .ok (.iload 4, 2) := by decide +kernel
theorem d2_39 : decode prog_1_method_1_code 39 = .ok (.aload_n 3, 1) := by decide +kernel
theorem d2_40 : decode prog_1_method_1_code 40 = .ok (.iload 4, 2) := by decide +kernel
theorem d2_42 : decode prog_1_method_1_code 42 = .ok (.iload_n 1, 1) := by decide +kernel
theorem d2_43 : decode prog_1_method_1_code 43 = .ok (.imul, 1) := by decide +kernel
theorem d2_44 : decode prog_1_method_1_code 44 = .ok (.iload 4, 2) := by decide +kernel
theorem d2_46 : decode prog_1_method_1_code 46 = .ok (.iload_n 1, 1) := by decide +kernel
theorem d2_47 : decode prog_1_method_1_code 47 = .ok (.imul, 1) := by decide +kernel
theorem d2_48 : decode prog_1_method_1_code 48 = .ok (.iload_n 1, 1) := by decide +kernel
theorem d2_49 : decode prog_1_method_1_code 49 = .ok (.iadd, 1) := by decide +kernel
theorem d2_50 : decode prog_1_method_1_code 50 = .ok (.iconst 0, 1) := by decide +kernel
theorem d2_51 : decode prog_1_method_1_code 51 = .ok (.invokevirtual 23, 3) := by decide +kernel
theorem d2_54 : decode prog_1_method_1_code 54 = .ok (.iinc 4 1, 3) := by decide +kernel
theorem d2_57 : decode prog_1_method_1_code 57 = .ok (.goto (-27), 3) := by decide +kernel
theorem d2_60 : decode prog_1_method_1_code 60 = .ok (.return_, 1) := by decide +kernel
theorem ef173 (m : MethodId) (a1 : Addr) (va : Addr) (x : Nat → UInt64) (u0 : Value) (u1 : Value) (u2 : Value) (u3 : Value) : entryFrame m #[(.ref a1), (.int (4 : Int32)), (.int (2 : Int32)), (.ref va)] 5 = mkF m 0 #[.val (.ref a1), .val (.int (4 : Int32)), .val (.int (2 : Int32)), .val (.ref va), .unset] [] := by first | (simp [entryFrame, mkF, argsToLocals, Value.category]; done) | rfl
def Q2 (Z : State) (a1 : Addr) (va : Addr) (x : Nat → UInt64) (u0 : Value) (u1 : Value) (u2 : Value) (u3 : Value) (h0 : Heap) (n0 : Nat) (v : Option Value) (h : Heap) (L : List Loc) : Prop := ∃ sa : Addr, ∃ ta : Addr, ∃ ra0 : Nat, ∃ rb0 : Nat, ∃ r0 : Addr, ∃ ra1 : Nat, ∃ rb1 : Nat, ∃ r1 : Addr, v = none ∧ Fr n0 L ∧ Keep h0 h [a1] ∧ h0.size ≤ sa ∧ h0.size ≤ ta ∧ Fld Z h a1 "com/example/pursuant/pursuant/dictionary/BandDictionary" "starts" "[I" (.ref sa) ∧ Fld Z h a1 "com/example/pursuant/pursuant/dictionary/BandDictionary" "stretches" "[[D" (.ref ta) ∧ h0.size ≤ r0 ∧ Dar Z h r0 .double (rb0 - ra0) (fun t => .double (x (ra0 + t))) ∧ h0.size ≤ r1 ∧ Dar Z h r1 .double (rb1 - ra1) (fun t => .double (x (ra1 + t))) ∧ Dar Z h sa .int 2 (fun j => if j = 1 then .int (own_s ra1 rb1 4) else (fun j => if j = 0 then .int (own_s ra0 rb0 0) else (fun _ => .int (0 : Int32)) j) j) ∧ Dar Z h ta (.array .double) 2 (fun j => if j = 1 then .ref r1 else (fun j => if j = 0 then .ref r0 else (fun _ => .null) j) j) ∧ own_S x 0 4 ra0 rb0 ∧ own_S x 4 8 ra1 rb1
theorem pd_3 : parseMethodDescriptor "(II[D)V" = some ⟨[.int, .int, (.array .double)], none⟩ := by decide +kernel
theorem own_callSU {p : Program} {l : Launch} {e : Env} {R : Room} {s : State} {m : MethodId} {args : Array Value} {below : List Frame} {meth : Method} {c : Code} {T : State} {locs : List Loc} {cells slots : Nat} (X : Stand p l e R s m args below meth c T locs cells slots) (hexec : p.tables.exec = Jvm.exec) {own owner : String} {index : Nat} {x : MethodName} {bytes : ByteArray} {maxL : Nat} {ret : Option FieldType}
    (hown : s.vm.findClass own = some m.cls) (hlink : (Jvm.Cond.methodLink own index x).before args s = true) (hsame : (Jvm.Cond.sameMethod x.cls owner x.name x.desc).before args s = true)
    (hstat : (Jvm.Cond.static ⟨owner, x.name, x.desc⟩).before args s = true) (hinit : (Jvm.Cond.initialized owner).before args s = true) (hcode : (Jvm.Cond.code ⟨owner, x.name, x.desc⟩ bytes maxL ret).before args s = true)
    (howner : owner ≠ "java/lang/invoke/MethodHandle" ∧ owner ≠ "java/lang/invoke/VarHandle")
    {W : Nat} {Pre : Pt → Array Value → Prop} {Post : Pt → Array Value → Option Value → Pt → Prop} (hK : Back l R p e below s args ⟨owner, x.name, x.desc⟩ 3 W Pre Post)
    {g : JFrame} (hg : g.method = m) (hsize : g.locals.size = c.maxLocals) {argsL rest : List Value} (hlen : ∀ sig, parseMethodDescriptor x.desc = some sig → argsL.length = sig.parameters.length)
    (hstack : g.stack = argsL.reverse ++ rest) (hW : 2 * g.monitorRoom + (rest.map fun v => v.category).sum ≤ W) (hdg : decode c.code g.pc = .ok (.invokestatic index, 3))
    (hpre : ∀ vm₁, s.WarmedH vm₁ → Pre ⟨T.setVm vm₁, locs, cells, slots⟩ argsL.toArray) :
    ∃ (v : Option Value) (vm₁ : Vm) (B : Pt), s.WarmedH vm₁ ∧ Stand p l e R s m args below meth c B.U B.locs B.cells B.slots ∧ Post ⟨T.setVm vm₁, locs, cells, slots⟩ argsL.toArray v B ∧
      ∀ target, Steps p.tables e below (B.U.setTop { g with pc := g.pc + 3, stack := v.toList ++ rest }) target → Steps p.tables e below (T.setTop g) target := by
  obtain ⟨mk, hnamed⟩ := Cond.code_named hcode
  obtain ⟨methM, cM, hmethM, -, -, -, -, -, -, hsigM⟩ := Cond.code_spec hnamed hcode
  obtain ⟨v, vm₁, B, h1, h2, h3, h4⟩ := X.staticBackUp hexec hown hlink hsame hstat hinit hnamed hmethM hsigM howner hK hg hsize (Steps.refl _) hlen hstack hW hdg hpre
  exact ⟨v, vm₁, B, h1, h2, h3, fun target h => h4.trans h⟩
theorem pd_4 : parseMethodDescriptor "(I[DIII)V" = some ⟨[.int, (.array .double), .int, .int, .int], none⟩ := by decide +kernel
theorem own_selP {s : State} {args : Array Value} {y : MethodName} {n : Nat} (hi : (Jvm.Cond.instantiable y.cls n).before args s = true) (hpriv : s.PrivateAt y) (hinst : (Jvm.Cond.instanceMethod y).before args s = true) (hy : y.cls ≠ "java/lang/invoke/MethodHandle" ∧ y.cls ≠ "java/lang/invoke/VarHandle") : (Jvm.Cond.selects y.cls y y).before args s = true := by
  obtain ⟨c, k, h1, h2, -, h3, -⟩ := Cond.instantiable_spec hi
  exact Stand.selects_self_of_private h1 h2 (by cases q : k.isInterface with | false => rfl | true => rw [q] at h3; cases h3) hpriv hinst hy
set_option maxRecDepth 65536 in
set_option maxHeartbeats 40000000 in
theorem rm2 (l : Launch) (Z : State) (a0 : Array Value) (hw : ∀ d ∈ tables_1, d.before a0 Z = true) (ws : List Jvm.Cond) (a1 : Addr) (va : Addr) (x : Nat → UInt64) (u0 : Value) (u1 : Value) (u2 : Value) (u3 : Value) (h0 : Heap) (n0 : Nat) (Z0 : n0 ≤ h0.size) (E174 : Exa Z h0 a1 "com/example/pursuant/pursuant/dictionary/BandDictionary") (F175 : Fld Z h0 a1 "com/example/pursuant/pursuant/dictionary/Dictionary" "n" "I" u0) (F176 : Fld Z h0 a1 "com/example/pursuant/pursuant/dictionary/Dictionary" "k" "I" u1) (F177 : Fld Z h0 a1 "com/example/pursuant/pursuant/dictionary/BandDictionary" "starts" "[I" u2) (F178 : Fld Z h0 a1 "com/example/pursuant/pursuant/dictionary/BandDictionary" "stretches" "[[D" u3) (V179 : Dar Z h0 va .double 8 (fun t => .double (x t))) (g180 : n0 ≤ a1) (ne181 : va ≠ a1) :
    MetFree l (⟨"com/example/pursuant/pursuant/dictionary/BandDictionary", "<init>", "(II[D)V"⟩ : MethodName) (head1 (Jvm.Cond.code (⟨"com/example/pursuant/pursuant/dictionary/BandDictionary", "<init>", "(II[D)V"⟩ : MethodName) prog_1_method_1_code 5 none :: ws) ({ frames := 4, cells := 4, slots := 12, locals := 69 } : Room)) (fun a U => a = #[(.ref a1), (.int (4 : Int32)), (.int (2 : Int32)), (.ref va)] ∧ Z.Warmed39 U.vm ∧ U.heap = h0) (fun _ _ _ _ _ => True) (fun _ U o U' => ∃ v L, o = .returned v ∧ Q2 Z a1 va x u0 u1 u2 u3 h0 n0 v U'.heap L ∧ FrameEnd U o U' L 4 12) := by
  refine MetFree.of_bodySF (plainFor_of_name pn_1) hisR ?_
  intro p e s m args below meth c s₁ Bd hml0 hP hK
  obtain ⟨rfl, hZ, hh⟩ := hP
  have hx := Bd.exec
  have hby := Bd.bytes
  have hml : c.maxLocals = 5 := hml0
  have hown : s.vm.findClass "com/example/pursuant/pursuant/dictionary/BandDictionary" = some m.cls := findClass_of_methodNamed Bd.named
  have hnm := (name_of_methodNamed Bd.named Bd.method).1
  have X0 : Stand p l e ({ frames := 4, cells := 4, slots := 12, locals := 69 } : Room) s m #[(.ref a1), (.int (4 : Int32)), (.int (2 : Int32)), (.ref va)] below meth c s₁ [] 0 0 := Stand.of_body Bd
  have e0 : s₁.heap = h0 := by rw [← hh, Bd.state]; rfl
  have N0 := Fr.nil n0
  have A0 := (⟨X0, hx, hby⟩ : Ax _ _ _ _ _ _ _ _ _ _ _ _ _ _ _)
  show Go p e below (fun U o => ∃ v L, o = .returned v ∧ Q2 Z a1 va x u0 u1 u2 u3 h0 n0 v U.heap L ∧ FrameEnd s o U L 4 12) s₁ (entryFrame m #[(.ref a1), (.int (4 : Int32)), (.int (2 : Int32)), (.ref va)] 5)
  refine Go.cast (ef173 m a1 va x u0 u1 u2 u3) ?_
  refine g_aloadN A0 d2_0 rfl rfl (pc' := 1) rfl ?_
  refine g_iloadN A0 d2_1 rfl (pc' := 2) rfl ?_
  refine g_iloadN A0 d2_2 rfl (pc' := 3) rfl ?_
  obtain ⟨vv182, _, ⟨T182, L182, k182, n182⟩, -, X182, ⟨L182c, hQ182, l182, y182, z182⟩, st182⟩ := X0.specialBack hx (y := (⟨"com/example/pursuant/pursuant/dictionary/Dictionary", "<init>", "(II)V"⟩ : MethodName)) rfl hown (mvT hZ (hw _ (List.mem_of_getElem? (i := 12) rfl))) (mvT hZ (hw _ (List.mem_of_getElem? (i := 13) rfl))) (mvT hZ (hw _ (List.mem_of_getElem? (i := 16) rfl))) (by decide) (backOf (W := 0) (rm3 l Z a0 hw [] a1 u0 u1 u2 u3 h0 n0 Z0 E174 F175 F176 F177 F178 g180) hZ (hw _ (List.mem_of_getElem? (i := 16) rfl)) (hw _ (List.mem_of_getElem? (i := 15) rfl)) (by decide) (by decide)) (g := (mkF m 3 #[.val (.ref a1), .val (.int (4 : Int32)), .val (.int (2 : Int32)), .val (.ref va), .unset] [(.int (2 : Int32)), (.int (4 : Int32)), (.ref a1)])) rfl (by rw [hml]; rfl) (Steps.refl _) (a := a1) (argsL := [(.int (4 : Int32)), (.int (2 : Int32))]) (rest := []) (lenOf pd_0 rfl) rfl (by show 2 * 0 + _ ≤ _; exact Nat.le_of_eq rfl) (hb hby d2_3) (fun _ _ => ⟨rfl, e0, (by decide : 0 + 0 ≤ _), (by decide : 0 + 0 ≤ _)⟩)
  have hQ182b : Q3 Z a1 u0 u1 u2 u3 h0 n0 vv182 T182.heap L182c := hQ182
  clear hQ182
  dsimp only [Pt.U, Pt.locs, Pt.cells, Pt.slots] at X182 l182 y182 z182 st182
  subst y182 z182
  obtain ⟨rfl, Nq183, Kq184, F185, F186⟩ := hQ182b
  have N187 : Fr n0 L182 := by rw [l182]; exact Fr.app N0 Nq183
  refine Go.tr (g' := (mkF m 6 #[.val (.ref a1), .val (.int (4 : Int32)), .val (.int (2 : Int32)), .val (.ref va), .unset] [])) st182 ?_
  have E188 : Exa Z T182.heap a1 "com/example/pursuant/pursuant/dictionary/BandDictionary" := Exa.keep E174 Kq184
  have V189 : Dar Z T182.heap va .double 8 (fun t => .double (x t)) := Dar.keep V179 Kq184 (ninS ne181 nin0)
  have Z190 : n0 ≤ T182.heap.size := Nat.le_trans Z0 Kq184.1
  have K191 : Keep h0 T182.heap [a1] := (Keep.refl h0 [a1]).trans Kq184 (allS (Or.inl (List.mem_of_getElem? (i := 0) rfl)) all0)
  have A192 := (⟨X182, hx, hby⟩ : Ax _ _ _ _ _ _ _ _ _ _ _ _ _ _ _)
  refine g_iloadN A192 d2_6 rfl (pc' := 7) rfl ?_
  refine g_iloadN A192 d2_7 rfl (pc' := 8) rfl ?_
  refine g_aloadN A192 d2_8 rfl rfl (pc' := 9) rfl ?_
  obtain ⟨vv193, _, ⟨T193, L193, k193, n193⟩, -, X193, ⟨L193c, hQ193, l193, y193, z193⟩, st193⟩ := own_callSU X182 hx (x := (⟨"com/example/pursuant/pursuant/dictionary/BandDictionary", "checkValueCount", "(II[D)V"⟩ : MethodName)) (owner := "com/example/pursuant/pursuant/dictionary/Dictionary") hown (mvT hZ (hw _ (List.mem_of_getElem? (i := 24) rfl))) (mvT hZ (hw _ (List.mem_of_getElem? (i := 25) rfl))) (mvT hZ (hw _ (List.mem_of_getElem? (i := 26) rfl))) (mvT hZ (hw _ (List.mem_of_getElem? (i := 15) rfl))) (mvT hZ (hw _ (List.mem_of_getElem? (i := 27) rfl))) (by decide) (backOf (W := 0) (rm5 l Z a0 hw [] va (fun t => .double (x t)) T182.heap n0 Z190 V189) hZ (hw _ (List.mem_of_getElem? (i := 27) rfl)) (hw _ (List.mem_of_getElem? (i := 15) rfl)) (by decide) (by decide)) (g := (mkF m 9 #[.val (.ref a1), .val (.int (4 : Int32)), .val (.int (2 : Int32)), .val (.ref va), .unset] [(.ref va), (.int (2 : Int32)), (.int (4 : Int32))])) rfl (by rw [hml]; rfl) (argsL := [(.int (4 : Int32)), (.int (2 : Int32)), (.ref va)]) (rest := []) (lenOf pd_3 rfl) rfl (by show 2 * 0 + _ ≤ _; exact Nat.le_of_eq rfl) (hb hby d2_9) (fun _ _ => ⟨rfl, rfl, (by decide : 0 + 0 ≤ _), (by decide : 0 + 0 ≤ _)⟩)
  have hQ193b : Q5 Z va (fun t => .double (x t)) T182.heap n0 vv193 T193.heap L193c := hQ193
  clear hQ193
  dsimp only [Pt.U, Pt.locs, Pt.cells, Pt.slots] at X193 l193 y193 z193 st193
  subst y193 z193
  obtain ⟨rfl, Nq194, Kq195⟩ := hQ193b
  have N196 : Fr n0 L193 := by rw [l193]; exact Fr.app N187 Nq194
  refine Go.of (g' := (mkF m 12 #[.val (.ref a1), .val (.int (4 : Int32)), .val (.int (2 : Int32)), .val (.ref va), .unset] [])) st193 ?_
  have e197 : T193.heap = T182.heap := Kq195
  have A198 := (⟨X193, hx, hby⟩ : Ax _ _ _ _ _ _ _ _ _ _ _ _ _ _ _)
  refine g_aloadN A198 d2_12 rfl rfl (pc' := 13) rfl ?_
  refine g_iloadN A198 d2_13 rfl (pc' := 14) rfl ?_
  obtain ⟨T199, h199, k199, X199, e199, E199, Ar199, Ex199, st199⟩ := newPE X193 hx hZ (hw _ (List.mem_of_getElem? (i := 28) rfl)) e197 (g := (mkF m 14 #[.val (.ref a1), .val (.int (4 : Int32)), .val (.int (2 : Int32)), .val (.ref va), .unset] [(.int (2 : Int32)), (.ref a1)])) rfl (hb hby d2_14) rfl (by decide) (cap := 2) (by decide) (by decide) (by decide) (by decide) (ad := "[I") rfl
  obtain ⟨b200, eb200⟩ : ∃ z, z = T182.heap.size := ⟨_, rfl⟩
  rw [← eb200] at Ar199 st199 Ex199
  have ne201 : a1 ≠ b200 := own_ne eb200 E188.lt
  have ne202 : va ≠ b200 := own_ne eb200 V189.lt
  have g203 : n0 ≤ b200 := by rw [eb200]; exact Z190
  have gh204 : h0.size ≤ b200 := by rw [eb200]; exact K191.1
  have K205 : Keep h0 h199 [a1] := K191.ext E199
  have E206 : Exa Z h199 a1 "com/example/pursuant/pursuant/dictionary/BandDictionary" := Exa.ext E199 E188
  have V207 : Dar Z h199 va .double 8 (fun t => .double (x t)) := Dar.ext E199 V189
  have F208 : Fld Z h199 a1 "com/example/pursuant/pursuant/dictionary/BandDictionary" "starts" "[I" u2 := Fld.ext E199 F185
  have F209 : Fld Z h199 a1 "com/example/pursuant/pursuant/dictionary/BandDictionary" "stretches" "[[D" u3 := Fld.ext E199 F186
  have Z210 : n0 ≤ h199.size := Nat.le_trans Z190 E199.1
  have V211 : Dar Z h199 b200 .int 2 (fun _ => .int (0 : Int32)) := Dar.new Ar199 (by decide)
  refine Go.of (g' := (mkF m 16 #[.val (.ref a1), .val (.int (4 : Int32)), .val (.int (2 : Int32)), .val (.ref va), .unset] [(.ref b200), (.ref a1)])) st199 ?_
  have A212 := (⟨X199, hx, hby⟩ : Ax _ _ _ _ _ _ _ _ _ _ _ _ _ _ _)
  obtain ⟨T213, h213, X213, e213, W213, st213⟩ := putF X199 hx hZ hown (host := "") (Or.inl (hw _ (List.mem_of_getElem? (i := 29) rfl))) Via.refl e199 F208 E206 (Or.inr ⟨(hw _ (List.mem_of_getElem? (i := 30) rfl)), rfl, hnm⟩) (hw _ (List.mem_of_getElem? (i := 7) rfl)) (ty := (.array .int)) (by decide) rfl rfl (g := (mkF m 16 #[.val (.ref a1), .val (.int (4 : Int32)), .val (.int (2 : Int32)), .val (.ref va), .unset] [(.ref b200), (.ref a1)])) rfl rfl (hb hby d2_16)
  have N214 := Fr.snoc X213 N196 g180
  have K215 : Keep h0 h213 [a1] := K205.wr W213 (Or.inl (List.mem_of_getElem? (i := 0) rfl))
  have E216 : Exa Z h213 a1 "com/example/pursuant/pursuant/dictionary/BandDictionary" := Exa.wr W213 E206
  have V217 : Dar Z h213 va .double 8 (fun t => .double (x t)) := Dar.other W213 V207 ne181
  have F218 : Fld Z h213 a1 "com/example/pursuant/pursuant/dictionary/BandDictionary" "stretches" "[[D" u3 := Fld.other W213 F209 (Or.inr (slot_ne (Or.inr (hw _ (List.mem_of_getElem? (i := 34) rfl))) (Or.inr (hw _ (List.mem_of_getElem? (i := 30) rfl))) (by decide) (t := (.array (.array .double))) (t' := (.array .int)) (by decide) (by decide)))
  have V219 : Dar Z h213 b200 .int 2 (fun _ => .int (0 : Int32)) := Dar.other W213 V211 (Ne.symm ne201)
  have E220 : Exa Z h213 b200 "[I" := Exa.wr W213 Ex199
  have F221 : Fld Z h213 a1 "com/example/pursuant/pursuant/dictionary/BandDictionary" "starts" "[I" (.ref b200) := Fld.same W213 F208
  have Z222 : n0 ≤ h213.size := by rw [W213.size]; exact Z210
  refine Go.of (g' := (mkF m 19 #[.val (.ref a1), .val (.int (4 : Int32)), .val (.int (2 : Int32)), .val (.ref va), .unset] [])) st213 ?_
  have A223 := (⟨X213, hx, hby⟩ : Ax _ _ _ _ _ _ _ _ _ _ _ _ _ _ _)
  refine g_aloadN A223 d2_19 rfl rfl (pc' := 20) rfl ?_
  refine g_iloadN A223 d2_20 rfl (pc' := 21) rfl ?_
  obtain ⟨T224, h224, k224, X224, e224, E224, Ar224, Ex224, Ov224, st224⟩ := newRA X213 hx hZ hown (C := "[D") rfl (hw _ (List.mem_of_getElem? (i := 31) rfl)) (hw _ (List.mem_of_getElem? (i := 32) rfl)) e213 (g := (mkF m 21 #[.val (.ref a1), .val (.int (4 : Int32)), .val (.int (2 : Int32)), .val (.ref va), .unset] [(.int (2 : Int32)), (.ref a1)])) rfl (hb hby d2_21) rfl (by decide) (cap := 2) (by decide) (by decide) (by decide) (by decide) (ad := "[[D") rfl
  obtain ⟨b225, eb225⟩ : ∃ z, z = h213.size := ⟨_, rfl⟩
  rw [← eb225] at Ar224 st224
  have ne226 : a1 ≠ b225 := own_ne eb225 E216.lt
  have ne227 : b200 ≠ b225 := own_ne eb225 V219.lt
  have ne228 : va ≠ b225 := own_ne eb225 V217.lt
  have g229 : n0 ≤ b225 := by rw [eb225]; exact Z222
  have gh230 : h0.size ≤ b225 := by rw [eb225]; exact K215.1
  have K231 : Keep h0 h224 [a1] := K215.ext E224
  have E232 : Exa Z h224 a1 "com/example/pursuant/pursuant/dictionary/BandDictionary" := Exa.ext E224 E216
  have V233 : Dar Z h224 va .double 8 (fun t => .double (x t)) := Dar.ext E224 V217
  have F234 : Fld Z h224 a1 "com/example/pursuant/pursuant/dictionary/BandDictionary" "stretches" "[[D" u3 := Fld.ext E224 F218
  have V235 : Dar Z h224 b200 .int 2 (fun _ => .int (0 : Int32)) := Dar.ext E224 V219
  have E236 : Exa Z h224 b200 "[I" := Exa.ext E224 E220
  have F237 : Fld Z h224 a1 "com/example/pursuant/pursuant/dictionary/BandDictionary" "starts" "[I" (.ref b200) := Fld.ext E224 F221
  have Z238 : n0 ≤ h224.size := Nat.le_trans Z222 E224.1
  have V239 : Dar Z h224 b225 (.array .double) 2 (fun _ => .null) := Dar.new Ar224 (by decide)
  have O240 : Ovd Z h224 b225 := ⟨_, Ar224.1, Ov224⟩
  refine Go.of (g' := (mkF m 24 #[.val (.ref a1), .val (.int (4 : Int32)), .val (.int (2 : Int32)), .val (.ref va), .unset] [(.ref b225), (.ref a1)])) st224 ?_
  have A241 := (⟨X224, hx, hby⟩ : Ax _ _ _ _ _ _ _ _ _ _ _ _ _ _ _)
  obtain ⟨T242, h242, X242, e242, W242, st242⟩ := putF X224 hx hZ hown (host := "") (Or.inl (hw _ (List.mem_of_getElem? (i := 33) rfl))) Via.refl e224 F234 E232 (Or.inr ⟨(hw _ (List.mem_of_getElem? (i := 34) rfl)), rfl, hnm⟩) (hw _ (List.mem_of_getElem? (i := 7) rfl)) (ty := (.array (.array .double))) (by decide) rfl rfl (g := (mkF m 24 #[.val (.ref a1), .val (.int (4 : Int32)), .val (.int (2 : Int32)), .val (.ref va), .unset] [(.ref b225), (.ref a1)])) rfl rfl (hb hby d2_24)
  have N243 := Fr.snoc X242 N214 g180
  have K244 : Keep h0 h242 [a1] := K231.wr W242 (Or.inl (List.mem_of_getElem? (i := 0) rfl))
  have E245 : Exa Z h242 a1 "com/example/pursuant/pursuant/dictionary/BandDictionary" := Exa.wr W242 E232
  have V246 : Dar Z h242 va .double 8 (fun t => .double (x t)) := Dar.other W242 V233 ne181
  have V247 : Dar Z h242 b200 .int 2 (fun _ => .int (0 : Int32)) := Dar.other W242 V235 (Ne.symm ne201)
  have E248 : Exa Z h242 b200 "[I" := Exa.wr W242 E236
  have F249 : Fld Z h242 a1 "com/example/pursuant/pursuant/dictionary/BandDictionary" "starts" "[I" (.ref b200) := Fld.other W242 F237 (Or.inr (slot_ne (Or.inr (hw _ (List.mem_of_getElem? (i := 30) rfl))) (Or.inr (hw _ (List.mem_of_getElem? (i := 34) rfl))) (by decide) (t := (.array .int)) (t' := (.array (.array .double))) (by decide) (by decide)))
  have V250 : Dar Z h242 b225 (.array .double) 2 (fun _ => .null) := Dar.other W242 V239 (Ne.symm ne226)
  have O251 : Ovd Z h242 b225 := Ovd.wr W242 O240
  have F252 : Fld Z h242 a1 "com/example/pursuant/pursuant/dictionary/BandDictionary" "stretches" "[[D" (.ref b225) := Fld.same W242 F234
  have Z253 : n0 ≤ h242.size := by rw [W242.size]; exact Z238
  refine Go.of (g' := (mkF m 27 #[.val (.ref a1), .val (.int (4 : Int32)), .val (.int (2 : Int32)), .val (.ref va), .unset] [])) st242 ?_
  have A254 := (⟨X242, hx, hby⟩ : Ax _ _ _ _ _ _ _ _ _ _ _ _ _ _ _)
  refine g_iconst A254 d2_27 (v := (0 : Int32)) rfl (pc' := 28) rfl ?_
  refine g_istore A254 d2_28 (ls' := #[.val (.ref a1), .val (.int (4 : Int32)), .val (.int (2 : Int32)), .val (.ref va), .val (.int (0 : Int32))]) rfl (pc' := 30) rfl ?_
  refine g_iload A254 d2_30 rfl (pc' := 32) rfl ?_
  refine g_iloadN A254 d2_32 rfl (pc' := 33) rfl ?_
  refine g_icN A254 d2_33 (c2_ge_f (by decide)) (pc' := 36) rfl ?_
  refine g_aloadN A254 d2_36 rfl rfl (pc' := 37) rfl ?_
  refine g_iload A254 d2_37 rfl (pc' := 39) rfl ?_
  refine g_aloadN A254 d2_39 rfl rfl (pc' := 40) rfl ?_
  refine g_iload A254 d2_40 rfl (pc' := 42) rfl ?_
  refine g_iloadN A254 d2_42 rfl (pc' := 43) rfl ?_
  refine g_imulL A254 d2_43 (z := (0 : Int32)) (by decide) (pc' := 44) rfl ?_
  refine g_iload A254 d2_44 rfl (pc' := 46) rfl ?_
  refine g_iloadN A254 d2_46 rfl (pc' := 47) rfl ?_
  refine g_imulL A254 d2_47 (z := (0 : Int32)) (by decide) (pc' := 48) rfl ?_
  refine g_iloadN A254 d2_48 rfl (pc' := 49) rfl ?_
  refine g_iaddL A254 d2_49 (z := (4 : Int32)) (by decide) (pc' := 50) rfl ?_
  refine g_iconst A254 d2_50 (v := (0 : Int32)) rfl (pc' := 51) rfl ?_
  have hp255 : 0 < 2 := (by decide)
  have hp256 : 0 ≤ 4 := (by decide)
  have hp257 : 4 ≤ 8 := (by decide)
  have hp258 : 8 < 2147483648 := (by decide)
  have hp259 : 4 - 0 ≤ 4 := (by decide)
  have hp260 : 0 < 0 ∨ 4 < 8 := (by decide)
  obtain ⟨cq262, q262a, q262b⟩ := E245.cell
  obtain ⟨vv261, _, ⟨T261, L261, k261, n261⟩, -, X261, ⟨L261c, hQ261, l261, y261, z261⟩, st261⟩ := X242.privateBack hx (y := (⟨"com/example/pursuant/pursuant/dictionary/BandDictionary", "keepStretch", "(I[DIII)V"⟩ : MethodName)) hown (mvT hZ (hw _ (List.mem_of_getElem? (i := 35) rfl))) (mvT hZ (hw _ (List.mem_of_getElem? (i := 36) rfl))) (own_selP (mvT hZ (hw _ (List.mem_of_getElem? (i := 7) rfl))) (Cond.privateMethod_at (mvP hZ (hw _ (List.mem_of_getElem? (i := 37) rfl)) (args := #[]))) (mvT hZ (hw _ (List.mem_of_getElem? (i := 36) rfl))) (by decide)) (Cond.privateMethod_at (mvP hZ (hw _ (List.mem_of_getElem? (i := 37) rfl)) (args := #[]))) (mvT hZ (hw _ (List.mem_of_getElem? (i := 38) rfl))) (by decide) (backOf (W := 0) (rm6 l Z a0 hw [] a1 0 va 0 4 8 2 x b200 b225 (fun _ => .int (0 : Int32)) (fun _ => .null) h242 n0 Z253 E245 F249 F252 V246 V247 V250 O251 ne201 ne226 ne227 ne202 ne228 g203 g229 hp255 hp256 hp257 hp258 hp259 hp260) hZ (hw _ (List.mem_of_getElem? (i := 38) rfl)) (hw _ (List.mem_of_getElem? (i := 8) rfl)) (by decide) (by decide)) (g := (mkF m 51 #[.val (.ref a1), .val (.int (4 : Int32)), .val (.int (2 : Int32)), .val (.ref va), .val (.int (0 : Int32))] [(.int (0 : Int32)), (.int (4 : Int32)), (.int (0 : Int32)), (.ref va), (.int (0 : Int32)), (.ref a1)])) rfl (by rw [hml]; rfl) (Steps.refl _) (a := a1) (by rw [e242]; exact q262a) q262b (argsL := [(.int (0 : Int32)), (.ref va), (.int (0 : Int32)), (.int (4 : Int32)), (.int (0 : Int32))]) (rest := []) (lenOf pd_4 rfl) rfl (by show 2 * 0 + _ ≤ _; exact Nat.le_of_eq rfl) (hb hby d2_51) (fun _ _ => ⟨rfl, e242, (by decide : 2 + 1 ≤ _), (by decide : 4 + 4 ≤ _)⟩)
  have hQ261b : Q6 Z a1 0 va 0 4 8 2 x b200 b225 (fun _ => .int (0 : Int32)) (fun _ => .null) h242 n0 vv261 T261.heap L261c := hQ261
  clear hQ261
  dsimp only [Pt.U, Pt.locs, Pt.cells, Pt.slots] at X261 l261 y261 z261 st261
  subst y261 z261
  obtain ⟨ra263, rb264, r265, rfl, Nq266, Kq267, gx268, V269, V270, V271, hq272⟩ := hQ261b
  have N273 : Fr n0 L261 := by rw [l261]; exact Fr.app N243 Nq266
  refine Go.tr (g' := (mkF m 54 #[.val (.ref a1), .val (.int (4 : Int32)), .val (.int (2 : Int32)), .val (.ref va), .val (.int (0 : Int32))] [])) st261 ?_
  have E274 : Exa Z T261.heap a1 "com/example/pursuant/pursuant/dictionary/BandDictionary" := Exa.keep E245 Kq267
  have V275 : Dar Z T261.heap va .double 8 (fun t => .double (x t)) := Dar.keep V246 Kq267 (ninS ne202 (ninS ne228 nin0))
  have E276 : Exa Z T261.heap b200 "[I" := Exa.keep E248 Kq267
  have F277 : Fld Z T261.heap a1 "com/example/pursuant/pursuant/dictionary/BandDictionary" "starts" "[I" (.ref b200) := Fld.keep F249 Kq267 (ninS ne201 (ninS ne226 nin0))
  have O278 : Ovd Z T261.heap b225 := Ovd.keep O251 Kq267
  have F279 : Fld Z T261.heap a1 "com/example/pursuant/pursuant/dictionary/BandDictionary" "stretches" "[[D" (.ref b225) := Fld.keep F252 Kq267 (ninS ne201 (ninS ne226 nin0))
  have Z280 : n0 ≤ T261.heap.size := Nat.le_trans Z253 Kq267.1
  have K281 : Keep h0 T261.heap [a1] := K244.trans Kq267 (allS (Or.inr gh204) (allS (Or.inr gh230) all0))
  have A282 := (⟨X261, hx, hby⟩ : Ax _ _ _ _ _ _ _ _ _ _ _ _ _ _ _)
  have g283 : n0 ≤ r265 := Nat.le_trans Z253 gx268
  have gh284 : h0.size ≤ r265 := Nat.le_trans K244.1 gx268
  have ne285 : a1 ≠ r265 := Nat.ne_of_lt (Nat.lt_of_lt_of_le E245.lt gx268)
  have ne286 : b200 ≠ r265 := Nat.ne_of_lt (Nat.lt_of_lt_of_le V247.lt gx268)
  have ne287 : b225 ≠ r265 := Nat.ne_of_lt (Nat.lt_of_lt_of_le V250.lt gx268)
  have ne288 : va ≠ r265 := Nat.ne_of_lt (Nat.lt_of_lt_of_le V246.lt gx268)
  refine g_iinc A282 d2_54 rfl (y := (1 : Int32)) (by decide) (ls' := #[.val (.ref a1), .val (.int (4 : Int32)), .val (.int (2 : Int32)), .val (.ref va), .val (.int (1 : Int32))]) rfl (pc' := 57) rfl ?_
  refine g_goto A282 d2_57 (pc' := 30) rfl ?_
  refine g_iload A282 d2_30 rfl (pc' := 32) rfl ?_
  refine g_iloadN A282 d2_32 rfl (pc' := 33) rfl ?_
  refine g_icN A282 d2_33 (c2_ge_f (by decide)) (pc' := 36) rfl ?_
  refine g_aloadN A282 d2_36 rfl rfl (pc' := 37) rfl ?_
  refine g_iload A282 d2_37 rfl (pc' := 39) rfl ?_
  refine g_aloadN A282 d2_39 rfl rfl (pc' := 40) rfl ?_
  refine g_iload A282 d2_40 rfl (pc' := 42) rfl ?_
  refine g_iloadN A282 d2_42 rfl (pc' := 43) rfl ?_
  refine g_imulL A282 d2_43 (z := (4 : Int32)) (by decide) (pc' := 44) rfl ?_
  refine g_iload A282 d2_44 rfl (pc' := 46) rfl ?_
  refine g_iloadN A282 d2_46 rfl (pc' := 47) rfl ?_
  refine g_imulL A282 d2_47 (z := (4 : Int32)) (by decide) (pc' := 48) rfl ?_
  refine g_iloadN A282 d2_48 rfl (pc' := 49) rfl ?_
  refine g_iaddL A282 d2_49 (z := (8 : Int32)) (by decide) (pc' := 50) rfl ?_
  refine g_iconst A282 d2_50 (v := (0 : Int32)) rfl (pc' := 51) rfl ?_
  have hp289 : 1 < 2 := (by decide)
  have hp290 : 4 ≤ 8 := (by decide)
  have hp291 : 8 ≤ 8 := (by decide)
  have hp292 : 8 < 2147483648 := (by decide)
  have hp293 : 8 - 4 ≤ 4 := (by decide)
  have hp294 : 0 < 4 ∨ 8 < 8 := (by decide)
  obtain ⟨cq296, q296a, q296b⟩ := E274.cell
  obtain ⟨vv295, _, ⟨T295, L295, k295, n295⟩, -, X295, ⟨L295c, hQ295, l295, y295, z295⟩, st295⟩ := X261.privateBack hx (y := (⟨"com/example/pursuant/pursuant/dictionary/BandDictionary", "keepStretch", "(I[DIII)V"⟩ : MethodName)) hown (mvT hZ (hw _ (List.mem_of_getElem? (i := 35) rfl))) (mvT hZ (hw _ (List.mem_of_getElem? (i := 36) rfl))) (own_selP (mvT hZ (hw _ (List.mem_of_getElem? (i := 7) rfl))) (Cond.privateMethod_at (mvP hZ (hw _ (List.mem_of_getElem? (i := 37) rfl)) (args := #[]))) (mvT hZ (hw _ (List.mem_of_getElem? (i := 36) rfl))) (by decide)) (Cond.privateMethod_at (mvP hZ (hw _ (List.mem_of_getElem? (i := 37) rfl)) (args := #[]))) (mvT hZ (hw _ (List.mem_of_getElem? (i := 38) rfl))) (by decide) (backOf (W := 0) (rm6 l Z a0 hw [] a1 1 va 4 8 8 2 x b200 b225 (fun j => if j = 0 then .int (own_s ra263 rb264 0) else (fun _ => .int (0 : Int32)) j) (fun j => if j = 0 then .ref r265 else (fun _ => .null) j) T261.heap n0 Z280 E274 F277 F279 V275 V270 V271 O278 ne201 ne226 ne227 ne202 ne228 g203 g229 hp289 hp290 hp291 hp292 hp293 hp294) hZ (hw _ (List.mem_of_getElem? (i := 38) rfl)) (hw _ (List.mem_of_getElem? (i := 8) rfl)) (by decide) (by decide)) (g := (mkF m 51 #[.val (.ref a1), .val (.int (4 : Int32)), .val (.int (2 : Int32)), .val (.ref va), .val (.int (1 : Int32))] [(.int (0 : Int32)), (.int (8 : Int32)), (.int (4 : Int32)), (.ref va), (.int (1 : Int32)), (.ref a1)])) rfl (by rw [hml]; rfl) (Steps.refl _) (a := a1) q296a q296b (argsL := [(.int (1 : Int32)), (.ref va), (.int (4 : Int32)), (.int (8 : Int32)), (.int (0 : Int32))]) (rest := []) (lenOf pd_4 rfl) rfl (by show 2 * 0 + _ ≤ _; exact Nat.le_of_eq rfl) (hb hby d2_51) (fun _ _ => ⟨rfl, rfl, (by decide : 3 + 1 ≤ _), (by decide : 8 + 4 ≤ _)⟩)
  have hQ295b : Q6 Z a1 1 va 4 8 8 2 x b200 b225 (fun j => if j = 0 then .int (own_s ra263 rb264 0) else (fun _ => .int (0 : Int32)) j) (fun j => if j = 0 then .ref r265 else (fun _ => .null) j) T261.heap n0 vv295 T295.heap L295c := hQ295
  clear hQ295
  dsimp only [Pt.U, Pt.locs, Pt.cells, Pt.slots] at X295 l295 y295 z295 st295
  subst y295 z295
  obtain ⟨ra297, rb298, r299, rfl, Nq300, Kq301, gx302, V303, V304, V305, hq306⟩ := hQ295b
  have N307 : Fr n0 L295 := by rw [l295]; exact Fr.app N273 Nq300
  refine Go.tr (g' := (mkF m 54 #[.val (.ref a1), .val (.int (4 : Int32)), .val (.int (2 : Int32)), .val (.ref va), .val (.int (1 : Int32))] [])) st295 ?_
  have E308 : Exa Z T295.heap a1 "com/example/pursuant/pursuant/dictionary/BandDictionary" := Exa.keep E274 Kq301
  have V309 : Dar Z T295.heap va .double 8 (fun t => .double (x t)) := Dar.keep V275 Kq301 (ninS ne202 (ninS ne228 nin0))
  have E310 : Exa Z T295.heap b200 "[I" := Exa.keep E276 Kq301
  have F311 : Fld Z T295.heap a1 "com/example/pursuant/pursuant/dictionary/BandDictionary" "starts" "[I" (.ref b200) := Fld.keep F277 Kq301 (ninS ne201 (ninS ne226 nin0))
  have O312 : Ovd Z T295.heap b225 := Ovd.keep O278 Kq301
  have F313 : Fld Z T295.heap a1 "com/example/pursuant/pursuant/dictionary/BandDictionary" "stretches" "[[D" (.ref b225) := Fld.keep F279 Kq301 (ninS ne201 (ninS ne226 nin0))
  have V314 : Dar Z T295.heap r265 .double (rb264 - ra263) (fun t => .double (x (ra263 + t))) := Dar.keep V269 Kq301 (ninS (Ne.symm ne286) (ninS (Ne.symm ne287) nin0))
  have Z315 : n0 ≤ T295.heap.size := Nat.le_trans Z280 Kq301.1
  have K316 : Keep h0 T295.heap [a1] := K281.trans Kq301 (allS (Or.inr gh204) (allS (Or.inr gh230) all0))
  have A317 := (⟨X295, hx, hby⟩ : Ax _ _ _ _ _ _ _ _ _ _ _ _ _ _ _)
  have g318 : n0 ≤ r299 := Nat.le_trans Z280 gx302
  have gh319 : h0.size ≤ r299 := Nat.le_trans K281.1 gx302
  have ne320 : a1 ≠ r299 := Nat.ne_of_lt (Nat.lt_of_lt_of_le E274.lt gx302)
  have ne321 : b200 ≠ r299 := Nat.ne_of_lt (Nat.lt_of_lt_of_le E276.lt gx302)
  have ne322 : b225 ≠ r299 := Nat.ne_of_lt (Nat.lt_of_lt_of_le V271.lt gx302)
  have ne323 : r265 ≠ r299 := Nat.ne_of_lt (Nat.lt_of_lt_of_le V269.lt gx302)
  have ne324 : va ≠ r299 := Nat.ne_of_lt (Nat.lt_of_lt_of_le V275.lt gx302)
  refine g_iinc A317 d2_54 rfl (y := (2 : Int32)) (by decide) (ls' := #[.val (.ref a1), .val (.int (4 : Int32)), .val (.int (2 : Int32)), .val (.ref va), .val (.int (2 : Int32))]) rfl (pc' := 57) rfl ?_
  refine g_goto A317 d2_57 (pc' := 30) rfl ?_
  refine g_iload A317 d2_30 rfl (pc' := 32) rfl ?_
  refine g_iloadN A317 d2_32 rfl (pc' := 33) rfl ?_
  refine g_icY A317 d2_33 (c2_ge_t (by decide)) (pc' := 60) rfl ?_
  exact g_retV (Q := Q2 Z a1 va x u0 u1 u2 u3 h0 n0) A317 d2_60 Bd.notSynchronized Bd.returns (by decide) (by decide) ⟨b200, b225, ra263, rb264, r265, ra297, rb298, r299, rfl, N307, K316, gh204, gh230, F311, F313, gh284, V314, gh319, V303, V304, V305, hq272, hq306⟩
def own_r_rm1 (q0 : Int64) (q1 : Int32) : UInt64 := (FP.i2d ((((XT.ushrL q0 ((2 : Int32) * q1)) &&& (3 : Int64)).toInt32) - (1 : Int32)))
theorem d1_0 : decode method_3_code 0 = .ok (.lload_n 0, 1) := by decide +kernel
theorem d1_1 : decode method_3_code 1 = .ok (.iconst 2, 1) := by decide +kernel
theorem d1_2 : decode method_3_code 2 = .ok (.iload_n 2, 1) := by decide +kernel
theorem d1_3 : decode method_3_code 3 = .ok (.imul, 1) := by decide +kernel
theorem d1_4 : decode method_3_code 4 = .ok (.lushr, 1) := by decide +kernel
theorem d1_5 : decode method_3_code 5 = .ok (.ldc2_w 22, 3) := by decide +kernel
theorem d1_8 : decode method_3_code 8 = .ok (.land, 1) := by decide +kernel
theorem d1_9 : decode method_3_code 9 = .ok (.l2i, 1) := by decide +kernel
theorem d1_10 : decode method_3_code 10 = .ok (.istore_n 3, 1) := by decide +kernel
theorem d1_11 : decode method_3_code 11 = .ok (.iload_n 3, 1) := by decide +kernel
theorem d1_12 : decode method_3_code 12 = .ok (.iconst 1, 1) := by decide +kernel
theorem d1_13 : decode method_3_code 13 = .ok (.isub, 1) := by decide +kernel
theorem d1_14 : decode method_3_code 14 = .ok (.i2d, 1) := by decide +kernel
theorem d1_15 : decode method_3_code 15 = .ok (.dreturn, 1) := by decide +kernel
theorem pn_3 : plainName "com/example/pursuant/pursuant/dictionary/BandDictionaryReadPinLaw" = true := by first | (simp [plainName, overriddenIn]; done) | decide +kernel
theorem ef325 (m : MethodId) (q0 : Int64) (q1 : Int32) : entryFrame m #[(.long q0), (.int q1)] 4 = mkF m 0 #[.val (.long q0), .second, .val (.int q1), .unset] [] := by first | (simp [entryFrame, mkF, argsToLocals, Value.category]; done) | rfl
def Q1 (Z : State) (q0 : Int64) (q1 : Int32) (h0 : Heap) (n0 : Nat) (v : Option Value) (h : Heap) (L : List Loc) : Prop := v = some (.double (own_r_rm1 q0 q1)) ∧ Fr n0 L ∧ h = h0
set_option maxRecDepth 65536 in
set_option maxHeartbeats 40000000 in
theorem rm1 (l : Launch) (Z : State) (a0 : Array Value) (hw : ∀ d ∈ tables_1, d.before a0 Z = true) (ws : List Jvm.Cond) (q0 : Int64) (q1 : Int32) (h0 : Heap) (n0 : Nat) (Z0 : n0 ≤ h0.size)  :
    MetFree l (⟨"com/example/pursuant/pursuant/dictionary/BandDictionaryReadPinLaw", "entry", "(JI)D"⟩ : MethodName) (head1 (Jvm.Cond.code (⟨"com/example/pursuant/pursuant/dictionary/BandDictionaryReadPinLaw", "entry", "(JI)D"⟩ : MethodName) method_3_code 4 (some .double) :: ws) ({ frames := 0, cells := 0, slots := 0, locals := 0 } : Room)) (fun a U => a = #[(.long q0), (.int q1)] ∧ Z.Warmed39 U.vm ∧ U.heap = h0) (fun _ _ _ _ _ => True) (fun _ U o U' => ∃ v L, o = .returned v ∧ Q1 Z q0 q1 h0 n0 v U'.heap L ∧ FrameEnd U o U' L 0 0) := by
  refine MetFree.of_bodySF (plainFor_of_name pn_3) hisR ?_
  intro p e s m args below meth c s₁ Bd hml0 hP hK
  obtain ⟨rfl, hZ, hh⟩ := hP
  have hx := Bd.exec
  have hby := Bd.bytes
  have hml : c.maxLocals = 4 := hml0
  have hown : s.vm.findClass "com/example/pursuant/pursuant/dictionary/BandDictionaryReadPinLaw" = some m.cls := findClass_of_methodNamed Bd.named
  have hnm := (name_of_methodNamed Bd.named Bd.method).1
  have X0 : Stand p l e ({ frames := 0, cells := 0, slots := 0, locals := 0 } : Room) s m #[(.long q0), (.int q1)] below meth c s₁ [] 0 0 := Stand.of_body Bd
  have e0 : s₁.heap = h0 := by rw [← hh, Bd.state]; rfl
  have N0 := Fr.nil n0
  have A0 := (⟨X0, hx, hby⟩ : Ax _ _ _ _ _ _ _ _ _ _ _ _ _ _ _)
  show Go p e below (fun U o => ∃ v L, o = .returned v ∧ Q1 Z q0 q1 h0 n0 v U.heap L ∧ FrameEnd s o U L 0 0) s₁ (entryFrame m #[(.long q0), (.int q1)] 4)
  refine Go.cast (ef325 m q0 q1) ?_
  refine g_lloadN A0 d1_0 rfl (pc' := 1) rfl ?_
  refine g_iconst A0 d1_1 (v := (2 : Int32)) rfl (pc' := 2) rfl ?_
  refine g_iloadN A0 d1_2 rfl (pc' := 3) rfl ?_
  refine g_imul A0 d1_3 (pc' := 4) rfl ?_
  refine g_lushr A0 d1_4 (pc' := 5) rfl ?_
  refine g_ldcL A0 hZ hown (hw _ (List.mem_of_getElem? (i := 5) rfl)) d1_5 (pc' := 8) rfl ?_
  refine g_land A0 d1_8 (pc' := 9) rfl ?_
  refine g_l2i A0 d1_9 (pc' := 10) rfl ?_
  refine g_istoreN A0 d1_10 (ls' := #[.val (.long q0), .second, .val (.int q1), .val (.int (((XT.ushrL q0 ((2 : Int32) * q1)) &&& (3 : Int64)).toInt32))]) rfl (pc' := 11) rfl ?_
  refine g_iloadN A0 d1_11 rfl (pc' := 12) rfl ?_
  refine g_iconst A0 d1_12 (v := (1 : Int32)) rfl (pc' := 13) rfl ?_
  refine g_isub A0 d1_13 (pc' := 14) rfl ?_
  refine g_i2d A0 d1_14 (pc' := 15) rfl ?_
  exact g_ret (Q := Q1 Z q0 q1 h0 n0) A0 d1_15 Bd.notSynchronized Bd.returns rfl (Or.inr (Or.inr (Or.inl ⟨rfl, rfl, _, rfl⟩))) (by decide) (by decide) (by rw [e0]; exact ⟨(congrArg (fun z => some (Value.double z)) (by rw [own_r_rm1])), N0, rfl⟩)
def own_rdo (x : Nat → UInt64) (n : Nat) (y : UInt64) : Prop := y = x n ∨ (y = 0 ∧ own_zr (x n))
theorem own_ofs {x : Nat → UInt64} {F a b i : Nat} (h : own_S x F (F + 4) a b) (hi : i < 4) (hF : F ≤ 1000) : (Int32.ofNat i - own_s a b F < 0 ∧ own_zr (x (F + i))) ∨ ∃ t : Nat, Int32.ofNat i - own_s a b F = Int32.ofNat t ∧ t < 2147483648 ∧ ((t < b - a ∧ a + t = F + i) ∨ (¬ t < b - a ∧ own_zr (x (F + i)))) := by
  obtain ⟨h1, h2, h3, h4, h5, h6⟩ := h
  by_cases q : a < b
  · have e : own_s a b F = Int32.ofNat (a - F) := by
      unfold own_s
      rw [if_pos (own_olt q (by omega)), Int32.zero_add, own_osub h1]
    rw [e]
    by_cases r : i < a - F
    · refine Or.inl ⟨?_, h4 (F + i) (by omega) (by omega)⟩
      have t1 : (Int32.ofNat i).toInt = i := Int32.toInt_ofNat_of_lt (by omega)
      have t2 : (Int32.ofNat (a - F)).toInt = ((a - F : Nat) : Int) := Int32.toInt_ofNat_of_lt (by omega)
      have t3 := c_isub (Int32.ofNat i) (Int32.ofNat (a - F))
      have t4 := rng32 (Int32.ofNat i - Int32.ofNat (a - F))
      rw [t1, t2] at t3
      rw [Int32.lt_iff_toInt_lt]
      have t0 : (0 : Int32).toInt = 0 := rfl
      omega
    · refine Or.inr ⟨i - (a - F), own_osub (by omega), by omega, ?_⟩
      by_cases z : i - (a - F) < b - a
      · exact Or.inl ⟨z, by omega⟩
      · exact Or.inr ⟨z, h5 (F + i) (by omega) (by omega)⟩
  · have e : own_s a b F = 0 := by
      unfold own_s
      rw [if_neg (own_onl (by omega) (by omega))]
    rw [e, Int32.sub_zero]
    refine Or.inr ⟨i, rfl, by omega, Or.inr ⟨by omega, ?_⟩⟩
    by_cases z : F + i < a
    · exact h4 _ (by omega) z
    · exact h5 _ (by omega) (by omega)
theorem own_cmp {x : Nat → UInt64} {n : Nat} {y : UInt64} (h : own_rdo x n y) (f : Fin64 (x n)) : FP.dcmp y (x n) = some .eq := by
  rcases h with h | ⟨h, z⟩
  · rw [h]; exact own_self f
  · rw [h]
    have e : FP.dcmp (0 : UInt64) (x n) = (FP.dcmp (x n) (0 : UInt64)).map Ordering.swap := FP.Core.dcmp_swap _ _
    rw [e, z]; rfl
theorem d11_0 : decode prog_1_method_5_code 0 = .ok (.iload_n 1, 1) := by decide +kernel
theorem d11_1 : decode prog_1_method_5_code 1 = .ok (.aload_n 0, 1) := by decide +kernel
theorem d11_2 : decode prog_1_method_5_code 2 = .ok (.getfield 13, 3) := by decide +kernel
theorem d11_5 : decode prog_1_method_5_code 5 = .ok (.iload_n 2, 1) := by decide +kernel
theorem d11_6 : decode prog_1_method_5_code 6 = .ok (.iaload, 1) := by decide +kernel
theorem d11_7 : decode prog_1_method_5_code 7 = .ok (.isub, 1) := by decide +kernel
theorem d11_8 : decode prog_1_method_5_code 8 = .ok (.istore_n 3, 1) := by decide +kernel
theorem d11_9 : decode prog_1_method_5_code 9 = .ok (.aload_n 0, 1) := by decide +kernel
theorem d11_10 : decode prog_1_method_5_code 10 = .ok (.getfield 19, 3) := by decide +kernel
theorem d11_13 : decode prog_1_method_5_code 13 = .ok (.iload_n 2, 1) := by decide +kernel
theorem d11_14 : decode prog_1_method_5_code 14 = .ok (.aaload, 1) := by decide +kernel
theorem d11_15 : decode prog_1_method_5_code 15 = .ok (.astore 4, 2) := by decide +kernel
theorem d11_17 : decode prog_1_method_5_code 17 = .ok (.iload_n 3, 1) := by decide +kernel
theorem d11_18 : decode prog_1_method_5_code 18 = .ok (.ifCond .lt 17, 3) := by decide +kernel
theorem d11_21 : decode prog_1_method_5_code 21 = .ok (.iload_n 3, 1) := by decide +kernel
theorem d11_22 : decode prog_1_method_5_code 22 = .ok (.aload 4, 2) := by decide +kernel
theorem d11_24 : decode prog_1_method_5_code 24 = .ok (.arraylength, 1) := by decide +kernel
theorem d11_25 : decode prog_1_method_5_code 25 = .ok (.if_icmp .ge 10, 3) := by decide +kernel
theorem d11_28 : decode prog_1_method_5_code 28 = .ok (.aload 4, 2) := by decide +kernel
theorem d11_30 : decode prog_1_method_5_code 30 = .ok (.iload_n 3, 1) := by decide +kernel
theorem d11_31 : decode prog_1_method_5_code 31 = .ok (.daload, 1) := by decide +kernel
theorem d11_32 : decode prog_1_method_5_code 32 = .ok (.goto 4, 3) := by decide +kernel
theorem d11_35 : decode prog_1_method_5_code 35 = .ok (.dconst 0, 1) := by decide +kernel
theorem d11_36 : decode prog_1_method_5_code 36 = .ok (.dreturn, 1) := by decide +kernel
theorem ef326 (m : MethodId) (a1 : Addr) (i : Nat) (k : Nat) (sa : Addr) (ta : Addr) (fs : Nat → Value) (ft : Nat → Value) (r : Addr) (ra : Nat) (rb : Nat) (F : Nat) (x : Nat → UInt64) : entryFrame m #[(.ref a1), (.int (Int32.ofNat i)), (.int (Int32.ofNat k))] 5 = mkF m 0 #[.val (.ref a1), .val (.int (Int32.ofNat i)), .val (.int (Int32.ofNat k)), .unset, .unset] [] := by first | (simp [entryFrame, mkF, argsToLocals, Value.category]; done) | rfl
def Q11 (Z : State) (a1 : Addr) (i : Nat) (k : Nat) (sa : Addr) (ta : Addr) (fs : Nat → Value) (ft : Nat → Value) (r : Addr) (ra : Nat) (rb : Nat) (F : Nat) (x : Nat → UInt64) (h0 : Heap) (n0 : Nat) (v : Option Value) (h : Heap) (L : List Loc) : Prop := ∃ y : UInt64, v = some (.double y) ∧ Fr n0 L ∧ h = h0 ∧ own_rdo x (F + i) y
set_option maxRecDepth 65536 in
set_option maxHeartbeats 40000000 in
theorem rm11 (l : Launch) (Z : State) (a0 : Array Value) (hw : ∀ d ∈ tables_1, d.before a0 Z = true) (ws : List Jvm.Cond) (a1 : Addr) (i : Nat) (k : Nat) (sa : Addr) (ta : Addr) (fs : Nat → Value) (ft : Nat → Value) (r : Addr) (ra : Nat) (rb : Nat) (F : Nat) (x : Nat → UInt64) (h0 : Heap) (n0 : Nat) (Z0 : n0 ≤ h0.size) (E327 : Exa Z h0 a1 "com/example/pursuant/pursuant/dictionary/BandDictionary") (F328 : Fld Z h0 a1 "com/example/pursuant/pursuant/dictionary/BandDictionary" "starts" "[I" (.ref sa)) (F329 : Fld Z h0 a1 "com/example/pursuant/pursuant/dictionary/BandDictionary" "stretches" "[[D" (.ref ta)) (V330 : Dar Z h0 sa .int 2 fs) (V331 : Dar Z h0 ta (.array .double) 2 ft) (V332 : Dar Z h0 r .double (rb - ra) (fun t => .double (x (ra + t)))) (hfs : fs k = .int (own_s ra rb F)) (hft : ft k = .ref r) (hk : k < 2) (hi : i < 4) (hF : F ≤ 1000) (hS : own_S x F (F + 4) ra rb) :
    MetFree l (⟨"com/example/pursuant/pursuant/dictionary/BandDictionary", "read", "(II)D"⟩ : MethodName) (head1 (Jvm.Cond.code (⟨"com/example/pursuant/pursuant/dictionary/BandDictionary", "read", "(II)D"⟩ : MethodName) prog_1_method_5_code 5 (some .double) :: ws) ({ frames := 0, cells := 0, slots := 0, locals := 0 } : Room)) (fun a U => a = #[(.ref a1), (.int (Int32.ofNat i)), (.int (Int32.ofNat k))] ∧ Z.Warmed39 U.vm ∧ U.heap = h0) (fun _ _ _ _ _ => True) (fun _ U o U' => ∃ v L, o = .returned v ∧ Q11 Z a1 i k sa ta fs ft r ra rb F x h0 n0 v U'.heap L ∧ FrameEnd U o U' L 0 0) := by
  refine MetFree.of_bodySF (plainFor_of_name pn_1) hisR ?_
  intro p e s m args below meth c s₁ Bd hml0 hP hK
  obtain ⟨rfl, hZ, hh⟩ := hP
  have hx := Bd.exec
  have hby := Bd.bytes
  have hml : c.maxLocals = 5 := hml0
  have hown : s.vm.findClass "com/example/pursuant/pursuant/dictionary/BandDictionary" = some m.cls := findClass_of_methodNamed Bd.named
  have hnm := (name_of_methodNamed Bd.named Bd.method).1
  have X0 : Stand p l e ({ frames := 0, cells := 0, slots := 0, locals := 0 } : Room) s m #[(.ref a1), (.int (Int32.ofNat i)), (.int (Int32.ofNat k))] below meth c s₁ [] 0 0 := Stand.of_body Bd
  have e0 : s₁.heap = h0 := by rw [← hh, Bd.state]; rfl
  have N0 := Fr.nil n0
  have A0 := (⟨X0, hx, hby⟩ : Ax _ _ _ _ _ _ _ _ _ _ _ _ _ _ _)
  show Go p e below (fun U o => ∃ v L, o = .returned v ∧ Q11 Z a1 i k sa ta fs ft r ra rb F x h0 n0 v U.heap L ∧ FrameEnd s o U L 0 0) s₁ (entryFrame m #[(.ref a1), (.int (Int32.ofNat i)), (.int (Int32.ofNat k))] 5)
  refine Go.cast (ef326 m a1 i k sa ta fs ft r ra rb F x) ?_
  refine g_iloadN A0 d11_0 rfl (pc' := 1) rfl ?_
  refine g_aloadN A0 d11_1 rfl rfl (pc' := 2) rfl ?_
  obtain ⟨T333, X333, e333, st333⟩ := getF X0 hx hZ hown (host := "") (Or.inl (hw _ (List.mem_of_getElem? (i := 29) rfl))) Via.refl e0 F328 (g := (mkF m 2 #[.val (.ref a1), .val (.int (Int32.ofNat i)), .val (.int (Int32.ofNat k)), .unset, .unset] [(.ref a1), (.int (Int32.ofNat i))])) rfl rfl (hb hby d11_2)
  refine Go.of (g' := (mkF m 5 #[.val (.ref a1), .val (.int (Int32.ofNat i)), .val (.int (Int32.ofNat k)), .unset, .unset] [(.ref sa), (.int (Int32.ofNat i))])) st333 ?_
  have A334 := (⟨X333, hx, hby⟩ : Ax _ _ _ _ _ _ _ _ _ _ _ _ _ _ _)
  refine g_iloadN A334 d11_5 rfl (pc' := 6) rfl ?_
  refine g_iaload A334 hZ e333 V330 (i := k) hk rfl (x := (own_s ra rb F)) hfs d11_6 (pc' := 7) rfl ?_
  refine g_isub A334 d11_7 (pc' := 8) rfl ?_
  rcases own_ofs hS hi hF with q1 | ⟨t, et, ht, q1⟩
  · skip
    refine g_istoreN A334 d11_8 (ls' := #[.val (.ref a1), .val (.int (Int32.ofNat i)), .val (.int (Int32.ofNat k)), .val (.int ((Int32.ofNat i) - (own_s ra rb F))), .unset]) rfl (pc' := 9) rfl ?_
    refine g_aloadN A334 d11_9 rfl rfl (pc' := 10) rfl ?_
    obtain ⟨T335, X335, e335, st335⟩ := getF X333 hx hZ hown (host := "") (Or.inl (hw _ (List.mem_of_getElem? (i := 33) rfl))) Via.refl e333 F329 (g := (mkF m 10 #[.val (.ref a1), .val (.int (Int32.ofNat i)), .val (.int (Int32.ofNat k)), .val (.int ((Int32.ofNat i) - (own_s ra rb F))), .unset] [(.ref a1)])) rfl rfl (hb hby d11_10)
    refine Go.of (g' := (mkF m 13 #[.val (.ref a1), .val (.int (Int32.ofNat i)), .val (.int (Int32.ofNat k)), .val (.int ((Int32.ofNat i) - (own_s ra rb F))), .unset] [(.ref ta)])) st335 ?_
    have A336 := (⟨X335, hx, hby⟩ : Ax _ _ _ _ _ _ _ _ _ _ _ _ _ _ _)
    refine g_iloadN A336 d11_13 rfl (pc' := 14) rfl ?_
    refine g_aaload A336 hZ e335 V331 (i := k) hk rfl (v := (.ref r)) hft d11_14 (pc' := 15) rfl ?_
    refine g_astore A336 d11_15 rfl (ls' := #[.val (.ref a1), .val (.int (Int32.ofNat i)), .val (.int (Int32.ofNat k)), .val (.int ((Int32.ofNat i) - (own_s ra rb F))), .val (.ref r)]) rfl (pc' := 17) rfl ?_
    refine g_iloadN A336 d11_17 rfl (pc' := 18) rfl ?_
    refine g_ifY A336 d11_18 (c0_lt_t q1.1) (pc' := 35) rfl ?_
    refine g_dconst0 A336 d11_35 (pc' := 36) rfl ?_
    exact g_ret (Q := Q11 Z a1 i k sa ta fs ft r ra rb F x h0 n0) A336 d11_36 Bd.notSynchronized Bd.returns rfl (Or.inr (Or.inr (Or.inl ⟨rfl, rfl, _, rfl⟩))) (by decide) (by decide) (by rw [e335]; exact ⟨(0 : UInt64), rfl, N0, rfl, (Or.inr ⟨rfl, q1.2⟩)⟩)
  · skip
    rw [et]
    rcases q1 with q1 | q1
    · skip
      refine g_istoreN A334 d11_8 (ls' := #[.val (.ref a1), .val (.int (Int32.ofNat i)), .val (.int (Int32.ofNat k)), .val (.int (Int32.ofNat t)), .unset]) rfl (pc' := 9) rfl ?_
      refine g_aloadN A334 d11_9 rfl rfl (pc' := 10) rfl ?_
      obtain ⟨T337, X337, e337, st337⟩ := getF X333 hx hZ hown (host := "") (Or.inl (hw _ (List.mem_of_getElem? (i := 33) rfl))) Via.refl e333 F329 (g := (mkF m 10 #[.val (.ref a1), .val (.int (Int32.ofNat i)), .val (.int (Int32.ofNat k)), .val (.int (Int32.ofNat t)), .unset] [(.ref a1)])) rfl rfl (hb hby d11_10)
      refine Go.of (g' := (mkF m 13 #[.val (.ref a1), .val (.int (Int32.ofNat i)), .val (.int (Int32.ofNat k)), .val (.int (Int32.ofNat t)), .unset] [(.ref ta)])) st337 ?_
      have A338 := (⟨X337, hx, hby⟩ : Ax _ _ _ _ _ _ _ _ _ _ _ _ _ _ _)
      refine g_iloadN A338 d11_13 rfl (pc' := 14) rfl ?_
      refine g_aaload A338 hZ e337 V331 (i := k) hk rfl (v := (.ref r)) hft d11_14 (pc' := 15) rfl ?_
      refine g_astore A338 d11_15 rfl (ls' := #[.val (.ref a1), .val (.int (Int32.ofNat i)), .val (.int (Int32.ofNat k)), .val (.int (Int32.ofNat t)), .val (.ref r)]) rfl (pc' := 17) rfl ?_
      refine g_iloadN A338 d11_17 rfl (pc' := 18) rfl ?_
      refine g_ifN A338 d11_18 (c0_lt_f (own_clamp ht).2) (pc' := 21) rfl ?_
      refine g_iloadN A338 d11_21 rfl (pc' := 22) rfl ?_
      refine g_aload A338 d11_22 rfl rfl (pc' := 24) rfl ?_
      refine g_alen A338 hZ e337 V332 d11_24 (z := (Int32.ofNat (rb - ra))) rfl (pc' := 25) rfl ?_
      refine g_icN A338 d11_25 (c2_ge_f (own_olt q1.1 (by have := hS.2.2.1; omega))) (pc' := 28) rfl ?_
      refine g_aload A338 d11_28 rfl rfl (pc' := 30) rfl ?_
      refine g_iloadN A338 d11_30 rfl (pc' := 31) rfl ?_
      refine g_daload A338 hZ e337 V332 (i := t) q1.1 rfl (x := (x (ra + t))) rfl d11_31 (pc' := 32) rfl ?_
      refine g_goto A338 d11_32 (pc' := 36) rfl ?_
      exact g_ret (Q := Q11 Z a1 i k sa ta fs ft r ra rb F x h0 n0) A338 d11_36 Bd.notSynchronized Bd.returns rfl (Or.inr (Or.inr (Or.inl ⟨rfl, rfl, _, rfl⟩))) (by decide) (by decide) (by rw [e337]; exact ⟨(x (ra + t)), rfl, N0, rfl, (Or.inl (congrArg x q1.2))⟩)
    · skip
      refine g_istoreN A334 d11_8 (ls' := #[.val (.ref a1), .val (.int (Int32.ofNat i)), .val (.int (Int32.ofNat k)), .val (.int (Int32.ofNat t)), .unset]) rfl (pc' := 9) rfl ?_
      refine g_aloadN A334 d11_9 rfl rfl (pc' := 10) rfl ?_
      obtain ⟨T339, X339, e339, st339⟩ := getF X333 hx hZ hown (host := "") (Or.inl (hw _ (List.mem_of_getElem? (i := 33) rfl))) Via.refl e333 F329 (g := (mkF m 10 #[.val (.ref a1), .val (.int (Int32.ofNat i)), .val (.int (Int32.ofNat k)), .val (.int (Int32.ofNat t)), .unset] [(.ref a1)])) rfl rfl (hb hby d11_10)
      refine Go.of (g' := (mkF m 13 #[.val (.ref a1), .val (.int (Int32.ofNat i)), .val (.int (Int32.ofNat k)), .val (.int (Int32.ofNat t)), .unset] [(.ref ta)])) st339 ?_
      have A340 := (⟨X339, hx, hby⟩ : Ax _ _ _ _ _ _ _ _ _ _ _ _ _ _ _)
      refine g_iloadN A340 d11_13 rfl (pc' := 14) rfl ?_
      refine g_aaload A340 hZ e339 V331 (i := k) hk rfl (v := (.ref r)) hft d11_14 (pc' := 15) rfl ?_
      refine g_astore A340 d11_15 rfl (ls' := #[.val (.ref a1), .val (.int (Int32.ofNat i)), .val (.int (Int32.ofNat k)), .val (.int (Int32.ofNat t)), .val (.ref r)]) rfl (pc' := 17) rfl ?_
      refine g_iloadN A340 d11_17 rfl (pc' := 18) rfl ?_
      refine g_ifN A340 d11_18 (c0_lt_f (own_clamp ht).2) (pc' := 21) rfl ?_
      refine g_iloadN A340 d11_21 rfl (pc' := 22) rfl ?_
      refine g_aload A340 d11_22 rfl rfl (pc' := 24) rfl ?_
      refine g_alen A340 hZ e339 V332 d11_24 (z := (Int32.ofNat (rb - ra))) rfl (pc' := 25) rfl ?_
      refine g_icY A340 d11_25 (c2_ge_t (own_onl (Nat.le_of_not_lt q1.1) ht)) (pc' := 35) rfl ?_
      refine g_dconst0 A340 d11_35 (pc' := 36) rfl ?_
      exact g_ret (Q := Q11 Z a1 i k sa ta fs ft r ra rb F x h0 n0) A340 d11_36 Bd.notSynchronized Bd.returns rfl (Or.inr (Or.inr (Or.inl ⟨rfl, rfl, _, rfl⟩))) (by decide) (by decide) (by rw [e339]; exact ⟨(0 : UInt64), rfl, N0, rfl, (Or.inr ⟨rfl, q1.2⟩)⟩)
def own_x (p : Int64) (t : Nat) : UInt64 := (if t = 7 then own_r_rm1 p (7 : Int32) else (if t = 6 then own_r_rm1 p (6 : Int32) else (if t = 5 then own_r_rm1 p (5 : Int32) else (if t = 4 then own_r_rm1 p (4 : Int32) else (if t = 3 then own_r_rm1 p (3 : Int32) else (if t = 2 then own_r_rm1 p (2 : Int32) else (if t = 1 then own_r_rm1 p (1 : Int32) else (if t = 0 then own_r_rm1 p (0 : Int32) else (0 : UInt64)))))))))
theorem ef341 (m : MethodId) (p0 : Int64) : entryFrame m #[(.long p0)] maxLocals = mkF m 0 #[.val (.long p0), .second, .unset, .unset] [] := by first | (simp [entryFrame, mkF, argsToLocals, Value.category, maxLocals]; done) | rfl
def Q0 (Z : State) (p0 : Int64) (h0 : Heap) (n0 : Nat) (v : Option Value) (h : Heap) (L : List Loc) : Prop := v = some (.int 1) ∧ Fr n0 L
theorem pd_5 : parseMethodDescriptor "(JI)D" = some ⟨[.long, .int], some .double⟩ := by decide +kernel
theorem pd_6 : parseMethodDescriptor "(II)D" = some ⟨[.int, .int], some .double⟩ := by decide +kernel
set_option maxRecDepth 65536 in
set_option maxHeartbeats 40000000 in
theorem rm0 (l : Launch) (Z : State) (a0 : Array Value) (hw : ∀ d ∈ tables_1, d.before a0 Z = true) (ws : List Jvm.Cond) (p0 : Int64) (h0 : Heap) (n0 : Nat) (Z0 : n0 ≤ h0.size)  :
    MetFree l x (head1 (Jvm.Cond.code x code maxLocals ret :: ws) room_1) (fun a U => a = #[(.long p0)] ∧ Z.Warmed39 U.vm ∧ U.heap = h0) (fun _ _ _ _ _ => True) (fun _ U o U' => ∃ v L, o = .returned v ∧ Q0 Z p0 h0 n0 v U'.heap L ∧ FrameEnd U o U' L 6 26) := by
  refine MetFree.of_bodySF (plainFor_of_name pn_3) hisR ?_
  intro p e s m args below meth c s₁ Bd hml0 hP hK
  obtain ⟨rfl, hZ, hh⟩ := hP
  have hx := Bd.exec
  have hby := Bd.bytes
  have hml : c.maxLocals = 4 := hml0
  have hown : s.vm.findClass "com/example/pursuant/pursuant/dictionary/BandDictionaryReadPinLaw" = some m.cls := findClass_of_methodNamed Bd.named
  have hnm := (name_of_methodNamed Bd.named Bd.method).1
  have X0 : Stand p l e room_1 s m #[(.long p0)] below meth c s₁ [] 0 0 := Stand.of_body Bd
  have e0 : s₁.heap = h0 := by rw [← hh, Bd.state]; rfl
  have N0 := Fr.nil n0
  have A0 := (⟨X0, hx, hby⟩ : Ax _ _ _ _ _ _ _ _ _ _ _ _ _ _ _)
  show Go p e below (fun U o => ∃ v L, o = .returned v ∧ Q0 Z p0 h0 n0 v U.heap L ∧ FrameEnd s o U L 6 26) s₁ (entryFrame m #[(.long p0)] maxLocals)
  refine Go.cast (ef341 m p0) ?_
  refine g_bipush A0 at_0 (v := (8 : Int32)) rfl (pc' := 2) rfl ?_
  obtain ⟨T342, h342, k342, X342, e342, E342, Ar342, Ex342, st342⟩ := newPE X0 hx hZ (hw _ (List.mem_of_getElem? (i := 0) rfl)) e0 (g := (mkF m 2 #[.val (.long p0), .second, .unset, .unset] [(.int (8 : Int32))])) rfl (hb hby at_2) rfl (by decide) (cap := 8) (by decide) (by decide) (by decide) (by decide) (ad := "[D") rfl
  obtain ⟨b343, eb343⟩ : ∃ z, z = h0.size := ⟨_, rfl⟩
  rw [← eb343] at Ar342 st342 Ex342
  have g344 : n0 ≤ b343 := by rw [eb343]; exact Z0
  have gh345 : h0.size ≤ b343 := by rw [eb343]; exact (Keep.refl h0 []).1
  have K346 : Keep h0 h342 [] := (Keep.refl h0 []).ext E342
  have Z347 : n0 ≤ h342.size := Nat.le_trans Z0 E342.1
  have V348 : Dar Z h342 b343 .double 8 (fun _ => .double (0 : UInt64)) := Dar.new Ar342 (by decide)
  refine Go.of (g' := (mkF m 4 #[.val (.long p0), .second, .unset, .unset] [(.ref b343)])) st342 ?_
  have A349 := (⟨X342, hx, hby⟩ : Ax _ _ _ _ _ _ _ _ _ _ _ _ _ _ _)
  refine g_astoreN A349 at_4 rfl (ls' := #[.val (.long p0), .second, .val (.ref b343), .unset]) rfl (pc' := 5) rfl ?_
  refine g_aloadN A349 at_5 rfl rfl (pc' := 6) rfl ?_
  refine g_iconst A349 at_6 (v := (0 : Int32)) rfl (pc' := 7) rfl ?_
  refine g_lloadN A349 at_7 rfl (pc' := 8) rfl ?_
  refine g_iconst A349 at_8 (v := (0 : Int32)) rfl (pc' := 9) rfl ?_
  obtain ⟨vv350, _, ⟨T350, L350, k350, n350⟩, -, X350, ⟨L350c, hQ350, l350, y350, z350⟩, st350⟩ := Jvm.LawKit.callS X342 hx (y := (⟨"com/example/pursuant/pursuant/dictionary/BandDictionaryReadPinLaw", "entry", "(JI)D"⟩ : MethodName)) hown (mvT hZ (hw _ (List.mem_of_getElem? (i := 1) rfl))) (mvT hZ (hw _ (List.mem_of_getElem? (i := 2) rfl))) (mvT hZ (hw _ (List.mem_of_getElem? (i := 3) rfl))) (mvT hZ (hw _ (List.mem_of_getElem? (i := 4) rfl))) (by decide) (backOf (W := 2) (rm1 l Z a0 hw [] p0 (0 : Int32) h342 n0 Z347 ) hZ (hw _ (List.mem_of_getElem? (i := 4) rfl)) (hw _ (List.mem_of_getElem? (i := 3) rfl)) (by decide) (by decide)) (g := (mkF m 9 #[.val (.long p0), .second, .val (.ref b343), .unset] [(.int (0 : Int32)), (.long p0), (.int (0 : Int32)), (.ref b343)])) rfl (by rw [hml]; rfl) (argsL := [(.long p0), (.int (0 : Int32))]) (rest := [(.int (0 : Int32)), (.ref b343)]) (lenOf pd_5 rfl) rfl (by show 2 * 0 + _ ≤ _; exact Nat.le_of_eq rfl) (hb hby at_9) (fun _ _ => ⟨rfl, e342, (by decide : 1 + 0 ≤ _), (by decide : 8 + 0 ≤ _)⟩)
  have hQ350b : Q1 Z p0 (0 : Int32) h342 n0 vv350 T350.heap L350c := hQ350
  clear hQ350
  dsimp only [Pt.U, Pt.locs, Pt.cells, Pt.slots] at X350 l350 y350 z350 st350
  subst y350 z350
  obtain ⟨rfl, Nq351, Kq352⟩ := hQ350b
  have N353 : Fr n0 L350 := by rw [l350]; exact Fr.app N0 Nq351
  refine Go.of (g' := (mkF m 12 #[.val (.long p0), .second, .val (.ref b343), .unset] [(.double (own_r_rm1 p0 (0 : Int32))), (.int (0 : Int32)), (.ref b343)])) st350 ?_
  have e354 : T350.heap = h342 := Kq352
  have A355 := (⟨X350, hx, hby⟩ : Ax _ _ _ _ _ _ _ _ _ _ _ _ _ _ _)
  obtain ⟨T356, h356, A356, e356, W356, st356⟩ := s_dastore A355 hZ e354 (ls := #[.val (.long p0), .second, .val (.ref b343), .unset]) (st := []) (x := (own_r_rm1 p0 (0 : Int32))) V348 (i := 0) (by decide) (j := (0 : Int32)) rfl at_12 (pc' := 13) rfl
  have N357 := Fr.snoc A356.1 N353 g344
  have K358 : Keep h0 h356 [] := K346.wr W356 (Or.inr gh345)
  have E359 : Exa Z h356 b343 "[D" := Exa.wr W356 Ex342
  have V360 : Dar Z h356 b343 .double 8 (fun j => if j = 0 then .double (own_r_rm1 p0 (0 : Int32)) else (fun _ => .double (0 : UInt64)) j) := Dar.set V348 W356 (fun _ _ => rfl)
  have Z361 : n0 ≤ h356.size := by rw [W356.size]; exact Z347
  refine st356 ?_
  refine g_aloadN A356 at_13 rfl rfl (pc' := 14) rfl ?_
  refine g_iconst A356 at_14 (v := (1 : Int32)) rfl (pc' := 15) rfl ?_
  refine g_lloadN A356 at_15 rfl (pc' := 16) rfl ?_
  refine g_iconst A356 at_16 (v := (1 : Int32)) rfl (pc' := 17) rfl ?_
  obtain ⟨vv362, _, ⟨T362, L362, k362, n362⟩, -, X362, ⟨L362c, hQ362, l362, y362, z362⟩, st362⟩ := Jvm.LawKit.callS A356.1 hx (y := (⟨"com/example/pursuant/pursuant/dictionary/BandDictionaryReadPinLaw", "entry", "(JI)D"⟩ : MethodName)) hown (mvT hZ (hw _ (List.mem_of_getElem? (i := 1) rfl))) (mvT hZ (hw _ (List.mem_of_getElem? (i := 2) rfl))) (mvT hZ (hw _ (List.mem_of_getElem? (i := 3) rfl))) (mvT hZ (hw _ (List.mem_of_getElem? (i := 4) rfl))) (by decide) (backOf (W := 2) (rm1 l Z a0 hw [] p0 (1 : Int32) h356 n0 Z361 ) hZ (hw _ (List.mem_of_getElem? (i := 4) rfl)) (hw _ (List.mem_of_getElem? (i := 3) rfl)) (by decide) (by decide)) (g := (mkF m 17 #[.val (.long p0), .second, .val (.ref b343), .unset] [(.int (1 : Int32)), (.long p0), (.int (1 : Int32)), (.ref b343)])) rfl (by rw [hml]; rfl) (argsL := [(.long p0), (.int (1 : Int32))]) (rest := [(.int (1 : Int32)), (.ref b343)]) (lenOf pd_5 rfl) rfl (by show 2 * 0 + _ ≤ _; exact Nat.le_of_eq rfl) (hb hby at_17) (fun _ _ => ⟨rfl, e356, (by decide : 1 + 0 ≤ _), (by decide : 8 + 0 ≤ _)⟩)
  have hQ362b : Q1 Z p0 (1 : Int32) h356 n0 vv362 T362.heap L362c := hQ362
  clear hQ362
  dsimp only [Pt.U, Pt.locs, Pt.cells, Pt.slots] at X362 l362 y362 z362 st362
  subst y362 z362
  obtain ⟨rfl, Nq363, Kq364⟩ := hQ362b
  have N365 : Fr n0 L362 := by rw [l362]; exact Fr.app N357 Nq363
  refine Go.of (g' := (mkF m 20 #[.val (.long p0), .second, .val (.ref b343), .unset] [(.double (own_r_rm1 p0 (1 : Int32))), (.int (1 : Int32)), (.ref b343)])) st362 ?_
  have e366 : T362.heap = h356 := Kq364
  have A367 := (⟨X362, hx, hby⟩ : Ax _ _ _ _ _ _ _ _ _ _ _ _ _ _ _)
  obtain ⟨T368, h368, A368, e368, W368, st368⟩ := s_dastore A367 hZ e366 (ls := #[.val (.long p0), .second, .val (.ref b343), .unset]) (st := []) (x := (own_r_rm1 p0 (1 : Int32))) V360 (i := 1) (by decide) (j := (1 : Int32)) rfl at_20 (pc' := 21) rfl
  have N369 := Fr.snoc A368.1 N365 g344
  have K370 : Keep h0 h368 [] := K358.wr W368 (Or.inr gh345)
  have E371 : Exa Z h368 b343 "[D" := Exa.wr W368 E359
  have V372 : Dar Z h368 b343 .double 8 (fun j => if j = 1 then .double (own_r_rm1 p0 (1 : Int32)) else (fun j => if j = 0 then .double (own_r_rm1 p0 (0 : Int32)) else (fun _ => .double (0 : UInt64)) j) j) := Dar.set V360 W368 (fun _ _ => rfl)
  have Z373 : n0 ≤ h368.size := by rw [W368.size]; exact Z361
  refine st368 ?_
  refine g_aloadN A368 at_21 rfl rfl (pc' := 22) rfl ?_
  refine g_iconst A368 at_22 (v := (2 : Int32)) rfl (pc' := 23) rfl ?_
  refine g_lloadN A368 at_23 rfl (pc' := 24) rfl ?_
  refine g_iconst A368 at_24 (v := (2 : Int32)) rfl (pc' := 25) rfl ?_
  obtain ⟨vv374, _, ⟨T374, L374, k374, n374⟩, -, X374, ⟨L374c, hQ374, l374, y374, z374⟩, st374⟩ := Jvm.LawKit.callS A368.1 hx (y := (⟨"com/example/pursuant/pursuant/dictionary/BandDictionaryReadPinLaw", "entry", "(JI)D"⟩ : MethodName)) hown (mvT hZ (hw _ (List.mem_of_getElem? (i := 1) rfl))) (mvT hZ (hw _ (List.mem_of_getElem? (i := 2) rfl))) (mvT hZ (hw _ (List.mem_of_getElem? (i := 3) rfl))) (mvT hZ (hw _ (List.mem_of_getElem? (i := 4) rfl))) (by decide) (backOf (W := 2) (rm1 l Z a0 hw [] p0 (2 : Int32) h368 n0 Z373 ) hZ (hw _ (List.mem_of_getElem? (i := 4) rfl)) (hw _ (List.mem_of_getElem? (i := 3) rfl)) (by decide) (by decide)) (g := (mkF m 25 #[.val (.long p0), .second, .val (.ref b343), .unset] [(.int (2 : Int32)), (.long p0), (.int (2 : Int32)), (.ref b343)])) rfl (by rw [hml]; rfl) (argsL := [(.long p0), (.int (2 : Int32))]) (rest := [(.int (2 : Int32)), (.ref b343)]) (lenOf pd_5 rfl) rfl (by show 2 * 0 + _ ≤ _; exact Nat.le_of_eq rfl) (hb hby at_25) (fun _ _ => ⟨rfl, e368, (by decide : 1 + 0 ≤ _), (by decide : 8 + 0 ≤ _)⟩)
  have hQ374b : Q1 Z p0 (2 : Int32) h368 n0 vv374 T374.heap L374c := hQ374
  clear hQ374
  dsimp only [Pt.U, Pt.locs, Pt.cells, Pt.slots] at X374 l374 y374 z374 st374
  subst y374 z374
  obtain ⟨rfl, Nq375, Kq376⟩ := hQ374b
  have N377 : Fr n0 L374 := by rw [l374]; exact Fr.app N369 Nq375
  refine Go.of (g' := (mkF m 28 #[.val (.long p0), .second, .val (.ref b343), .unset] [(.double (own_r_rm1 p0 (2 : Int32))), (.int (2 : Int32)), (.ref b343)])) st374 ?_
  have e378 : T374.heap = h368 := Kq376
  have A379 := (⟨X374, hx, hby⟩ : Ax _ _ _ _ _ _ _ _ _ _ _ _ _ _ _)
  obtain ⟨T380, h380, A380, e380, W380, st380⟩ := s_dastore A379 hZ e378 (ls := #[.val (.long p0), .second, .val (.ref b343), .unset]) (st := []) (x := (own_r_rm1 p0 (2 : Int32))) V372 (i := 2) (by decide) (j := (2 : Int32)) rfl at_28 (pc' := 29) rfl
  have N381 := Fr.snoc A380.1 N377 g344
  have K382 : Keep h0 h380 [] := K370.wr W380 (Or.inr gh345)
  have E383 : Exa Z h380 b343 "[D" := Exa.wr W380 E371
  have V384 : Dar Z h380 b343 .double 8 (fun j => if j = 2 then .double (own_r_rm1 p0 (2 : Int32)) else (fun j => if j = 1 then .double (own_r_rm1 p0 (1 : Int32)) else (fun j => if j = 0 then .double (own_r_rm1 p0 (0 : Int32)) else (fun _ => .double (0 : UInt64)) j) j) j) := Dar.set V372 W380 (fun _ _ => rfl)
  have Z385 : n0 ≤ h380.size := by rw [W380.size]; exact Z373
  refine st380 ?_
  refine g_aloadN A380 at_29 rfl rfl (pc' := 30) rfl ?_
  refine g_iconst A380 at_30 (v := (3 : Int32)) rfl (pc' := 31) rfl ?_
  refine g_lloadN A380 at_31 rfl (pc' := 32) rfl ?_
  refine g_iconst A380 at_32 (v := (3 : Int32)) rfl (pc' := 33) rfl ?_
  obtain ⟨vv386, _, ⟨T386, L386, k386, n386⟩, -, X386, ⟨L386c, hQ386, l386, y386, z386⟩, st386⟩ := Jvm.LawKit.callS A380.1 hx (y := (⟨"com/example/pursuant/pursuant/dictionary/BandDictionaryReadPinLaw", "entry", "(JI)D"⟩ : MethodName)) hown (mvT hZ (hw _ (List.mem_of_getElem? (i := 1) rfl))) (mvT hZ (hw _ (List.mem_of_getElem? (i := 2) rfl))) (mvT hZ (hw _ (List.mem_of_getElem? (i := 3) rfl))) (mvT hZ (hw _ (List.mem_of_getElem? (i := 4) rfl))) (by decide) (backOf (W := 2) (rm1 l Z a0 hw [] p0 (3 : Int32) h380 n0 Z385 ) hZ (hw _ (List.mem_of_getElem? (i := 4) rfl)) (hw _ (List.mem_of_getElem? (i := 3) rfl)) (by decide) (by decide)) (g := (mkF m 33 #[.val (.long p0), .second, .val (.ref b343), .unset] [(.int (3 : Int32)), (.long p0), (.int (3 : Int32)), (.ref b343)])) rfl (by rw [hml]; rfl) (argsL := [(.long p0), (.int (3 : Int32))]) (rest := [(.int (3 : Int32)), (.ref b343)]) (lenOf pd_5 rfl) rfl (by show 2 * 0 + _ ≤ _; exact Nat.le_of_eq rfl) (hb hby at_33) (fun _ _ => ⟨rfl, e380, (by decide : 1 + 0 ≤ _), (by decide : 8 + 0 ≤ _)⟩)
  have hQ386b : Q1 Z p0 (3 : Int32) h380 n0 vv386 T386.heap L386c := hQ386
  clear hQ386
  dsimp only [Pt.U, Pt.locs, Pt.cells, Pt.slots] at X386 l386 y386 z386 st386
  subst y386 z386
  obtain ⟨rfl, Nq387, Kq388⟩ := hQ386b
  have N389 : Fr n0 L386 := by rw [l386]; exact Fr.app N381 Nq387
  refine Go.of (g' := (mkF m 36 #[.val (.long p0), .second, .val (.ref b343), .unset] [(.double (own_r_rm1 p0 (3 : Int32))), (.int (3 : Int32)), (.ref b343)])) st386 ?_
  have e390 : T386.heap = h380 := Kq388
  have A391 := (⟨X386, hx, hby⟩ : Ax _ _ _ _ _ _ _ _ _ _ _ _ _ _ _)
  obtain ⟨T392, h392, A392, e392, W392, st392⟩ := s_dastore A391 hZ e390 (ls := #[.val (.long p0), .second, .val (.ref b343), .unset]) (st := []) (x := (own_r_rm1 p0 (3 : Int32))) V384 (i := 3) (by decide) (j := (3 : Int32)) rfl at_36 (pc' := 37) rfl
  have N393 := Fr.snoc A392.1 N389 g344
  have K394 : Keep h0 h392 [] := K382.wr W392 (Or.inr gh345)
  have E395 : Exa Z h392 b343 "[D" := Exa.wr W392 E383
  have V396 : Dar Z h392 b343 .double 8 (fun j => if j = 3 then .double (own_r_rm1 p0 (3 : Int32)) else (fun j => if j = 2 then .double (own_r_rm1 p0 (2 : Int32)) else (fun j => if j = 1 then .double (own_r_rm1 p0 (1 : Int32)) else (fun j => if j = 0 then .double (own_r_rm1 p0 (0 : Int32)) else (fun _ => .double (0 : UInt64)) j) j) j) j) := Dar.set V384 W392 (fun _ _ => rfl)
  have Z397 : n0 ≤ h392.size := by rw [W392.size]; exact Z385
  refine st392 ?_
  refine g_aloadN A392 at_37 rfl rfl (pc' := 38) rfl ?_
  refine g_iconst A392 at_38 (v := (4 : Int32)) rfl (pc' := 39) rfl ?_
  refine g_lloadN A392 at_39 rfl (pc' := 40) rfl ?_
  refine g_iconst A392 at_40 (v := (4 : Int32)) rfl (pc' := 41) rfl ?_
  obtain ⟨vv398, _, ⟨T398, L398, k398, n398⟩, -, X398, ⟨L398c, hQ398, l398, y398, z398⟩, st398⟩ := Jvm.LawKit.callS A392.1 hx (y := (⟨"com/example/pursuant/pursuant/dictionary/BandDictionaryReadPinLaw", "entry", "(JI)D"⟩ : MethodName)) hown (mvT hZ (hw _ (List.mem_of_getElem? (i := 1) rfl))) (mvT hZ (hw _ (List.mem_of_getElem? (i := 2) rfl))) (mvT hZ (hw _ (List.mem_of_getElem? (i := 3) rfl))) (mvT hZ (hw _ (List.mem_of_getElem? (i := 4) rfl))) (by decide) (backOf (W := 2) (rm1 l Z a0 hw [] p0 (4 : Int32) h392 n0 Z397 ) hZ (hw _ (List.mem_of_getElem? (i := 4) rfl)) (hw _ (List.mem_of_getElem? (i := 3) rfl)) (by decide) (by decide)) (g := (mkF m 41 #[.val (.long p0), .second, .val (.ref b343), .unset] [(.int (4 : Int32)), (.long p0), (.int (4 : Int32)), (.ref b343)])) rfl (by rw [hml]; rfl) (argsL := [(.long p0), (.int (4 : Int32))]) (rest := [(.int (4 : Int32)), (.ref b343)]) (lenOf pd_5 rfl) rfl (by show 2 * 0 + _ ≤ _; exact Nat.le_of_eq rfl) (hb hby at_41) (fun _ _ => ⟨rfl, e392, (by decide : 1 + 0 ≤ _), (by decide : 8 + 0 ≤ _)⟩)
  have hQ398b : Q1 Z p0 (4 : Int32) h392 n0 vv398 T398.heap L398c := hQ398
  clear hQ398
  dsimp only [Pt.U, Pt.locs, Pt.cells, Pt.slots] at X398 l398 y398 z398 st398
  subst y398 z398
  obtain ⟨rfl, Nq399, Kq400⟩ := hQ398b
  have N401 : Fr n0 L398 := by rw [l398]; exact Fr.app N393 Nq399
  refine Go.of (g' := (mkF m 44 #[.val (.long p0), .second, .val (.ref b343), .unset] [(.double (own_r_rm1 p0 (4 : Int32))), (.int (4 : Int32)), (.ref b343)])) st398 ?_
  have e402 : T398.heap = h392 := Kq400
  have A403 := (⟨X398, hx, hby⟩ : Ax _ _ _ _ _ _ _ _ _ _ _ _ _ _ _)
  obtain ⟨T404, h404, A404, e404, W404, st404⟩ := s_dastore A403 hZ e402 (ls := #[.val (.long p0), .second, .val (.ref b343), .unset]) (st := []) (x := (own_r_rm1 p0 (4 : Int32))) V396 (i := 4) (by decide) (j := (4 : Int32)) rfl at_44 (pc' := 45) rfl
  have N405 := Fr.snoc A404.1 N401 g344
  have K406 : Keep h0 h404 [] := K394.wr W404 (Or.inr gh345)
  have E407 : Exa Z h404 b343 "[D" := Exa.wr W404 E395
  have V408 : Dar Z h404 b343 .double 8 (fun j => if j = 4 then .double (own_r_rm1 p0 (4 : Int32)) else (fun j => if j = 3 then .double (own_r_rm1 p0 (3 : Int32)) else (fun j => if j = 2 then .double (own_r_rm1 p0 (2 : Int32)) else (fun j => if j = 1 then .double (own_r_rm1 p0 (1 : Int32)) else (fun j => if j = 0 then .double (own_r_rm1 p0 (0 : Int32)) else (fun _ => .double (0 : UInt64)) j) j) j) j) j) := Dar.set V396 W404 (fun _ _ => rfl)
  have Z409 : n0 ≤ h404.size := by rw [W404.size]; exact Z397
  refine st404 ?_
  refine g_aloadN A404 at_45 rfl rfl (pc' := 46) rfl ?_
  refine g_iconst A404 at_46 (v := (5 : Int32)) rfl (pc' := 47) rfl ?_
  refine g_lloadN A404 at_47 rfl (pc' := 48) rfl ?_
  refine g_iconst A404 at_48 (v := (5 : Int32)) rfl (pc' := 49) rfl ?_
  obtain ⟨vv410, _, ⟨T410, L410, k410, n410⟩, -, X410, ⟨L410c, hQ410, l410, y410, z410⟩, st410⟩ := Jvm.LawKit.callS A404.1 hx (y := (⟨"com/example/pursuant/pursuant/dictionary/BandDictionaryReadPinLaw", "entry", "(JI)D"⟩ : MethodName)) hown (mvT hZ (hw _ (List.mem_of_getElem? (i := 1) rfl))) (mvT hZ (hw _ (List.mem_of_getElem? (i := 2) rfl))) (mvT hZ (hw _ (List.mem_of_getElem? (i := 3) rfl))) (mvT hZ (hw _ (List.mem_of_getElem? (i := 4) rfl))) (by decide) (backOf (W := 2) (rm1 l Z a0 hw [] p0 (5 : Int32) h404 n0 Z409 ) hZ (hw _ (List.mem_of_getElem? (i := 4) rfl)) (hw _ (List.mem_of_getElem? (i := 3) rfl)) (by decide) (by decide)) (g := (mkF m 49 #[.val (.long p0), .second, .val (.ref b343), .unset] [(.int (5 : Int32)), (.long p0), (.int (5 : Int32)), (.ref b343)])) rfl (by rw [hml]; rfl) (argsL := [(.long p0), (.int (5 : Int32))]) (rest := [(.int (5 : Int32)), (.ref b343)]) (lenOf pd_5 rfl) rfl (by show 2 * 0 + _ ≤ _; exact Nat.le_of_eq rfl) (hb hby at_49) (fun _ _ => ⟨rfl, e404, (by decide : 1 + 0 ≤ _), (by decide : 8 + 0 ≤ _)⟩)
  have hQ410b : Q1 Z p0 (5 : Int32) h404 n0 vv410 T410.heap L410c := hQ410
  clear hQ410
  dsimp only [Pt.U, Pt.locs, Pt.cells, Pt.slots] at X410 l410 y410 z410 st410
  subst y410 z410
  obtain ⟨rfl, Nq411, Kq412⟩ := hQ410b
  have N413 : Fr n0 L410 := by rw [l410]; exact Fr.app N405 Nq411
  refine Go.of (g' := (mkF m 52 #[.val (.long p0), .second, .val (.ref b343), .unset] [(.double (own_r_rm1 p0 (5 : Int32))), (.int (5 : Int32)), (.ref b343)])) st410 ?_
  have e414 : T410.heap = h404 := Kq412
  have A415 := (⟨X410, hx, hby⟩ : Ax _ _ _ _ _ _ _ _ _ _ _ _ _ _ _)
  obtain ⟨T416, h416, A416, e416, W416, st416⟩ := s_dastore A415 hZ e414 (ls := #[.val (.long p0), .second, .val (.ref b343), .unset]) (st := []) (x := (own_r_rm1 p0 (5 : Int32))) V408 (i := 5) (by decide) (j := (5 : Int32)) rfl at_52 (pc' := 53) rfl
  have N417 := Fr.snoc A416.1 N413 g344
  have K418 : Keep h0 h416 [] := K406.wr W416 (Or.inr gh345)
  have E419 : Exa Z h416 b343 "[D" := Exa.wr W416 E407
  have V420 : Dar Z h416 b343 .double 8 (fun j => if j = 5 then .double (own_r_rm1 p0 (5 : Int32)) else (fun j => if j = 4 then .double (own_r_rm1 p0 (4 : Int32)) else (fun j => if j = 3 then .double (own_r_rm1 p0 (3 : Int32)) else (fun j => if j = 2 then .double (own_r_rm1 p0 (2 : Int32)) else (fun j => if j = 1 then .double (own_r_rm1 p0 (1 : Int32)) else (fun j => if j = 0 then .double (own_r_rm1 p0 (0 : Int32)) else (fun _ => .double (0 : UInt64)) j) j) j) j) j) j) := Dar.set V408 W416 (fun _ _ => rfl)
  have Z421 : n0 ≤ h416.size := by rw [W416.size]; exact Z409
  refine st416 ?_
  refine g_aloadN A416 at_53 rfl rfl (pc' := 54) rfl ?_
  refine g_bipush A416 at_54 (v := (6 : Int32)) rfl (pc' := 56) rfl ?_
  refine g_lloadN A416 at_56 rfl (pc' := 57) rfl ?_
  refine g_bipush A416 at_57 (v := (6 : Int32)) rfl (pc' := 59) rfl ?_
  obtain ⟨vv422, _, ⟨T422, L422, k422, n422⟩, -, X422, ⟨L422c, hQ422, l422, y422, z422⟩, st422⟩ := Jvm.LawKit.callS A416.1 hx (y := (⟨"com/example/pursuant/pursuant/dictionary/BandDictionaryReadPinLaw", "entry", "(JI)D"⟩ : MethodName)) hown (mvT hZ (hw _ (List.mem_of_getElem? (i := 1) rfl))) (mvT hZ (hw _ (List.mem_of_getElem? (i := 2) rfl))) (mvT hZ (hw _ (List.mem_of_getElem? (i := 3) rfl))) (mvT hZ (hw _ (List.mem_of_getElem? (i := 4) rfl))) (by decide) (backOf (W := 2) (rm1 l Z a0 hw [] p0 (6 : Int32) h416 n0 Z421 ) hZ (hw _ (List.mem_of_getElem? (i := 4) rfl)) (hw _ (List.mem_of_getElem? (i := 3) rfl)) (by decide) (by decide)) (g := (mkF m 59 #[.val (.long p0), .second, .val (.ref b343), .unset] [(.int (6 : Int32)), (.long p0), (.int (6 : Int32)), (.ref b343)])) rfl (by rw [hml]; rfl) (argsL := [(.long p0), (.int (6 : Int32))]) (rest := [(.int (6 : Int32)), (.ref b343)]) (lenOf pd_5 rfl) rfl (by show 2 * 0 + _ ≤ _; exact Nat.le_of_eq rfl) (hb hby at_59) (fun _ _ => ⟨rfl, e416, (by decide : 1 + 0 ≤ _), (by decide : 8 + 0 ≤ _)⟩)
  have hQ422b : Q1 Z p0 (6 : Int32) h416 n0 vv422 T422.heap L422c := hQ422
  clear hQ422
  dsimp only [Pt.U, Pt.locs, Pt.cells, Pt.slots] at X422 l422 y422 z422 st422
  subst y422 z422
  obtain ⟨rfl, Nq423, Kq424⟩ := hQ422b
  have N425 : Fr n0 L422 := by rw [l422]; exact Fr.app N417 Nq423
  refine Go.of (g' := (mkF m 62 #[.val (.long p0), .second, .val (.ref b343), .unset] [(.double (own_r_rm1 p0 (6 : Int32))), (.int (6 : Int32)), (.ref b343)])) st422 ?_
  have e426 : T422.heap = h416 := Kq424
  have A427 := (⟨X422, hx, hby⟩ : Ax _ _ _ _ _ _ _ _ _ _ _ _ _ _ _)
  obtain ⟨T428, h428, A428, e428, W428, st428⟩ := s_dastore A427 hZ e426 (ls := #[.val (.long p0), .second, .val (.ref b343), .unset]) (st := []) (x := (own_r_rm1 p0 (6 : Int32))) V420 (i := 6) (by decide) (j := (6 : Int32)) rfl at_62 (pc' := 63) rfl
  have N429 := Fr.snoc A428.1 N425 g344
  have K430 : Keep h0 h428 [] := K418.wr W428 (Or.inr gh345)
  have E431 : Exa Z h428 b343 "[D" := Exa.wr W428 E419
  have V432 : Dar Z h428 b343 .double 8 (fun j => if j = 6 then .double (own_r_rm1 p0 (6 : Int32)) else (fun j => if j = 5 then .double (own_r_rm1 p0 (5 : Int32)) else (fun j => if j = 4 then .double (own_r_rm1 p0 (4 : Int32)) else (fun j => if j = 3 then .double (own_r_rm1 p0 (3 : Int32)) else (fun j => if j = 2 then .double (own_r_rm1 p0 (2 : Int32)) else (fun j => if j = 1 then .double (own_r_rm1 p0 (1 : Int32)) else (fun j => if j = 0 then .double (own_r_rm1 p0 (0 : Int32)) else (fun _ => .double (0 : UInt64)) j) j) j) j) j) j) j) := Dar.set V420 W428 (fun _ _ => rfl)
  have Z433 : n0 ≤ h428.size := by rw [W428.size]; exact Z421
  refine st428 ?_
  refine g_aloadN A428 at_63 rfl rfl (pc' := 64) rfl ?_
  refine g_bipush A428 at_64 (v := (7 : Int32)) rfl (pc' := 66) rfl ?_
  refine g_lloadN A428 at_66 rfl (pc' := 67) rfl ?_
  refine g_bipush A428 at_67 (v := (7 : Int32)) rfl (pc' := 69) rfl ?_
  obtain ⟨vv434, _, ⟨T434, L434, k434, n434⟩, -, X434, ⟨L434c, hQ434, l434, y434, z434⟩, st434⟩ := Jvm.LawKit.callS A428.1 hx (y := (⟨"com/example/pursuant/pursuant/dictionary/BandDictionaryReadPinLaw", "entry", "(JI)D"⟩ : MethodName)) hown (mvT hZ (hw _ (List.mem_of_getElem? (i := 1) rfl))) (mvT hZ (hw _ (List.mem_of_getElem? (i := 2) rfl))) (mvT hZ (hw _ (List.mem_of_getElem? (i := 3) rfl))) (mvT hZ (hw _ (List.mem_of_getElem? (i := 4) rfl))) (by decide) (backOf (W := 2) (rm1 l Z a0 hw [] p0 (7 : Int32) h428 n0 Z433 ) hZ (hw _ (List.mem_of_getElem? (i := 4) rfl)) (hw _ (List.mem_of_getElem? (i := 3) rfl)) (by decide) (by decide)) (g := (mkF m 69 #[.val (.long p0), .second, .val (.ref b343), .unset] [(.int (7 : Int32)), (.long p0), (.int (7 : Int32)), (.ref b343)])) rfl (by rw [hml]; rfl) (argsL := [(.long p0), (.int (7 : Int32))]) (rest := [(.int (7 : Int32)), (.ref b343)]) (lenOf pd_5 rfl) rfl (by show 2 * 0 + _ ≤ _; exact Nat.le_of_eq rfl) (hb hby at_69) (fun _ _ => ⟨rfl, e428, (by decide : 1 + 0 ≤ _), (by decide : 8 + 0 ≤ _)⟩)
  have hQ434b : Q1 Z p0 (7 : Int32) h428 n0 vv434 T434.heap L434c := hQ434
  clear hQ434
  dsimp only [Pt.U, Pt.locs, Pt.cells, Pt.slots] at X434 l434 y434 z434 st434
  subst y434 z434
  obtain ⟨rfl, Nq435, Kq436⟩ := hQ434b
  have N437 : Fr n0 L434 := by rw [l434]; exact Fr.app N429 Nq435
  refine Go.of (g' := (mkF m 72 #[.val (.long p0), .second, .val (.ref b343), .unset] [(.double (own_r_rm1 p0 (7 : Int32))), (.int (7 : Int32)), (.ref b343)])) st434 ?_
  have e438 : T434.heap = h428 := Kq436
  have A439 := (⟨X434, hx, hby⟩ : Ax _ _ _ _ _ _ _ _ _ _ _ _ _ _ _)
  obtain ⟨T440, h440, A440, e440, W440, st440⟩ := s_dastore A439 hZ e438 (ls := #[.val (.long p0), .second, .val (.ref b343), .unset]) (st := []) (x := (own_r_rm1 p0 (7 : Int32))) V432 (i := 7) (by decide) (j := (7 : Int32)) rfl at_72 (pc' := 73) rfl
  have N441 := Fr.snoc A440.1 N437 g344
  have K442 : Keep h0 h440 [] := K430.wr W440 (Or.inr gh345)
  have E443 : Exa Z h440 b343 "[D" := Exa.wr W440 E431
  have V444 : Dar Z h440 b343 .double 8 (fun j => if j = 7 then .double (own_r_rm1 p0 (7 : Int32)) else (fun j => if j = 6 then .double (own_r_rm1 p0 (6 : Int32)) else (fun j => if j = 5 then .double (own_r_rm1 p0 (5 : Int32)) else (fun j => if j = 4 then .double (own_r_rm1 p0 (4 : Int32)) else (fun j => if j = 3 then .double (own_r_rm1 p0 (3 : Int32)) else (fun j => if j = 2 then .double (own_r_rm1 p0 (2 : Int32)) else (fun j => if j = 1 then .double (own_r_rm1 p0 (1 : Int32)) else (fun j => if j = 0 then .double (own_r_rm1 p0 (0 : Int32)) else (fun _ => .double (0 : UInt64)) j) j) j) j) j) j) j) j) := Dar.set V432 W440 (fun _ _ => rfl)
  have Z445 : n0 ≤ h440.size := by rw [W440.size]; exact Z433
  refine st440 ?_
  have V446 : Dar Z h440 b343 .double 8 (fun t => .double ((own_x p0) t)) := Dar.congr V444 (fun t ht => by
    match t, ht with
    | 0, _ => rfl
    | 1, _ => rfl
    | 2, _ => rfl
    | 3, _ => rfl
    | 4, _ => rfl
    | 5, _ => rfl
    | 6, _ => rfl
    | 7, _ => rfl
    | n + 8, h8 => exact absurd h8 (by omega))
  obtain ⟨T447, h447, X447, e447, E447, EA447, D447, -, st447⟩ := newO A440.1 hx hZ hown (hw _ (List.mem_of_getElem? (i := 6) rfl)) (hw _ (List.mem_of_getElem? (i := 7) rfl)) (hw _ (List.mem_of_getElem? (i := 8) rfl)) e440 (g := (mkF m 73 #[.val (.long p0), .second, .val (.ref b343), .unset] [])) rfl (hb hby at_73) (by decide) (by decide)
  obtain ⟨a448, ea448⟩ : ∃ z, z = h440.size := ⟨_, rfl⟩
  rw [← ea448] at EA447 D447 st447
  have ne449 : b343 ≠ a448 := own_ne ea448 E443.lt
  have g450 : n0 ≤ a448 := by rw [ea448]; exact Z445
  have gh451 : h0.size ≤ a448 := by rw [ea448]; exact K442.1
  have K452 : Keep h0 h447 [] := K442.ext E447
  have E453 : Exa Z h447 b343 "[D" := Exa.ext E447 E443
  have V454 : Dar Z h447 b343 .double 8 (fun t => .double ((own_x p0) t)) := Dar.ext E447 V446
  have Z455 : n0 ≤ h447.size := Nat.le_trans Z445 E447.1
  have F456 : Fld Z h447 a448 "com/example/pursuant/pursuant/dictionary/Dictionary" "n" "I" (.int (0 : Int32)) := D447 (Or.inr (hw _ (List.mem_of_getElem? (i := 21) rfl))) (ty := .int) (by decide)
  have F457 : Fld Z h447 a448 "com/example/pursuant/pursuant/dictionary/Dictionary" "k" "I" (.int (0 : Int32)) := D447 (Or.inr (hw _ (List.mem_of_getElem? (i := 23) rfl))) (ty := .int) (by decide)
  have F458 : Fld Z h447 a448 "com/example/pursuant/pursuant/dictionary/BandDictionary" "starts" "[I" .null := D447 (Or.inr (hw _ (List.mem_of_getElem? (i := 30) rfl))) (ty := (.array .int)) (by decide)
  have F459 : Fld Z h447 a448 "com/example/pursuant/pursuant/dictionary/BandDictionary" "stretches" "[[D" .null := D447 (Or.inr (hw _ (List.mem_of_getElem? (i := 34) rfl))) (ty := (.array (.array .double))) (by decide)
  refine Go.of (g' := (mkF m 76 #[.val (.long p0), .second, .val (.ref b343), .unset] [(.ref a448)])) st447 ?_
  have A460 := (⟨X447, hx, hby⟩ : Ax _ _ _ _ _ _ _ _ _ _ _ _ _ _ _)
  refine g_dup A460 at_76 rfl (pc' := 77) rfl ?_
  refine g_iconst A460 at_77 (v := (4 : Int32)) rfl (pc' := 78) rfl ?_
  refine g_iconst A460 at_78 (v := (2 : Int32)) rfl (pc' := 79) rfl ?_
  refine g_aloadN A460 at_79 rfl rfl (pc' := 80) rfl ?_
  obtain ⟨vv461, _, ⟨T461, L461, k461, n461⟩, -, X461, ⟨L461c, hQ461, l461, y461, z461⟩, st461⟩ := X447.specialBack hx (y := (⟨"com/example/pursuant/pursuant/dictionary/BandDictionary", "<init>", "(II[D)V"⟩ : MethodName)) rfl hown (mvT hZ (hw _ (List.mem_of_getElem? (i := 9) rfl))) (mvT hZ (hw _ (List.mem_of_getElem? (i := 10) rfl))) (mvT hZ (hw _ (List.mem_of_getElem? (i := 11) rfl))) (by decide) (backOf (W := 1) (rm2 l Z a0 hw [] a448 b343 (own_x p0) (.int (0 : Int32)) (.int (0 : Int32)) .null .null h447 n0 Z455 EA447 F456 F457 F458 F459 V454 g450 ne449) hZ (hw _ (List.mem_of_getElem? (i := 11) rfl)) (hw _ (List.mem_of_getElem? (i := 8) rfl)) (by decide) (by decide)) (g := (mkF m 80 #[.val (.long p0), .second, .val (.ref b343), .unset] [(.ref b343), (.int (2 : Int32)), (.int (4 : Int32)), (.ref a448), (.ref a448)])) rfl (by rw [hml]; rfl) (Steps.refl _) (a := a448) (argsL := [(.int (4 : Int32)), (.int (2 : Int32)), (.ref b343)]) (rest := [(.ref a448)]) (lenOf pd_3 rfl) rfl (by show 2 * 0 + _ ≤ _; exact Nat.le_of_eq rfl) (hb hby at_80) (fun _ _ => ⟨rfl, e447, (by decide : 2 + 4 ≤ _), (by decide : 14 + 12 ≤ _)⟩)
  have hQ461b : Q2 Z a448 b343 (own_x p0) (.int (0 : Int32)) (.int (0 : Int32)) .null .null h447 n0 vv461 T461.heap L461c := hQ461
  clear hQ461
  dsimp only [Pt.U, Pt.locs, Pt.cells, Pt.slots] at X461 l461 y461 z461 st461
  subst y461 z461
  obtain ⟨sa462, ta463, ra0464, rb0465, r0466, ra1467, rb1468, r1469, rfl, Nq470, Kq471, gx472, gx473, F474, F475, gx476, V477, gx478, V479, V480, V481, hq482, hq483⟩ := hQ461b
  have N484 : Fr n0 L461 := by rw [l461]; exact Fr.app N441 Nq470
  refine Go.tr (g' := (mkF m 83 #[.val (.long p0), .second, .val (.ref b343), .unset] [(.ref a448)])) st461 ?_
  have E485 : Exa Z T461.heap b343 "[D" := Exa.keep E453 Kq471
  have V486 : Dar Z T461.heap b343 .double 8 (fun t => .double ((own_x p0) t)) := Dar.keep V454 Kq471 (ninS ne449 nin0)
  have E487 : Exa Z T461.heap a448 "com/example/pursuant/pursuant/dictionary/BandDictionary" := Exa.keep EA447 Kq471
  have Z488 : n0 ≤ T461.heap.size := Nat.le_trans Z455 Kq471.1
  have K489 : Keep h0 T461.heap [] := K452.trans Kq471 (allS (Or.inr gh451) all0)
  have A490 := (⟨X461, hx, hby⟩ : Ax _ _ _ _ _ _ _ _ _ _ _ _ _ _ _)
  have g491 : n0 ≤ sa462 := Nat.le_trans Z455 gx472
  have gh492 : h0.size ≤ sa462 := Nat.le_trans K452.1 gx472
  have ne493 : a448 ≠ sa462 := Nat.ne_of_lt (Nat.lt_of_lt_of_le EA447.lt gx472)
  have ne494 : b343 ≠ sa462 := Nat.ne_of_lt (Nat.lt_of_lt_of_le E453.lt gx472)
  have g495 : n0 ≤ ta463 := Nat.le_trans Z455 gx473
  have gh496 : h0.size ≤ ta463 := Nat.le_trans K452.1 gx473
  have ne497 : a448 ≠ ta463 := Nat.ne_of_lt (Nat.lt_of_lt_of_le EA447.lt gx473)
  have ne498 : b343 ≠ ta463 := Nat.ne_of_lt (Nat.lt_of_lt_of_le E453.lt gx473)
  have g499 : n0 ≤ r0466 := Nat.le_trans Z455 gx476
  have gh500 : h0.size ≤ r0466 := Nat.le_trans K452.1 gx476
  have ne501 : a448 ≠ r0466 := Nat.ne_of_lt (Nat.lt_of_lt_of_le EA447.lt gx476)
  have ne502 : b343 ≠ r0466 := Nat.ne_of_lt (Nat.lt_of_lt_of_le E453.lt gx476)
  have g503 : n0 ≤ r1469 := Nat.le_trans Z455 gx478
  have gh504 : h0.size ≤ r1469 := Nat.le_trans K452.1 gx478
  have ne505 : a448 ≠ r1469 := Nat.ne_of_lt (Nat.lt_of_lt_of_le EA447.lt gx478)
  have ne506 : b343 ≠ r1469 := Nat.ne_of_lt (Nat.lt_of_lt_of_le E453.lt gx478)
  refine g_astoreN A490 at_83 rfl (ls' := #[.val (.long p0), .second, .val (.ref b343), .val (.ref a448)]) rfl (pc' := 84) rfl ?_
  refine g_aloadN A490 at_84 rfl rfl (pc' := 85) rfl ?_
  refine g_iconst A490 at_85 (v := (0 : Int32)) rfl (pc' := 86) rfl ?_
  refine g_iconst A490 at_86 (v := (0 : Int32)) rfl (pc' := 87) rfl ?_
  have hp507 : 0 < 2 := (by decide)
  have hp508 : 0 < 4 := (by decide)
  have hp509 : 0 ≤ 1000 := (by decide)
  obtain ⟨cq511, kq511, q511a, q511b, q511c⟩ := isOf hZ rfl E487
  obtain ⟨vv510, _, ⟨T510, L510, k510, n510⟩, -, X510, ⟨L510c, hQ510, l510, y510, z510⟩, st510⟩ := X461.virtualBack hx (y := (⟨"com/example/pursuant/pursuant/dictionary/BandDictionary", "read", "(II)D"⟩ : MethodName)) (z := (⟨"com/example/pursuant/pursuant/dictionary/BandDictionary", "read", "(II)D"⟩ : MethodName)) hown (mvT hZ (hw _ (List.mem_of_getElem? (i := 58) rfl))) (mvT hZ (hw _ (List.mem_of_getElem? (i := 59) rfl))) (notFace_of_selects (args := #[]) (mvT hZ (hw _ (List.mem_of_getElem? (i := 61) rfl)))) (mvT hZ (hw _ (List.mem_of_getElem? (i := 61) rfl))) (mvT hZ (hw _ (List.mem_of_getElem? (i := 60) rfl))) (by decide) (backOf (W := 0) (rm11 l Z a0 hw [] a448 0 0 sa462 ta463 (fun j => if j = 1 then .int (own_s ra1467 rb1468 4) else (fun j => if j = 0 then .int (own_s ra0464 rb0465 0) else (fun _ => .int (0 : Int32)) j) j) (fun j => if j = 1 then .ref r1469 else (fun j => if j = 0 then .ref r0466 else (fun _ => .null) j) j) r0466 ra0464 rb0465 0 (own_x p0) T461.heap n0 Z488 E487 F474 F475 V480 V481 V477 rfl rfl hp507 hp508 hp509 hq482) hZ (hw _ (List.mem_of_getElem? (i := 62) rfl)) (hw _ (List.mem_of_getElem? (i := 8) rfl)) (by decide) (by decide)) q511a q511c (g := (mkF m 87 #[.val (.long p0), .second, .val (.ref b343), .val (.ref a448)] [(.int (0 : Int32)), (.int (0 : Int32)), (.ref a448)])) rfl (by rw [hml]; rfl) (Steps.refl _) (argsL := [(.int (0 : Int32)), (.int (0 : Int32))]) (rest := []) (lenOf pd_6 rfl) rfl (by show 2 * 0 + _ ≤ _; exact Nat.le_of_eq rfl) (hb hby at_87) (fun _ _ => ⟨rfl, rfl, (by decide : 6 + 0 ≤ _), (by decide : 26 + 0 ≤ _)⟩)
  have hQ510b : Q11 Z a448 0 0 sa462 ta463 (fun j => if j = 1 then .int (own_s ra1467 rb1468 4) else (fun j => if j = 0 then .int (own_s ra0464 rb0465 0) else (fun _ => .int (0 : Int32)) j) j) (fun j => if j = 1 then .ref r1469 else (fun j => if j = 0 then .ref r0466 else (fun _ => .null) j) j) r0466 ra0464 rb0465 0 (own_x p0) T461.heap n0 vv510 T510.heap L510c := hQ510
  clear hQ510
  dsimp only [Pt.U, Pt.locs, Pt.cells, Pt.slots] at X510 l510 y510 z510 st510
  subst y510 z510
  obtain ⟨y512, rfl, Nq513, Kq514, hq515⟩ := hQ510b
  have N516 : Fr n0 L510 := by rw [l510]; exact Fr.app N484 Nq513
  refine Go.tr (g' := (mkF m 90 #[.val (.long p0), .second, .val (.ref b343), .val (.ref a448)] [(.double y512)])) st510 ?_
  have e517 : T510.heap = T461.heap := Kq514
  have A518 := (⟨X510, hx, hby⟩ : Ax _ _ _ _ _ _ _ _ _ _ _ _ _ _ _)
  refine g_aloadN A518 at_90 rfl rfl (pc' := 91) rfl ?_
  refine g_iconst A518 at_91 (v := (0 : Int32)) rfl (pc' := 92) rfl ?_
  refine g_daload A518 hZ e517 V486 (i := 0) (by decide) rfl (x := ((own_x p0) 0)) rfl at_92 (pc' := 93) rfl ?_
  refine g_dcmp A518 at_93 (pc' := 94) rfl ?_
  refine g_ifN A518 at_94 (d_l_ne_f (own_cmp (n := 0) hq515 (i2d_fin _))) (pc' := 97) rfl ?_
  refine g_aloadN A518 at_97 rfl rfl (pc' := 98) rfl ?_
  refine g_iconst A518 at_98 (v := (1 : Int32)) rfl (pc' := 99) rfl ?_
  refine g_iconst A518 at_99 (v := (0 : Int32)) rfl (pc' := 100) rfl ?_
  have hp519 : 0 < 2 := (by decide)
  have hp520 : 1 < 4 := (by decide)
  have hp521 : 0 ≤ 1000 := (by decide)
  obtain ⟨cq523, kq523, q523a, q523b, q523c⟩ := isOf hZ e517 E487
  obtain ⟨vv522, _, ⟨T522, L522, k522, n522⟩, -, X522, ⟨L522c, hQ522, l522, y522, z522⟩, st522⟩ := X510.virtualBack hx (y := (⟨"com/example/pursuant/pursuant/dictionary/BandDictionary", "read", "(II)D"⟩ : MethodName)) (z := (⟨"com/example/pursuant/pursuant/dictionary/BandDictionary", "read", "(II)D"⟩ : MethodName)) hown (mvT hZ (hw _ (List.mem_of_getElem? (i := 58) rfl))) (mvT hZ (hw _ (List.mem_of_getElem? (i := 59) rfl))) (notFace_of_selects (args := #[]) (mvT hZ (hw _ (List.mem_of_getElem? (i := 61) rfl)))) (mvT hZ (hw _ (List.mem_of_getElem? (i := 61) rfl))) (mvT hZ (hw _ (List.mem_of_getElem? (i := 60) rfl))) (by decide) (backOf (W := 0) (rm11 l Z a0 hw [] a448 1 0 sa462 ta463 (fun j => if j = 1 then .int (own_s ra1467 rb1468 4) else (fun j => if j = 0 then .int (own_s ra0464 rb0465 0) else (fun _ => .int (0 : Int32)) j) j) (fun j => if j = 1 then .ref r1469 else (fun j => if j = 0 then .ref r0466 else (fun _ => .null) j) j) r0466 ra0464 rb0465 0 (own_x p0) T461.heap n0 Z488 E487 F474 F475 V480 V481 V477 rfl rfl hp519 hp520 hp521 hq482) hZ (hw _ (List.mem_of_getElem? (i := 62) rfl)) (hw _ (List.mem_of_getElem? (i := 8) rfl)) (by decide) (by decide)) q523a q523c (g := (mkF m 100 #[.val (.long p0), .second, .val (.ref b343), .val (.ref a448)] [(.int (0 : Int32)), (.int (1 : Int32)), (.ref a448)])) rfl (by rw [hml]; rfl) (Steps.refl _) (argsL := [(.int (1 : Int32)), (.int (0 : Int32))]) (rest := []) (lenOf pd_6 rfl) rfl (by show 2 * 0 + _ ≤ _; exact Nat.le_of_eq rfl) (hb hby at_100) (fun _ _ => ⟨rfl, e517, (by decide : 6 + 0 ≤ _), (by decide : 26 + 0 ≤ _)⟩)
  have hQ522b : Q11 Z a448 1 0 sa462 ta463 (fun j => if j = 1 then .int (own_s ra1467 rb1468 4) else (fun j => if j = 0 then .int (own_s ra0464 rb0465 0) else (fun _ => .int (0 : Int32)) j) j) (fun j => if j = 1 then .ref r1469 else (fun j => if j = 0 then .ref r0466 else (fun _ => .null) j) j) r0466 ra0464 rb0465 0 (own_x p0) T461.heap n0 vv522 T522.heap L522c := hQ522
  clear hQ522
  dsimp only [Pt.U, Pt.locs, Pt.cells, Pt.slots] at X522 l522 y522 z522 st522
  subst y522 z522
  obtain ⟨y524, rfl, Nq525, Kq526, hq527⟩ := hQ522b
  have N528 : Fr n0 L522 := by rw [l522]; exact Fr.app N516 Nq525
  refine Go.tr (g' := (mkF m 103 #[.val (.long p0), .second, .val (.ref b343), .val (.ref a448)] [(.double y524)])) st522 ?_
  have e529 : T522.heap = T461.heap := Kq526
  have A530 := (⟨X522, hx, hby⟩ : Ax _ _ _ _ _ _ _ _ _ _ _ _ _ _ _)
  refine g_aloadN A530 at_103 rfl rfl (pc' := 104) rfl ?_
  refine g_iconst A530 at_104 (v := (1 : Int32)) rfl (pc' := 105) rfl ?_
  refine g_daload A530 hZ e529 V486 (i := 1) (by decide) rfl (x := ((own_x p0) 1)) rfl at_105 (pc' := 106) rfl ?_
  refine g_dcmp A530 at_106 (pc' := 107) rfl ?_
  refine g_ifN A530 at_107 (d_l_ne_f (own_cmp (n := 1) hq527 (i2d_fin _))) (pc' := 110) rfl ?_
  refine g_aloadN A530 at_110 rfl rfl (pc' := 111) rfl ?_
  refine g_iconst A530 at_111 (v := (2 : Int32)) rfl (pc' := 112) rfl ?_
  refine g_iconst A530 at_112 (v := (0 : Int32)) rfl (pc' := 113) rfl ?_
  have hp531 : 0 < 2 := (by decide)
  have hp532 : 2 < 4 := (by decide)
  have hp533 : 0 ≤ 1000 := (by decide)
  obtain ⟨cq535, kq535, q535a, q535b, q535c⟩ := isOf hZ e529 E487
  obtain ⟨vv534, _, ⟨T534, L534, k534, n534⟩, -, X534, ⟨L534c, hQ534, l534, y534, z534⟩, st534⟩ := X522.virtualBack hx (y := (⟨"com/example/pursuant/pursuant/dictionary/BandDictionary", "read", "(II)D"⟩ : MethodName)) (z := (⟨"com/example/pursuant/pursuant/dictionary/BandDictionary", "read", "(II)D"⟩ : MethodName)) hown (mvT hZ (hw _ (List.mem_of_getElem? (i := 58) rfl))) (mvT hZ (hw _ (List.mem_of_getElem? (i := 59) rfl))) (notFace_of_selects (args := #[]) (mvT hZ (hw _ (List.mem_of_getElem? (i := 61) rfl)))) (mvT hZ (hw _ (List.mem_of_getElem? (i := 61) rfl))) (mvT hZ (hw _ (List.mem_of_getElem? (i := 60) rfl))) (by decide) (backOf (W := 0) (rm11 l Z a0 hw [] a448 2 0 sa462 ta463 (fun j => if j = 1 then .int (own_s ra1467 rb1468 4) else (fun j => if j = 0 then .int (own_s ra0464 rb0465 0) else (fun _ => .int (0 : Int32)) j) j) (fun j => if j = 1 then .ref r1469 else (fun j => if j = 0 then .ref r0466 else (fun _ => .null) j) j) r0466 ra0464 rb0465 0 (own_x p0) T461.heap n0 Z488 E487 F474 F475 V480 V481 V477 rfl rfl hp531 hp532 hp533 hq482) hZ (hw _ (List.mem_of_getElem? (i := 62) rfl)) (hw _ (List.mem_of_getElem? (i := 8) rfl)) (by decide) (by decide)) q535a q535c (g := (mkF m 113 #[.val (.long p0), .second, .val (.ref b343), .val (.ref a448)] [(.int (0 : Int32)), (.int (2 : Int32)), (.ref a448)])) rfl (by rw [hml]; rfl) (Steps.refl _) (argsL := [(.int (2 : Int32)), (.int (0 : Int32))]) (rest := []) (lenOf pd_6 rfl) rfl (by show 2 * 0 + _ ≤ _; exact Nat.le_of_eq rfl) (hb hby at_113) (fun _ _ => ⟨rfl, e529, (by decide : 6 + 0 ≤ _), (by decide : 26 + 0 ≤ _)⟩)
  have hQ534b : Q11 Z a448 2 0 sa462 ta463 (fun j => if j = 1 then .int (own_s ra1467 rb1468 4) else (fun j => if j = 0 then .int (own_s ra0464 rb0465 0) else (fun _ => .int (0 : Int32)) j) j) (fun j => if j = 1 then .ref r1469 else (fun j => if j = 0 then .ref r0466 else (fun _ => .null) j) j) r0466 ra0464 rb0465 0 (own_x p0) T461.heap n0 vv534 T534.heap L534c := hQ534
  clear hQ534
  dsimp only [Pt.U, Pt.locs, Pt.cells, Pt.slots] at X534 l534 y534 z534 st534
  subst y534 z534
  obtain ⟨y536, rfl, Nq537, Kq538, hq539⟩ := hQ534b
  have N540 : Fr n0 L534 := by rw [l534]; exact Fr.app N528 Nq537
  refine Go.tr (g' := (mkF m 116 #[.val (.long p0), .second, .val (.ref b343), .val (.ref a448)] [(.double y536)])) st534 ?_
  have e541 : T534.heap = T461.heap := Kq538
  have A542 := (⟨X534, hx, hby⟩ : Ax _ _ _ _ _ _ _ _ _ _ _ _ _ _ _)
  refine g_aloadN A542 at_116 rfl rfl (pc' := 117) rfl ?_
  refine g_iconst A542 at_117 (v := (2 : Int32)) rfl (pc' := 118) rfl ?_
  refine g_daload A542 hZ e541 V486 (i := 2) (by decide) rfl (x := ((own_x p0) 2)) rfl at_118 (pc' := 119) rfl ?_
  refine g_dcmp A542 at_119 (pc' := 120) rfl ?_
  refine g_ifN A542 at_120 (d_l_ne_f (own_cmp (n := 2) hq539 (i2d_fin _))) (pc' := 123) rfl ?_
  refine g_aloadN A542 at_123 rfl rfl (pc' := 124) rfl ?_
  refine g_iconst A542 at_124 (v := (3 : Int32)) rfl (pc' := 125) rfl ?_
  refine g_iconst A542 at_125 (v := (0 : Int32)) rfl (pc' := 126) rfl ?_
  have hp543 : 0 < 2 := (by decide)
  have hp544 : 3 < 4 := (by decide)
  have hp545 : 0 ≤ 1000 := (by decide)
  obtain ⟨cq547, kq547, q547a, q547b, q547c⟩ := isOf hZ e541 E487
  obtain ⟨vv546, _, ⟨T546, L546, k546, n546⟩, -, X546, ⟨L546c, hQ546, l546, y546, z546⟩, st546⟩ := X534.virtualBack hx (y := (⟨"com/example/pursuant/pursuant/dictionary/BandDictionary", "read", "(II)D"⟩ : MethodName)) (z := (⟨"com/example/pursuant/pursuant/dictionary/BandDictionary", "read", "(II)D"⟩ : MethodName)) hown (mvT hZ (hw _ (List.mem_of_getElem? (i := 58) rfl))) (mvT hZ (hw _ (List.mem_of_getElem? (i := 59) rfl))) (notFace_of_selects (args := #[]) (mvT hZ (hw _ (List.mem_of_getElem? (i := 61) rfl)))) (mvT hZ (hw _ (List.mem_of_getElem? (i := 61) rfl))) (mvT hZ (hw _ (List.mem_of_getElem? (i := 60) rfl))) (by decide) (backOf (W := 0) (rm11 l Z a0 hw [] a448 3 0 sa462 ta463 (fun j => if j = 1 then .int (own_s ra1467 rb1468 4) else (fun j => if j = 0 then .int (own_s ra0464 rb0465 0) else (fun _ => .int (0 : Int32)) j) j) (fun j => if j = 1 then .ref r1469 else (fun j => if j = 0 then .ref r0466 else (fun _ => .null) j) j) r0466 ra0464 rb0465 0 (own_x p0) T461.heap n0 Z488 E487 F474 F475 V480 V481 V477 rfl rfl hp543 hp544 hp545 hq482) hZ (hw _ (List.mem_of_getElem? (i := 62) rfl)) (hw _ (List.mem_of_getElem? (i := 8) rfl)) (by decide) (by decide)) q547a q547c (g := (mkF m 126 #[.val (.long p0), .second, .val (.ref b343), .val (.ref a448)] [(.int (0 : Int32)), (.int (3 : Int32)), (.ref a448)])) rfl (by rw [hml]; rfl) (Steps.refl _) (argsL := [(.int (3 : Int32)), (.int (0 : Int32))]) (rest := []) (lenOf pd_6 rfl) rfl (by show 2 * 0 + _ ≤ _; exact Nat.le_of_eq rfl) (hb hby at_126) (fun _ _ => ⟨rfl, e541, (by decide : 6 + 0 ≤ _), (by decide : 26 + 0 ≤ _)⟩)
  have hQ546b : Q11 Z a448 3 0 sa462 ta463 (fun j => if j = 1 then .int (own_s ra1467 rb1468 4) else (fun j => if j = 0 then .int (own_s ra0464 rb0465 0) else (fun _ => .int (0 : Int32)) j) j) (fun j => if j = 1 then .ref r1469 else (fun j => if j = 0 then .ref r0466 else (fun _ => .null) j) j) r0466 ra0464 rb0465 0 (own_x p0) T461.heap n0 vv546 T546.heap L546c := hQ546
  clear hQ546
  dsimp only [Pt.U, Pt.locs, Pt.cells, Pt.slots] at X546 l546 y546 z546 st546
  subst y546 z546
  obtain ⟨y548, rfl, Nq549, Kq550, hq551⟩ := hQ546b
  have N552 : Fr n0 L546 := by rw [l546]; exact Fr.app N540 Nq549
  refine Go.tr (g' := (mkF m 129 #[.val (.long p0), .second, .val (.ref b343), .val (.ref a448)] [(.double y548)])) st546 ?_
  have e553 : T546.heap = T461.heap := Kq550
  have A554 := (⟨X546, hx, hby⟩ : Ax _ _ _ _ _ _ _ _ _ _ _ _ _ _ _)
  refine g_aloadN A554 at_129 rfl rfl (pc' := 130) rfl ?_
  refine g_iconst A554 at_130 (v := (3 : Int32)) rfl (pc' := 131) rfl ?_
  refine g_daload A554 hZ e553 V486 (i := 3) (by decide) rfl (x := ((own_x p0) 3)) rfl at_131 (pc' := 132) rfl ?_
  refine g_dcmp A554 at_132 (pc' := 133) rfl ?_
  refine g_ifN A554 at_133 (d_l_ne_f (own_cmp (n := 3) hq551 (i2d_fin _))) (pc' := 136) rfl ?_
  refine g_aloadN A554 at_136 rfl rfl (pc' := 137) rfl ?_
  refine g_iconst A554 at_137 (v := (0 : Int32)) rfl (pc' := 138) rfl ?_
  refine g_iconst A554 at_138 (v := (1 : Int32)) rfl (pc' := 139) rfl ?_
  have hp555 : 1 < 2 := (by decide)
  have hp556 : 0 < 4 := (by decide)
  have hp557 : 4 ≤ 1000 := (by decide)
  obtain ⟨cq559, kq559, q559a, q559b, q559c⟩ := isOf hZ e553 E487
  obtain ⟨vv558, _, ⟨T558, L558, k558, n558⟩, -, X558, ⟨L558c, hQ558, l558, y558, z558⟩, st558⟩ := X546.virtualBack hx (y := (⟨"com/example/pursuant/pursuant/dictionary/BandDictionary", "read", "(II)D"⟩ : MethodName)) (z := (⟨"com/example/pursuant/pursuant/dictionary/BandDictionary", "read", "(II)D"⟩ : MethodName)) hown (mvT hZ (hw _ (List.mem_of_getElem? (i := 58) rfl))) (mvT hZ (hw _ (List.mem_of_getElem? (i := 59) rfl))) (notFace_of_selects (args := #[]) (mvT hZ (hw _ (List.mem_of_getElem? (i := 61) rfl)))) (mvT hZ (hw _ (List.mem_of_getElem? (i := 61) rfl))) (mvT hZ (hw _ (List.mem_of_getElem? (i := 60) rfl))) (by decide) (backOf (W := 0) (rm11 l Z a0 hw [] a448 0 1 sa462 ta463 (fun j => if j = 1 then .int (own_s ra1467 rb1468 4) else (fun j => if j = 0 then .int (own_s ra0464 rb0465 0) else (fun _ => .int (0 : Int32)) j) j) (fun j => if j = 1 then .ref r1469 else (fun j => if j = 0 then .ref r0466 else (fun _ => .null) j) j) r1469 ra1467 rb1468 4 (own_x p0) T461.heap n0 Z488 E487 F474 F475 V480 V481 V479 rfl rfl hp555 hp556 hp557 hq483) hZ (hw _ (List.mem_of_getElem? (i := 62) rfl)) (hw _ (List.mem_of_getElem? (i := 8) rfl)) (by decide) (by decide)) q559a q559c (g := (mkF m 139 #[.val (.long p0), .second, .val (.ref b343), .val (.ref a448)] [(.int (1 : Int32)), (.int (0 : Int32)), (.ref a448)])) rfl (by rw [hml]; rfl) (Steps.refl _) (argsL := [(.int (0 : Int32)), (.int (1 : Int32))]) (rest := []) (lenOf pd_6 rfl) rfl (by show 2 * 0 + _ ≤ _; exact Nat.le_of_eq rfl) (hb hby at_139) (fun _ _ => ⟨rfl, e553, (by decide : 6 + 0 ≤ _), (by decide : 26 + 0 ≤ _)⟩)
  have hQ558b : Q11 Z a448 0 1 sa462 ta463 (fun j => if j = 1 then .int (own_s ra1467 rb1468 4) else (fun j => if j = 0 then .int (own_s ra0464 rb0465 0) else (fun _ => .int (0 : Int32)) j) j) (fun j => if j = 1 then .ref r1469 else (fun j => if j = 0 then .ref r0466 else (fun _ => .null) j) j) r1469 ra1467 rb1468 4 (own_x p0) T461.heap n0 vv558 T558.heap L558c := hQ558
  clear hQ558
  dsimp only [Pt.U, Pt.locs, Pt.cells, Pt.slots] at X558 l558 y558 z558 st558
  subst y558 z558
  obtain ⟨y560, rfl, Nq561, Kq562, hq563⟩ := hQ558b
  have N564 : Fr n0 L558 := by rw [l558]; exact Fr.app N552 Nq561
  refine Go.tr (g' := (mkF m 142 #[.val (.long p0), .second, .val (.ref b343), .val (.ref a448)] [(.double y560)])) st558 ?_
  have e565 : T558.heap = T461.heap := Kq562
  have A566 := (⟨X558, hx, hby⟩ : Ax _ _ _ _ _ _ _ _ _ _ _ _ _ _ _)
  refine g_aloadN A566 at_142 rfl rfl (pc' := 143) rfl ?_
  refine g_iconst A566 at_143 (v := (4 : Int32)) rfl (pc' := 144) rfl ?_
  refine g_daload A566 hZ e565 V486 (i := 4) (by decide) rfl (x := ((own_x p0) 4)) rfl at_144 (pc' := 145) rfl ?_
  refine g_dcmp A566 at_145 (pc' := 146) rfl ?_
  refine g_ifN A566 at_146 (d_l_ne_f (own_cmp (n := 4) hq563 (i2d_fin _))) (pc' := 149) rfl ?_
  refine g_aloadN A566 at_149 rfl rfl (pc' := 150) rfl ?_
  refine g_iconst A566 at_150 (v := (1 : Int32)) rfl (pc' := 151) rfl ?_
  refine g_iconst A566 at_151 (v := (1 : Int32)) rfl (pc' := 152) rfl ?_
  have hp567 : 1 < 2 := (by decide)
  have hp568 : 1 < 4 := (by decide)
  have hp569 : 4 ≤ 1000 := (by decide)
  obtain ⟨cq571, kq571, q571a, q571b, q571c⟩ := isOf hZ e565 E487
  obtain ⟨vv570, _, ⟨T570, L570, k570, n570⟩, -, X570, ⟨L570c, hQ570, l570, y570, z570⟩, st570⟩ := X558.virtualBack hx (y := (⟨"com/example/pursuant/pursuant/dictionary/BandDictionary", "read", "(II)D"⟩ : MethodName)) (z := (⟨"com/example/pursuant/pursuant/dictionary/BandDictionary", "read", "(II)D"⟩ : MethodName)) hown (mvT hZ (hw _ (List.mem_of_getElem? (i := 58) rfl))) (mvT hZ (hw _ (List.mem_of_getElem? (i := 59) rfl))) (notFace_of_selects (args := #[]) (mvT hZ (hw _ (List.mem_of_getElem? (i := 61) rfl)))) (mvT hZ (hw _ (List.mem_of_getElem? (i := 61) rfl))) (mvT hZ (hw _ (List.mem_of_getElem? (i := 60) rfl))) (by decide) (backOf (W := 0) (rm11 l Z a0 hw [] a448 1 1 sa462 ta463 (fun j => if j = 1 then .int (own_s ra1467 rb1468 4) else (fun j => if j = 0 then .int (own_s ra0464 rb0465 0) else (fun _ => .int (0 : Int32)) j) j) (fun j => if j = 1 then .ref r1469 else (fun j => if j = 0 then .ref r0466 else (fun _ => .null) j) j) r1469 ra1467 rb1468 4 (own_x p0) T461.heap n0 Z488 E487 F474 F475 V480 V481 V479 rfl rfl hp567 hp568 hp569 hq483) hZ (hw _ (List.mem_of_getElem? (i := 62) rfl)) (hw _ (List.mem_of_getElem? (i := 8) rfl)) (by decide) (by decide)) q571a q571c (g := (mkF m 152 #[.val (.long p0), .second, .val (.ref b343), .val (.ref a448)] [(.int (1 : Int32)), (.int (1 : Int32)), (.ref a448)])) rfl (by rw [hml]; rfl) (Steps.refl _) (argsL := [(.int (1 : Int32)), (.int (1 : Int32))]) (rest := []) (lenOf pd_6 rfl) rfl (by show 2 * 0 + _ ≤ _; exact Nat.le_of_eq rfl) (hb hby at_152) (fun _ _ => ⟨rfl, e565, (by decide : 6 + 0 ≤ _), (by decide : 26 + 0 ≤ _)⟩)
  have hQ570b : Q11 Z a448 1 1 sa462 ta463 (fun j => if j = 1 then .int (own_s ra1467 rb1468 4) else (fun j => if j = 0 then .int (own_s ra0464 rb0465 0) else (fun _ => .int (0 : Int32)) j) j) (fun j => if j = 1 then .ref r1469 else (fun j => if j = 0 then .ref r0466 else (fun _ => .null) j) j) r1469 ra1467 rb1468 4 (own_x p0) T461.heap n0 vv570 T570.heap L570c := hQ570
  clear hQ570
  dsimp only [Pt.U, Pt.locs, Pt.cells, Pt.slots] at X570 l570 y570 z570 st570
  subst y570 z570
  obtain ⟨y572, rfl, Nq573, Kq574, hq575⟩ := hQ570b
  have N576 : Fr n0 L570 := by rw [l570]; exact Fr.app N564 Nq573
  refine Go.tr (g' := (mkF m 155 #[.val (.long p0), .second, .val (.ref b343), .val (.ref a448)] [(.double y572)])) st570 ?_
  have e577 : T570.heap = T461.heap := Kq574
  have A578 := (⟨X570, hx, hby⟩ : Ax _ _ _ _ _ _ _ _ _ _ _ _ _ _ _)
  refine g_aloadN A578 at_155 rfl rfl (pc' := 156) rfl ?_
  refine g_iconst A578 at_156 (v := (5 : Int32)) rfl (pc' := 157) rfl ?_
  refine g_daload A578 hZ e577 V486 (i := 5) (by decide) rfl (x := ((own_x p0) 5)) rfl at_157 (pc' := 158) rfl ?_
  refine g_dcmp A578 at_158 (pc' := 159) rfl ?_
  refine g_ifN A578 at_159 (d_l_ne_f (own_cmp (n := 5) hq575 (i2d_fin _))) (pc' := 162) rfl ?_
  refine g_aloadN A578 at_162 rfl rfl (pc' := 163) rfl ?_
  refine g_iconst A578 at_163 (v := (2 : Int32)) rfl (pc' := 164) rfl ?_
  refine g_iconst A578 at_164 (v := (1 : Int32)) rfl (pc' := 165) rfl ?_
  have hp579 : 1 < 2 := (by decide)
  have hp580 : 2 < 4 := (by decide)
  have hp581 : 4 ≤ 1000 := (by decide)
  obtain ⟨cq583, kq583, q583a, q583b, q583c⟩ := isOf hZ e577 E487
  obtain ⟨vv582, _, ⟨T582, L582, k582, n582⟩, -, X582, ⟨L582c, hQ582, l582, y582, z582⟩, st582⟩ := X570.virtualBack hx (y := (⟨"com/example/pursuant/pursuant/dictionary/BandDictionary", "read", "(II)D"⟩ : MethodName)) (z := (⟨"com/example/pursuant/pursuant/dictionary/BandDictionary", "read", "(II)D"⟩ : MethodName)) hown (mvT hZ (hw _ (List.mem_of_getElem? (i := 58) rfl))) (mvT hZ (hw _ (List.mem_of_getElem? (i := 59) rfl))) (notFace_of_selects (args := #[]) (mvT hZ (hw _ (List.mem_of_getElem? (i := 61) rfl)))) (mvT hZ (hw _ (List.mem_of_getElem? (i := 61) rfl))) (mvT hZ (hw _ (List.mem_of_getElem? (i := 60) rfl))) (by decide) (backOf (W := 0) (rm11 l Z a0 hw [] a448 2 1 sa462 ta463 (fun j => if j = 1 then .int (own_s ra1467 rb1468 4) else (fun j => if j = 0 then .int (own_s ra0464 rb0465 0) else (fun _ => .int (0 : Int32)) j) j) (fun j => if j = 1 then .ref r1469 else (fun j => if j = 0 then .ref r0466 else (fun _ => .null) j) j) r1469 ra1467 rb1468 4 (own_x p0) T461.heap n0 Z488 E487 F474 F475 V480 V481 V479 rfl rfl hp579 hp580 hp581 hq483) hZ (hw _ (List.mem_of_getElem? (i := 62) rfl)) (hw _ (List.mem_of_getElem? (i := 8) rfl)) (by decide) (by decide)) q583a q583c (g := (mkF m 165 #[.val (.long p0), .second, .val (.ref b343), .val (.ref a448)] [(.int (1 : Int32)), (.int (2 : Int32)), (.ref a448)])) rfl (by rw [hml]; rfl) (Steps.refl _) (argsL := [(.int (2 : Int32)), (.int (1 : Int32))]) (rest := []) (lenOf pd_6 rfl) rfl (by show 2 * 0 + _ ≤ _; exact Nat.le_of_eq rfl) (hb hby at_165) (fun _ _ => ⟨rfl, e577, (by decide : 6 + 0 ≤ _), (by decide : 26 + 0 ≤ _)⟩)
  have hQ582b : Q11 Z a448 2 1 sa462 ta463 (fun j => if j = 1 then .int (own_s ra1467 rb1468 4) else (fun j => if j = 0 then .int (own_s ra0464 rb0465 0) else (fun _ => .int (0 : Int32)) j) j) (fun j => if j = 1 then .ref r1469 else (fun j => if j = 0 then .ref r0466 else (fun _ => .null) j) j) r1469 ra1467 rb1468 4 (own_x p0) T461.heap n0 vv582 T582.heap L582c := hQ582
  clear hQ582
  dsimp only [Pt.U, Pt.locs, Pt.cells, Pt.slots] at X582 l582 y582 z582 st582
  subst y582 z582
  obtain ⟨y584, rfl, Nq585, Kq586, hq587⟩ := hQ582b
  have N588 : Fr n0 L582 := by rw [l582]; exact Fr.app N576 Nq585
  refine Go.tr (g' := (mkF m 168 #[.val (.long p0), .second, .val (.ref b343), .val (.ref a448)] [(.double y584)])) st582 ?_
  have e589 : T582.heap = T461.heap := Kq586
  have A590 := (⟨X582, hx, hby⟩ : Ax _ _ _ _ _ _ _ _ _ _ _ _ _ _ _)
  refine g_aloadN A590 at_168 rfl rfl (pc' := 169) rfl ?_
  refine g_bipush A590 at_169 (v := (6 : Int32)) rfl (pc' := 171) rfl ?_
  refine g_daload A590 hZ e589 V486 (i := 6) (by decide) rfl (x := ((own_x p0) 6)) rfl at_171 (pc' := 172) rfl ?_
  refine g_dcmp A590 at_172 (pc' := 173) rfl ?_
  refine g_ifN A590 at_173 (d_l_ne_f (own_cmp (n := 6) hq587 (i2d_fin _))) (pc' := 176) rfl ?_
  refine g_aloadN A590 at_176 rfl rfl (pc' := 177) rfl ?_
  refine g_iconst A590 at_177 (v := (3 : Int32)) rfl (pc' := 178) rfl ?_
  refine g_iconst A590 at_178 (v := (1 : Int32)) rfl (pc' := 179) rfl ?_
  have hp591 : 1 < 2 := (by decide)
  have hp592 : 3 < 4 := (by decide)
  have hp593 : 4 ≤ 1000 := (by decide)
  obtain ⟨cq595, kq595, q595a, q595b, q595c⟩ := isOf hZ e589 E487
  obtain ⟨vv594, _, ⟨T594, L594, k594, n594⟩, -, X594, ⟨L594c, hQ594, l594, y594, z594⟩, st594⟩ := X582.virtualBack hx (y := (⟨"com/example/pursuant/pursuant/dictionary/BandDictionary", "read", "(II)D"⟩ : MethodName)) (z := (⟨"com/example/pursuant/pursuant/dictionary/BandDictionary", "read", "(II)D"⟩ : MethodName)) hown (mvT hZ (hw _ (List.mem_of_getElem? (i := 58) rfl))) (mvT hZ (hw _ (List.mem_of_getElem? (i := 59) rfl))) (notFace_of_selects (args := #[]) (mvT hZ (hw _ (List.mem_of_getElem? (i := 61) rfl)))) (mvT hZ (hw _ (List.mem_of_getElem? (i := 61) rfl))) (mvT hZ (hw _ (List.mem_of_getElem? (i := 60) rfl))) (by decide) (backOf (W := 0) (rm11 l Z a0 hw [] a448 3 1 sa462 ta463 (fun j => if j = 1 then .int (own_s ra1467 rb1468 4) else (fun j => if j = 0 then .int (own_s ra0464 rb0465 0) else (fun _ => .int (0 : Int32)) j) j) (fun j => if j = 1 then .ref r1469 else (fun j => if j = 0 then .ref r0466 else (fun _ => .null) j) j) r1469 ra1467 rb1468 4 (own_x p0) T461.heap n0 Z488 E487 F474 F475 V480 V481 V479 rfl rfl hp591 hp592 hp593 hq483) hZ (hw _ (List.mem_of_getElem? (i := 62) rfl)) (hw _ (List.mem_of_getElem? (i := 8) rfl)) (by decide) (by decide)) q595a q595c (g := (mkF m 179 #[.val (.long p0), .second, .val (.ref b343), .val (.ref a448)] [(.int (1 : Int32)), (.int (3 : Int32)), (.ref a448)])) rfl (by rw [hml]; rfl) (Steps.refl _) (argsL := [(.int (3 : Int32)), (.int (1 : Int32))]) (rest := []) (lenOf pd_6 rfl) rfl (by show 2 * 0 + _ ≤ _; exact Nat.le_of_eq rfl) (hb hby at_179) (fun _ _ => ⟨rfl, e589, (by decide : 6 + 0 ≤ _), (by decide : 26 + 0 ≤ _)⟩)
  have hQ594b : Q11 Z a448 3 1 sa462 ta463 (fun j => if j = 1 then .int (own_s ra1467 rb1468 4) else (fun j => if j = 0 then .int (own_s ra0464 rb0465 0) else (fun _ => .int (0 : Int32)) j) j) (fun j => if j = 1 then .ref r1469 else (fun j => if j = 0 then .ref r0466 else (fun _ => .null) j) j) r1469 ra1467 rb1468 4 (own_x p0) T461.heap n0 vv594 T594.heap L594c := hQ594
  clear hQ594
  dsimp only [Pt.U, Pt.locs, Pt.cells, Pt.slots] at X594 l594 y594 z594 st594
  subst y594 z594
  obtain ⟨y596, rfl, Nq597, Kq598, hq599⟩ := hQ594b
  have N600 : Fr n0 L594 := by rw [l594]; exact Fr.app N588 Nq597
  refine Go.tr (g' := (mkF m 182 #[.val (.long p0), .second, .val (.ref b343), .val (.ref a448)] [(.double y596)])) st594 ?_
  have e601 : T594.heap = T461.heap := Kq598
  have A602 := (⟨X594, hx, hby⟩ : Ax _ _ _ _ _ _ _ _ _ _ _ _ _ _ _)
  refine g_aloadN A602 at_182 rfl rfl (pc' := 183) rfl ?_
  refine g_bipush A602 at_183 (v := (7 : Int32)) rfl (pc' := 185) rfl ?_
  refine g_daload A602 hZ e601 V486 (i := 7) (by decide) rfl (x := ((own_x p0) 7)) rfl at_185 (pc' := 186) rfl ?_
  refine g_dcmp A602 at_186 (pc' := 187) rfl ?_
  refine g_ifN A602 at_187 (d_l_ne_f (own_cmp (n := 7) hq599 (i2d_fin _))) (pc' := 190) rfl ?_
  refine g_iconst A602 at_190 (v := (1 : Int32)) rfl (pc' := 191) rfl ?_
  refine g_goto A602 at_191 (pc' := 195) rfl ?_
  exact g_ret (Q := Q0 Z p0 h0 n0) A602 at_195 Bd.notSynchronized Bd.returns rfl (Or.inl ⟨rfl, by simp, _, rfl⟩) (by decide) (by decide) (by rw [e601]; exact ⟨rfl, N600⟩)
set_option maxRecDepth 65536 in
set_option maxHeartbeats 40000000 in
theorem comes_1 {Post : Tables → Env → Array Value → State → Outcome → State → Prop} (hpost : ∀ tb e args s v u, (limb_1_1.after args s (.returned v) u = true ∧ limb_1_2.after args s (.returned v) u = true ∧ True) → FrameEnd s (.returned v) u (Jvm.fieldLocs frame_1_writes args s ++ Jvm.arrayLocs frame_1_arrays args s ++ Jvm.staticLocs frame_1_statics s) 24 128 → Post tb e args s (.returned v) u) :
    ArmFor flags0 classFile x code maxLocals ret World_1 tables_1 room_1 Calls_1 rest_1 Pre_1 Post := by
  intro l hfl _ _ p e ha hc hk s m args below hf hA hF happ hP
  obtain ⟨hcalls, hrest, hpre⟩ := hP
  obtain ⟨-, -, -, hnamed, -, -, -, hat⟩ := (Spec.applies_iff hf).mp happ
  obtain ⟨hg, hn⟩ := and_e (Cond.before_iff.mp (show (Jvm.Cond.and given_1 narrow_1).before args s = true from hpre))
  obtain ⟨g0, hg1⟩ := and_e hg
  obtain ⟨w0, rfl⟩ : ∃ w0 : Value, args = #[w0] := by
    have hs : args.size = 1 := by simpa [Cond.value, given_1] using g0
    obtain ⟨L⟩ := args
    match L, hs with
    | [w0], _ => exact ⟨w0, rfl⟩
  have hw := fun d (hd : d ∈ tables_1) => atoms_spec (ws := Jvm.Cond.code x code maxLocals ret :: tables_1) hat d (List.mem_cons_of_mem _ hd)
  have hfit : Fit s := fun {y c} hc i hi => by
    obtain ⟨ha, rfl⟩ := Array.getElem?_eq_some_iff.mp hc
    have q := List.all_eq_true.mp ((Array.all_eq_true_iff_forall_mem.mp hF) _ (Array.getElem_mem ha)) i (List.mem_range.mpr hi)
    simpa [Array.getElem?_eq_getElem hi] using q
  obtain ⟨i0, j0⟩ := isL_v hg1
  obtain rfl : w0 = (.long i0) := Option.some.inj j0
  obtain ⟨n, o, h1, h2, h3, _, L, rfl, ⟨rfl, N⟩, hq⟩ := rm0 l s _ hw tables_1 i0 s.heap s.heap.size (Nat.le_refl _)  p e ha hc hk s m _ below hf ((Spec.applies_iff_loose hf).mp happ).1 ⟨rfl, State.Warmed39.refl s, rfl⟩ trivial
  refine ⟨n, _, h1, h2, h3, hpost _ _ _ _ _ _ ⟨Cond.after_iff.mpr rfl, Cond.after_iff.mpr (eq_i res_at (Term.int_eval (1)) rfl), trivial⟩ ⟨hq.1, hq.2.1, (hq.2.2.sift fun y hy => Or.inr (N y hy)).mono (by decide) (by decide)⟩⟩
theorem main_1_1 : Claimed_1_1 := comes_1 fun _ _ _ _ _ _ h hF => ⟨h.1, hF⟩
theorem main_1_2 : Claimed_1_2 := comes_1 fun _ _ _ _ _ _ h hF => ⟨h.2.1, hF⟩
end Jvm.Pilot.@@N@@
namespace Jvm.Pilot.@@N@@
open Jvm Jvm.ClassFile Sem Op Lib Jvm.Free Jvm.Stand Jvm.Pilot.@@N@@.Jvm.D
/-! MADE BY PROGRAM (witnessworld.py) out of the Statement's table words and the real class files: 16 classes; the members and pool entries that the words name. The judged class is class 1, her method 1. -/
namespace start1
open Jvm.ClassFile
def u (s : String) : CpInfo := .utf8 (stringToUtf16 s)
/-- a pool by its gaps: so many unusable entries, then the entry; so many at the end -/
def gap : Nat → List CpInfo → List CpInfo
  | 0, r => r
  | n + 1, r => .unusable :: gap n r
def poolList (es : List (Nat × CpInfo)) (last : Nat) : List CpInfo := es.foldr (fun e r => gap e.1 (e.2 :: r)) (gap last [])
def pool (es : List (Nat × CpInfo)) (last : Nat) : Array CpInfo := ⟨poolList es last⟩
def fileOf (pool : Array CpInfo) (this : Nat) (attrs : Array Attribute := #[]) (ms : Array MethodInfo := #[]) (fl : Nat := 33) (sup : Nat := 0) (ifs : Array Nat := #[]) (fds : Array FieldInfo := #[]) : ClassFile where
  minorVersion := 0
  majorVersion := 65
  constantPool := pool
  accessFlags := fl
  thisClass := this
  superClass := sup
  interfaces := ifs
  fields := fds
  methods := ms
  attributes := attrs
def plain (name : String) (sup : Option ClassId) : Class where
  name := name
  kind := .ordinary
  loader := none
  accessFlags := 33
  super := sup
  interfaces := #[]
  cf := none
  fields := #[]
  methods := #[]
  instanceTypes := #[]
  staticTypes := #[]
  resolved := #[]
  callSites := []
  init := .initialized
  statics := none
  mirror := none

def pool0 : Array CpInfo := pool [(5, u "<init>"), (0, u "()V"), (1, .class_ 10), (1, u "java/lang/Object")] 113

def k0c0 : Code := { maxStack := 0, maxLocals := 1, code := object_method_1_code, exceptionTable := #[], attributes := #[] }
def k0m0 : Method := { name := "<init>", desc := "()V", sig := { parameters := [], returnType := none }, accessFlags := 1, code := some k0c0 }
/-- java/lang/Object -/
def k0 : Class := { plain "java/lang/Object" none with
  accessFlags := 33
  interfaces := #[]
  cf := some (fileOf pool0 8 #[] #[{ accessFlags := 1, nameIndex := 5, descriptorIndex := 6, attributes := #[] }] 33 0 #[] #[])
  fields := #[]
  methods := #[k0m0]
  instanceTypes := #[]
  staticTypes := #[]
  resolved := Array.replicate 124 none
  statics := none }

def pool1 : Array CpInfo := pool [(2, .class_ 4), (1, u "java/lang/Object"), (0, u "<init>"), (0, u "()V"), (0, .methodref 8 9), (0, .class_ 10), (0, .nameAndType 11 12), (0, u "com/example/pursuant/pursuant/dictionary/BandDictionaryReadPinLaw"), (0, u "entry"), (0, u "(JI)D"), (0, .class_ 14), (0, u "com/example/pursuant/pursuant/dictionary/BandDictionary"), (0, .methodref 13 16), (0, .nameAndType 5 17), (0, u "(II[D)V"), (0, .methodref 13 19), (0, .nameAndType 20 21), (0, u "read"), (0, u "(II)D"), (0, .long 3), (3, u "law"), (0, u "(J)Z")] 5

def k1m0 : Method := { name := "<init>", desc := "()V", sig := { parameters := [], returnType := none }, accessFlags := 1, code := none }
def k1c1 : Code := { maxStack := 5, maxLocals := 4, code := code, exceptionTable := #[], attributes := #[] }
def k1m1 : Method := { name := "law", desc := "(J)Z", sig := { parameters := [.long], returnType := some .boolean }, accessFlags := 9, code := some k1c1 }
def k1c2 : Code := { maxStack := 4, maxLocals := 4, code := method_3_code, exceptionTable := #[], attributes := #[] }
def k1m2 : Method := { name := "entry", desc := "(JI)D", sig := { parameters := [.long, .int], returnType := some .double }, accessFlags := 10, code := some k1c2 }
/-- com/example/pursuant/pursuant/dictionary/BandDictionaryReadPinLaw -/
def k1 : Class := { plain "com/example/pursuant/pursuant/dictionary/BandDictionaryReadPinLaw" (some 0) with
  accessFlags := 49
  interfaces := #[]
  cf := some (fileOf pool1 8 #[] #[{ accessFlags := 1, nameIndex := 5, descriptorIndex := 6, attributes := #[] }, { accessFlags := 9, nameIndex := 26, descriptorIndex := 27, attributes := #[] }, { accessFlags := 10, nameIndex := 11, descriptorIndex := 12, attributes := #[] }] 49 2 #[] #[])
  fields := #[]
  methods := #[k1m0, k1m1, k1m2]
  instanceTypes := #[]
  staticTypes := #[]
  resolved := Array.replicate 33 none
  statics := none }

def pool2 : Array CpInfo := pool [(1, .methodref 2 3), (0, .class_ 4), (0, .nameAndType 5 6), (0, u "java/lang/Object"), (0, u "<init>"), (0, u "()V"), (9, .fieldref 17 18), (0, .class_ 19), (0, .nameAndType 20 21), (0, u "com/example/pursuant/pursuant/dictionary/Dictionary"), (0, u "n"), (0, u "I"), (0, .fieldref 17 23), (0, .nameAndType 24 21), (0, u "k"), (116, u "NORM_TOLERANCE"), (0, u "D"), (1, u "(II)V"), (22, u "checkValueCount"), (0, u "(II[D)V")] 27

def k2c0 : Code := { maxStack := 4, maxLocals := 3, code := prog_4_method_1_code, exceptionTable := #[], attributes := #[] }
def k2m0 : Method := { name := "<init>", desc := "(II)V", sig := { parameters := [.int, .int], returnType := none }, accessFlags := 4, code := some k2c0 }
def k2c1 : Code := { maxStack := 7, maxLocals := 3, code := prog_4_method_28_code, exceptionTable := #[], attributes := #[] }
def k2m1 : Method := { name := "checkValueCount", desc := "(II[D)V", sig := { parameters := [.int, .int, (.array .double)], returnType := none }, accessFlags := 12, code := some k2c1 }
/-- com/example/pursuant/pursuant/dictionary/Dictionary -/
def k2 : Class := { plain "com/example/pursuant/pursuant/dictionary/Dictionary" (some 0) with
  accessFlags := 1057
  interfaces := #[]
  cf := some (fileOf pool2 17 #[] #[{ accessFlags := 4, nameIndex := 5, descriptorIndex := 144, attributes := #[] }, { accessFlags := 12, nameIndex := 167, descriptorIndex := 168, attributes := #[] }] 1057 2 #[] #[{ accessFlags := 26, nameIndex := 141, descriptorIndex := 142, attributes := #[] }, { accessFlags := 18, nameIndex := 20, descriptorIndex := 21, attributes := #[] }, { accessFlags := 18, nameIndex := 24, descriptorIndex := 21, attributes := #[] }])
  fields := #[{ name := "NORM_TOLERANCE", type := .double, accessFlags := 26, slot := 0, constantValue := 0 }, { name := "n", type := .int, accessFlags := 18, slot := 0, constantValue := 0 }, { name := "k", type := .int, accessFlags := 18, slot := 1, constantValue := 0 }]
  methods := #[k2m0, k2m1]
  instanceTypes := #[.int, .int]
  staticTypes := #[.double]
  resolved := Array.replicate 196 none
  statics := none }

def pool3 : Array CpInfo := pool [(1, .methodref 2 3), (0, .class_ 4), (0, .nameAndType 5 6), (0, u "com/example/pursuant/pursuant/dictionary/Dictionary"), (0, u "<init>"), (0, u "(II)V"), (0, .methodref 8 9), (0, .class_ 10), (0, .nameAndType 11 12), (0, u "com/example/pursuant/pursuant/dictionary/BandDictionary"), (0, u "checkValueCount"), (0, u "(II[D)V"), (0, .fieldref 8 14), (0, .nameAndType 15 16), (0, u "starts"), (0, u "[I"), (0, .class_ 18), (0, u "[D"), (0, .fieldref 8 20), (0, .nameAndType 21 22), (0, u "stretches"), (0, u "[[D"), (0, .methodref 8 24), (0, .nameAndType 25 26), (0, u "keepStretch"), (0, u "(I[DIII)V"), (46, .class_ 75), (1, u "java/util/Arrays"), (10, u "squaredNorms"), (6, u "crossProducts"), (28, .methodref 73 123), (0, .nameAndType 124 125), (0, u "copyOfRange"), (0, u "([DII)[D"), (3, u "(II)D"), (17, u "read")] 32

def k3c0 : Code := { maxStack := 6, maxLocals := 5, code := prog_1_method_1_code, exceptionTable := #[], attributes := #[] }
def k3m0 : Method := { name := "<init>", desc := "(II[D)V", sig := { parameters := [.int, .int, (.array .double)], returnType := none }, accessFlags := 1, code := some k3c0 }
def k3c1 : Code := { maxStack := 3, maxLocals := 5, code := prog_1_method_5_code, exceptionTable := #[], attributes := #[] }
def k3m1 : Method := { name := "read", desc := "(II)D", sig := { parameters := [.int, .int], returnType := some .double }, accessFlags := 4, code := some k3c1 }
def k3c2 : Code := { maxStack := 5, maxLocals := 8, code := prog_1_method_14_code, exceptionTable := #[], attributes := #[] }
def k3m2 : Method := { name := "keepStretch", desc := "(I[DIII)V", sig := { parameters := [.int, (.array .double), .int, .int, .int], returnType := none }, accessFlags := 2, code := some k3c2 }
/-- com/example/pursuant/pursuant/dictionary/BandDictionary -/
def k3 : Class := { plain "com/example/pursuant/pursuant/dictionary/BandDictionary" (some 2) with
  accessFlags := 33
  interfaces := #[]
  cf := some (fileOf pool3 8 #[] #[{ accessFlags := 1, nameIndex := 5, descriptorIndex := 12, attributes := #[] }, { accessFlags := 4, nameIndex := 147, descriptorIndex := 129, attributes := #[] }, { accessFlags := 2, nameIndex := 25, descriptorIndex := 26, attributes := #[] }] 33 2 #[] #[{ accessFlags := 18, nameIndex := 15, descriptorIndex := 16, attributes := #[] }, { accessFlags := 18, nameIndex := 21, descriptorIndex := 22, attributes := #[] }, { accessFlags := 66, nameIndex := 86, descriptorIndex := 18, attributes := #[] }, { accessFlags := 66, nameIndex := 93, descriptorIndex := 22, attributes := #[] }])
  fields := #[{ name := "starts", type := (.array .int), accessFlags := 18, slot := 2, constantValue := 0 }, { name := "stretches", type := (.array (.array .double)), accessFlags := 18, slot := 3, constantValue := 0 }, { name := "squaredNorms", type := (.array .double), accessFlags := 66, slot := 4, constantValue := 0 }, { name := "crossProducts", type := (.array (.array .double)), accessFlags := 66, slot := 5, constantValue := 0 }]
  methods := #[k3m0, k3m1, k3m2]
  instanceTypes := #[.int, .int, (.array .int), (.array (.array .double)), (.array .double), (.array (.array .double))]
  staticTypes := #[]
  resolved := Array.replicate 180 none
  statics := none }

def pool4 : Array CpInfo := pool [(2, .class_ 4), (1, u "java/lang/Object"), (0, u "<init>"), (0, u "()V"), (7, .class_ 16), (1, u "java/util/Arrays"), (57, .class_ 76), (1, u "java/util/Arrays$NaturalOrder"), (36, .class_ 115), (1, u "java/util/Arrays$LegacyMergeSort"), (1, u "Z"), (21, u "copyOfRange"), (10, .methodref 151 152), (0, .class_ 153), (0, .nameAndType 154 155), (0, u "java/lang/System"), (0, u "arraycopy"), (0, u "(Ljava/lang/Object;ILjava/lang/Object;II)V"), (148, .methodref 305 306), (0, .class_ 307), (0, .nameAndType 308 309), (0, u "java/lang/Math"), (0, u "min"), (0, u "(II)I"), (33, .methodref 14 344), (0, .nameAndType 345 346), (0, u "checkLength"), (0, u "(II)V"), (20, .methodref 14 368), (0, .nameAndType 369 370), (0, u "copyOfRangeDouble"), (0, u "([DII)[D"), (4, .class_ 376), (0, u "java/util/Arrays$ArrayList"), (68, u "$assertionsDisabled"), (269, u "MIN_ARRAY_SORT_GRAN"), (0, u "I"), (2, u "INSERTIONSORT_THRESHOLD"), (255, .class_ 976), (0, u "java/util/Arrays$ArrayItr")] 52

def k4m0 : Method := { name := "<init>", desc := "()V", sig := { parameters := [], returnType := none }, accessFlags := 2, code := none }
def k4c1 : Code := { maxStack := 4, maxLocals := 2, code := jdk_65_method_131_code, exceptionTable := #[], attributes := #[] }
def k4m1 : Method := { name := "checkLength", desc := "(II)V", sig := { parameters := [.int, .int], returnType := none }, accessFlags := 10, code := some k4c1 }
def k4c2 : Code := { maxStack := 3, maxLocals := 3, code := jdk_65_method_144_code, exceptionTable := #[], attributes := #[] }
def k4m2 : Method := { name := "copyOfRange", desc := "([DII)[D", sig := { parameters := [(.array .double), .int, .int], returnType := some (.array .double) }, accessFlags := 9, code := some k4c2 }
def k4c3 : Code := { maxStack := 6, maxLocals := 5, code := jdk_65_method_145_code, exceptionTable := #[], attributes := #[] }
def k4m3 : Method := { name := "copyOfRangeDouble", desc := "([DII)[D", sig := { parameters := [(.array .double), .int, .int], returnType := some (.array .double) }, accessFlags := 10, code := some k4c3 }
/-- java/util/Arrays -/
def k4 : Class := { plain "java/util/Arrays" (some 0) with
  accessFlags := 49
  interfaces := #[]
  cf := some (fileOf pool4 14 #[.nestMembers #[975, 375, 113, 74]] #[{ accessFlags := 2, nameIndex := 5, descriptorIndex := 6, attributes := #[] }, { accessFlags := 10, nameIndex := 345, descriptorIndex := 346, attributes := #[] }, { accessFlags := 9, nameIndex := 139, descriptorIndex := 370, attributes := #[] }, { accessFlags := 10, nameIndex := 369, descriptorIndex := 370, attributes := #[] }] 49 2 #[] #[{ accessFlags := 26, nameIndex := 715, descriptorIndex := 716, attributes := #[] }, { accessFlags := 26, nameIndex := 719, descriptorIndex := 716, attributes := #[] }, { accessFlags := 4120, nameIndex := 445, descriptorIndex := 117, attributes := #[] }])
  fields := #[{ name := "MIN_ARRAY_SORT_GRAN", type := .int, accessFlags := 26, slot := 0, constantValue := 0 }, { name := "INSERTIONSORT_THRESHOLD", type := .int, accessFlags := 26, slot := 1, constantValue := 0 }, { name := "$assertionsDisabled", type := .boolean, accessFlags := 4120, slot := 2, constantValue := 0 }]
  methods := #[k4m0, k4m1, k4m2, k4m3]
  instanceTypes := #[]
  staticTypes := #[.int, .int, .boolean]
  resolved := Array.replicate 1029 none
  statics := none }

def pool5 : Array CpInfo := pool [(1, .class_ 2), (0, u "java/lang/Math"), (1, .class_ 6), (1, u "java/lang/Object"), (0, u "<init>"), (0, u "()V"), (89, .class_ 100), (1, u "java/lang/Math$RandomNumberGeneratorHolder"), (71, u "negativeZeroFloatBits"), (0, u "J"), (2, u "negativeZeroDoubleBits"), (24, u "min"), (43, u "$assertionsDisabled"), (0, u "Z"), (88, u "(II)I"), (2, u "twoToTheDoubleScaleDown"), (0, u "D"), (4, u "twoToTheDoubleScaleUp"), (9, u "E"), (3, u "PI"), (2, u "TAU"), (2, u "DEGREES_TO_RADIANS"), (0, u "RADIANS_TO_DEGREES")] 94

def k5m0 : Method := { name := "<init>", desc := "()V", sig := { parameters := [], returnType := none }, accessFlags := 2, code := none }
def k5c1 : Code := { maxStack := 2, maxLocals := 2, code := jdk_29_method_69_code, exceptionTable := #[], attributes := #[] }
def k5m1 : Method := { name := "min", desc := "(II)I", sig := { parameters := [.int, .int], returnType := some .int }, accessFlags := 9, code := some k5c1 }
/-- java/lang/Math -/
def k5 : Class := { plain "java/lang/Math" (some 0) with
  accessFlags := 49
  interfaces := #[]
  cf := some (fileOf pool5 1 #[.nestMembers #[98]] #[{ accessFlags := 2, nameIndex := 7, descriptorIndex := 8, attributes := #[] }, { accessFlags := 9, nameIndex := 201, descriptorIndex := 335, attributes := #[] }] 49 4 #[] #[{ accessFlags := 25, nameIndex := 354, descriptorIndex := 339, attributes := #[] }, { accessFlags := 25, nameIndex := 358, descriptorIndex := 339, attributes := #[] }, { accessFlags := 25, nameIndex := 361, descriptorIndex := 339, attributes := #[] }, { accessFlags := 26, nameIndex := 364, descriptorIndex := 339, attributes := #[] }, { accessFlags := 26, nameIndex := 365, descriptorIndex := 339, attributes := #[] }, { accessFlags := 26, nameIndex := 172, descriptorIndex := 173, attributes := #[] }, { accessFlags := 26, nameIndex := 176, descriptorIndex := 173, attributes := #[] }, { accessFlags := 8, nameIndex := 344, descriptorIndex := 339, attributes := #[] }, { accessFlags := 8, nameIndex := 338, descriptorIndex := 339, attributes := #[] }, { accessFlags := 4120, nameIndex := 245, descriptorIndex := 246, attributes := #[] }])
  fields := #[{ name := "E", type := .double, accessFlags := 25, slot := 0, constantValue := 0 }, { name := "PI", type := .double, accessFlags := 25, slot := 1, constantValue := 0 }, { name := "TAU", type := .double, accessFlags := 25, slot := 2, constantValue := 0 }, { name := "DEGREES_TO_RADIANS", type := .double, accessFlags := 26, slot := 3, constantValue := 0 }, { name := "RADIANS_TO_DEGREES", type := .double, accessFlags := 26, slot := 4, constantValue := 0 }, { name := "negativeZeroFloatBits", type := .long, accessFlags := 26, slot := 5, constantValue := 0 }, { name := "negativeZeroDoubleBits", type := .long, accessFlags := 26, slot := 6, constantValue := 0 }, { name := "twoToTheDoubleScaleUp", type := .double, accessFlags := 8, slot := 7, constantValue := 0 }, { name := "twoToTheDoubleScaleDown", type := .double, accessFlags := 8, slot := 8, constantValue := 0 }, { name := "$assertionsDisabled", type := .boolean, accessFlags := 4120, slot := 9, constantValue := 0 }]
  methods := #[k5m0, k5m1]
  instanceTypes := #[]
  staticTypes := #[.double, .double, .double, .double, .double, .long, .long, .double, .double, .boolean]
  resolved := Array.replicate 460 none
  statics := none }

def pool6 : Array CpInfo := pool [(2, .class_ 4), (1, u "java/lang/Object"), (0, u "<init>"), (0, u "()V"), (1, .class_ 10), (1, u "java/lang/System"), (0, u "allowSecurityManager"), (0, u "I"), (16, u "cons"), (0, u "Ljava/io/Console;"), (77, .class_ 110), (1, u "java/lang/System$CallersHolder"), (43, u "initialErrStream"), (0, u "Ljava/io/PrintStream;"), (19, u "security"), (0, u "Ljava/lang/SecurityManager;"), (31, .class_ 209), (0, u "java/lang/System$1"), (7, u "props"), (0, u "Ljava/util/Properties;"), (2, u "lineSeparator"), (0, u "Ljava/lang/String;"), (96, .class_ 321), (1, u "java/lang/System$LoggerFinder"), (5, .class_ 328), (0, u "java/lang/System$Logger"), (67, u "err"), (2, u "out"), (91, u "notSupportedJnuEncoding"), (15, u "in"), (17, u "initialIn"), (0, u "Ljava/io/InputStream;"), (35, u "bootLayer"), (0, u "Ljava/lang/ModuleLayer;"), (99, .class_ 664), (0, u "java/lang/System$2"), (9, u "NEVER"), (2, u "MAYBE"), (49, u "arraycopy"), (0, u "(Ljava/lang/Object;ILjava/lang/Object;II)V"), (72, .class_ 802), (0, u "java/lang/System$Logger$Level")] 31

def k6m0 : Method := { name := "<init>", desc := "()V", sig := { parameters := [], returnType := none }, accessFlags := 2, code := none }
def k6m1 : Method := { name := "arraycopy", desc := "(Ljava/lang/Object;ILjava/lang/Object;II)V", sig := { parameters := [(.object "java/lang/Object"), .int, (.object "java/lang/Object"), .int, .int], returnType := none }, accessFlags := 265, code := none }
/-- java/lang/System -/
def k6 : Class := { plain "java/lang/System" (some 0) with
  accessFlags := 49
  interfaces := #[]
  cf := some (fileOf pool6 8 #[.nestMembers #[319, 327, 801, 108, 663, 208]] #[{ accessFlags := 2, nameIndex := 5, descriptorIndex := 6, attributes := #[] }, { accessFlags := 265, nameIndex := 727, descriptorIndex := 728, attributes := #[] }] 49 2 #[] #[{ accessFlags := 25, nameIndex := 507, descriptorIndex := 526, attributes := #[] }, { accessFlags := 25, nameIndex := 399, descriptorIndex := 155, attributes := #[] }, { accessFlags := 25, nameIndex := 396, descriptorIndex := 155, attributes := #[] }, { accessFlags := 10, nameIndex := 525, descriptorIndex := 526, attributes := #[] }, { accessFlags := 26, nameIndex := 674, descriptorIndex := 12, attributes := #[] }, { accessFlags := 26, nameIndex := 677, descriptorIndex := 12, attributes := #[] }, { accessFlags := 10, nameIndex := 11, descriptorIndex := 12, attributes := #[] }, { accessFlags := 74, nameIndex := 175, descriptorIndex := 176, attributes := #[] }, { accessFlags := 10, nameIndex := 491, descriptorIndex := 222, attributes := #[] }, { accessFlags := 74, nameIndex := 29, descriptorIndex := 30, attributes := #[] }, { accessFlags := 74, nameIndex := 154, descriptorIndex := 155, attributes := #[] }, { accessFlags := 10, nameIndex := 217, descriptorIndex := 218, attributes := #[] }, { accessFlags := 10, nameIndex := 221, descriptorIndex := 222, attributes := #[] }, { accessFlags := 8, nameIndex := 562, descriptorIndex := 563, attributes := #[] }])
  fields := #[{ name := "in", type := (.object "java/io/InputStream"), accessFlags := 25, slot := 0, constantValue := 0 }, { name := "out", type := (.object "java/io/PrintStream"), accessFlags := 25, slot := 1, constantValue := 0 }, { name := "err", type := (.object "java/io/PrintStream"), accessFlags := 25, slot := 2, constantValue := 0 }, { name := "initialIn", type := (.object "java/io/InputStream"), accessFlags := 10, slot := 3, constantValue := 0 }, { name := "NEVER", type := .int, accessFlags := 26, slot := 4, constantValue := 0 }, { name := "MAYBE", type := .int, accessFlags := 26, slot := 5, constantValue := 0 }, { name := "allowSecurityManager", type := .int, accessFlags := 10, slot := 6, constantValue := 0 }, { name := "security", type := (.object "java/lang/SecurityManager"), accessFlags := 74, slot := 7, constantValue := 0 }, { name := "notSupportedJnuEncoding", type := (.object "java/lang/String"), accessFlags := 10, slot := 8, constantValue := 0 }, { name := "cons", type := (.object "java/io/Console"), accessFlags := 74, slot := 9, constantValue := 0 }, { name := "initialErrStream", type := (.object "java/io/PrintStream"), accessFlags := 74, slot := 10, constantValue := 0 }, { name := "props", type := (.object "java/util/Properties"), accessFlags := 10, slot := 11, constantValue := 0 }, { name := "lineSeparator", type := (.object "java/lang/String"), accessFlags := 10, slot := 12, constantValue := 0 }, { name := "bootLayer", type := (.object "java/lang/ModuleLayer"), accessFlags := 8, slot := 13, constantValue := 0 }]
  methods := #[k6m0, k6m1]
  instanceTypes := #[]
  staticTypes := #[(.object "java/io/InputStream"), (.object "java/io/PrintStream"), (.object "java/io/PrintStream"), (.object "java/io/InputStream"), .int, .int, .int, (.object "java/lang/SecurityManager"), (.object "java/lang/String"), (.object "java/io/Console"), (.object "java/io/PrintStream"), (.object "java/util/Properties"), (.object "java/lang/String"), (.object "java/lang/ModuleLayer")]
  resolved := Array.replicate 834 none
  statics := none }

def pool7 : Array CpInfo := pool [(1, u "java/lang/Cloneable"), (0, .class_ 1), (0, u "java/lang/Object"), (0, .class_ 3)] 3

/-- java/lang/Cloneable -/
def k7 : Class := { plain "java/lang/Cloneable" (some 0) with
  accessFlags := 1537
  interfaces := #[]
  cf := some (fileOf pool7 2 #[] #[] 1537 4 #[] #[])
  fields := #[]
  methods := #[]
  instanceTypes := #[]
  staticTypes := #[]
  resolved := Array.replicate 8 none
  statics := none }

def pool8 : Array CpInfo := pool [(1, u "java/io/Serializable"), (0, .class_ 1), (0, u "java/lang/Object"), (0, .class_ 3)] 3

/-- java/io/Serializable -/
def k8 : Class := { plain "java/io/Serializable" (some 0) with
  accessFlags := 1537
  interfaces := #[]
  cf := some (fileOf pool8 2 #[] #[] 1537 4 #[] #[])
  fields := #[]
  methods := #[]
  instanceTypes := #[]
  staticTypes := #[]
  resolved := Array.replicate 8 none
  statics := none }

/-- the primitive byte -/
def k9 : Class := { plain "byte" none with kind := .primitive 'B', accessFlags := 0x411 }
/-- [B -/
def k10 : Class := { plain "[B" (some 0) with kind := .array 9 .byte, interfaces := #[7, 8], accessFlags := 1041 }

/-- the primitive double -/
def k11 : Class := { plain "double" none with kind := .primitive 'D', accessFlags := 0x411 }
/-- [D -/
def k12 : Class := { plain "[D" (some 0) with kind := .array 11 .double, interfaces := #[7, 8], accessFlags := 1041 }

/-- the primitive int -/
def k13 : Class := { plain "int" none with kind := .primitive 'I', accessFlags := 0x411 }
/-- [I -/
def k14 : Class := { plain "[I" (some 0) with kind := .array 13 .int, interfaces := #[7, 8], accessFlags := 1041 }

/-- [[D -/
def k15 : Class := { plain "[[D" (some 0) with kind := .array 12 (.array .double), interfaces := #[7, 8], accessFlags := 1041 }

def heap : Heap := #[]
def classes : Array Class := #[k0, k1, k2, k3, k4, k5, k6, k7, k8, k9, k10, k11, k12, k13, k14, k15]
def interned : List (Array UInt16 × Addr) := []
def slotsUsed : Nat := 0
def theMethod : MethodId := ⟨1, 1⟩
def args0 : Array Value := #[.long 5]
def aboutOver (below : List Frame) : State where
  vm := { classes := classes, interned := interned.toArray }
  heap := heap
  slotsUsed := slotsUsed
  threads := #[{ frames := .invoking theMethod args0 :: below }]
def below0 : List Frame := [.native { method := ⟨0, 0⟩, args := #[] }]
def about1 : State := aboutOver below0
def p0 : Program := .bare "" "" ""
def e0 : Env := launch0.env 0 0 0
theorem w_frames : about1.frames = Frame.invoking theMethod args0 :: below0 := rfl
set_option maxRecDepth 65536 in
theorem w_args : argsFit about1.vm theMethod args0 = true := by decide +kernel
set_option maxRecDepth 65536 in
theorem w_heap : heapFits about1 = true := by decide +kernel
set_option maxRecDepth 65536 in
theorem w_runnable : about1.curStatus? = some .runnable := by decide +kernel
set_option maxRecDepth 65536 in
theorem w_alone : about1.alone = true := by decide +kernel
set_option maxRecDepth 65536 in
theorem w_named : about1.methodNamed? x = some theMethod := by decide +kernel
set_option maxRecDepth 65536 in
theorem w_hears : about1.hears theMethod below0 = true := by decide +kernel
set_option maxRecDepth 65536 in
theorem w_ripe : about1.ripe theMethod args0 below0 = true := by decide +kernel
theorem w_running : about1.status = .running := rfl
set_option maxRecDepth 65536 in
theorem w_room : about1.hasRoom e0.platform room_1 = true :=
  launch0.hasRoom_least _ room_1 (by decide +kernel) (by decide +kernel) (by decide +kernel) (by decide +kernel) (by decide +kernel) (by decide +kernel)
theorem allAtoms_all (ts : List Jvm.Cond) (a : Array Jvm.Value) (st : Jvm.State) : (allAtoms ts).before a st = ts.all (fun c => c.before a st) := by
  induction ts with
  | nil => rfl
  | cons c t ih =>
    show (Jvm.Cond.and c (allAtoms t)).before a st = _
    rw [Jvm.Cond.before_and, ih, List.all_cons]
def words1 : List Jvm.Cond := Jvm.Cond.code x code maxLocals ret :: tables_1
/-- a 'code' word, met by the world's own term for the bytes: nothing is compared byte by byte -/
theorem code_word {y : MethodName} {bytes : ByteArray} {mx : Nat} {rt : Option FieldType} {a : Array Value} {s : State} {m : MethodId} {meth : Method} {c : Code} (h1 : s.methodNamed? y = some m) (h2 : s.vm.method? m = some meth) (h3 : meth.code = some c) (h4 : c.code = bytes)
    (h5 : (c.maxLocals == mx && c.exceptionTable.isEmpty && decide (c.maxStack ≤ mostOperands) && decide (meth.sig.returnType = rt) && !meth.locks && decide (parseMethodDescriptor y.desc = some meth.sig)) = true) : (Jvm.Cond.code y bytes mx rt).before a s = true := by
  simp only [Bool.and_eq_true, beq_iff_eq, Bool.not_eq_true', decide_eq_true_eq] at h5
  obtain ⟨⟨⟨⟨⟨g1, g2⟩, g3⟩, g4⟩, g5⟩, g6⟩ := h5
  simp [Cond.before, Cond.holds, Cond.value, h1, h2, h3, h4, g1, g2, g3, g4, g5, g6]
def isCode : Jvm.Cond → Bool
  | .code _ _ _ _ => true
  | _ => false
theorem all_split {L : List Jvm.Cond} {P : Jvm.Cond → Bool} (h1 : L.all (fun c => isCode c || P c) = true) (h2 : ∀ c ∈ L.filter isCode, P c = true) : L.all P = true := by
  refine List.all_eq_true.mpr fun c hc => ?_
  have h := List.all_eq_true.mp h1 c hc
  rcases Bool.eq_false_or_eq_true (isCode c) with hi | hi
  · exact h2 c (List.mem_filter.mpr ⟨hc, hi⟩)
  · simpa [hi] using h
set_option maxRecDepth 65536 in
theorem w_c0 : (Jvm.Cond.code x code maxLocals ret).before args0 about1 = true := code_word (m := ⟨1, 1⟩) (meth := k1m1) (c := k1c1) (by decide +kernel) rfl rfl rfl (by decide +kernel)
set_option maxRecDepth 65536 in
theorem w_c1 : (Jvm.Cond.code ({ cls := "com/example/pursuant/pursuant/dictionary/BandDictionaryReadPinLaw", name := "entry", desc := "(JI)D" } : Jvm.MethodName) method_3_code (4 : Nat) (Option.some Jvm.ClassFile.FieldType.double)).before args0 about1 = true := code_word (m := ⟨1, 2⟩) (meth := k1m2) (c := k1c2) (by decide +kernel) rfl rfl rfl (by decide +kernel)
set_option maxRecDepth 65536 in
theorem w_c2 : (Jvm.Cond.code ({ cls := "com/example/pursuant/pursuant/dictionary/BandDictionary", name := "<init>", desc := "(II[D)V" } : Jvm.MethodName) prog_1_method_1_code (5 : Nat) (Option.none : Option Jvm.ClassFile.FieldType)).before args0 about1 = true := code_word (m := ⟨3, 0⟩) (meth := k3m0) (c := k3c0) (by decide +kernel) rfl rfl rfl (by decide +kernel)
set_option maxRecDepth 65536 in
theorem w_c3 : (Jvm.Cond.code ({ cls := "com/example/pursuant/pursuant/dictionary/Dictionary", name := "<init>", desc := "(II)V" } : Jvm.MethodName) prog_4_method_1_code (3 : Nat) (Option.none : Option Jvm.ClassFile.FieldType)).before args0 about1 = true := code_word (m := ⟨2, 0⟩) (meth := k2m0) (c := k2c0) (by decide +kernel) rfl rfl rfl (by decide +kernel)
set_option maxRecDepth 65536 in
theorem w_c4 : (Jvm.Cond.code ({ cls := "java/lang/Object", name := "<init>", desc := "()V" } : Jvm.MethodName) object_method_1_code (1 : Nat) (Option.none : Option Jvm.ClassFile.FieldType)).before args0 about1 = true := code_word (m := ⟨0, 0⟩) (meth := k0m0) (c := k0c0) (by decide +kernel) rfl rfl rfl (by decide +kernel)
set_option maxRecDepth 65536 in
theorem w_c5 : (Jvm.Cond.code ({ cls := "com/example/pursuant/pursuant/dictionary/Dictionary", name := "checkValueCount", desc := "(II[D)V" } : Jvm.MethodName) prog_4_method_28_code (3 : Nat) (Option.none : Option Jvm.ClassFile.FieldType)).before args0 about1 = true := code_word (m := ⟨2, 1⟩) (meth := k2m1) (c := k2c1) (by decide +kernel) rfl rfl rfl (by decide +kernel)
set_option maxRecDepth 65536 in
theorem w_c6 : (Jvm.Cond.code ({ cls := "com/example/pursuant/pursuant/dictionary/BandDictionary", name := "keepStretch", desc := "(I[DIII)V" } : Jvm.MethodName) prog_1_method_14_code (8 : Nat) (Option.none : Option Jvm.ClassFile.FieldType)).before args0 about1 = true := code_word (m := ⟨3, 2⟩) (meth := k3m2) (c := k3c2) (by decide +kernel) rfl rfl rfl (by decide +kernel)
set_option maxRecDepth 65536 in
theorem w_c7 : (Jvm.Cond.code ({ cls := "java/util/Arrays", name := "copyOfRange", desc := "([DII)[D" } : Jvm.MethodName) jdk_65_method_144_code (3 : Nat) (Option.some (Jvm.ClassFile.FieldType.array Jvm.ClassFile.FieldType.double))).before args0 about1 = true := code_word (m := ⟨4, 2⟩) (meth := k4m2) (c := k4c2) (by decide +kernel) rfl rfl rfl (by decide +kernel)
set_option maxRecDepth 65536 in
theorem w_c8 : (Jvm.Cond.code ({ cls := "java/util/Arrays", name := "copyOfRangeDouble", desc := "([DII)[D" } : Jvm.MethodName) jdk_65_method_145_code (5 : Nat) (Option.some (Jvm.ClassFile.FieldType.array Jvm.ClassFile.FieldType.double))).before args0 about1 = true := code_word (m := ⟨4, 3⟩) (meth := k4m3) (c := k4c3) (by decide +kernel) rfl rfl rfl (by decide +kernel)
set_option maxRecDepth 65536 in
theorem w_c9 : (Jvm.Cond.code ({ cls := "java/util/Arrays", name := "checkLength", desc := "(II)V" } : Jvm.MethodName) jdk_65_method_131_code (2 : Nat) (Option.none : Option Jvm.ClassFile.FieldType)).before args0 about1 = true := code_word (m := ⟨4, 1⟩) (meth := k4m1) (c := k4c1) (by decide +kernel) rfl rfl rfl (by decide +kernel)
set_option maxRecDepth 65536 in
theorem w_c10 : (Jvm.Cond.code ({ cls := "java/lang/Math", name := "min", desc := "(II)I" } : Jvm.MethodName) jdk_29_method_69_code (2 : Nat) (Option.some Jvm.ClassFile.FieldType.int)).before args0 about1 = true := code_word (m := ⟨5, 1⟩) (meth := k5m1) (c := k5c1) (by decide +kernel) rfl rfl rfl (by decide +kernel)
set_option maxRecDepth 65536 in
theorem w_c11 : (Jvm.Cond.code ({ cls := "com/example/pursuant/pursuant/dictionary/BandDictionary", name := "read", desc := "(II)D" } : Jvm.MethodName) prog_1_method_5_code (5 : Nat) (Option.some Jvm.ClassFile.FieldType.double)).before args0 about1 = true := code_word (m := ⟨3, 1⟩) (meth := k3m1) (c := k3c1) (by decide +kernel) rfl rfl rfl (by decide +kernel)
def codes1 : List Jvm.Cond := [Jvm.Cond.code x code maxLocals ret, Jvm.Cond.code ({ cls := "com/example/pursuant/pursuant/dictionary/BandDictionaryReadPinLaw", name := "entry", desc := "(JI)D" } : Jvm.MethodName) method_3_code (4 : Nat) (Option.some Jvm.ClassFile.FieldType.double), Jvm.Cond.code ({ cls := "com/example/pursuant/pursuant/dictionary/BandDictionary", name := "<init>", desc := "(II[D)V" } : Jvm.MethodName) prog_1_method_1_code (5 : Nat) (Option.none : Option Jvm.ClassFile.FieldType), Jvm.Cond.code ({ cls := "com/example/pursuant/pursuant/dictionary/Dictionary", name := "<init>", desc := "(II)V" } : Jvm.MethodName) prog_4_method_1_code (3 : Nat) (Option.none : Option Jvm.ClassFile.FieldType), Jvm.Cond.code ({ cls := "java/lang/Object", name := "<init>", desc := "()V" } : Jvm.MethodName) object_method_1_code (1 : Nat) (Option.none : Option Jvm.ClassFile.FieldType), Jvm.Cond.code ({ cls := "com/example/pursuant/pursuant/dictionary/Dictionary", name := "checkValueCount", desc := "(II[D)V" } : Jvm.MethodName) prog_4_method_28_code (3 : Nat) (Option.none : Option Jvm.ClassFile.FieldType), Jvm.Cond.code ({ cls := "com/example/pursuant/pursuant/dictionary/BandDictionary", name := "keepStretch", desc := "(I[DIII)V" } : Jvm.MethodName) prog_1_method_14_code (8 : Nat) (Option.none : Option Jvm.ClassFile.FieldType), Jvm.Cond.code ({ cls := "java/util/Arrays", name := "copyOfRange", desc := "([DII)[D" } : Jvm.MethodName) jdk_65_method_144_code (3 : Nat) (Option.some (Jvm.ClassFile.FieldType.array Jvm.ClassFile.FieldType.double)), Jvm.Cond.code ({ cls := "java/util/Arrays", name := "copyOfRangeDouble", desc := "([DII)[D" } : Jvm.MethodName) jdk_65_method_145_code (5 : Nat) (Option.some (Jvm.ClassFile.FieldType.array Jvm.ClassFile.FieldType.double)), Jvm.Cond.code ({ cls := "java/util/Arrays", name := "checkLength", desc := "(II)V" } : Jvm.MethodName) jdk_65_method_131_code (2 : Nat) (Option.none : Option Jvm.ClassFile.FieldType), Jvm.Cond.code ({ cls := "java/lang/Math", name := "min", desc := "(II)I" } : Jvm.MethodName) jdk_29_method_69_code (2 : Nat) (Option.some Jvm.ClassFile.FieldType.int), Jvm.Cond.code ({ cls := "com/example/pursuant/pursuant/dictionary/BandDictionary", name := "read", desc := "(II)D" } : Jvm.MethodName) prog_1_method_5_code (5 : Nat) (Option.some Jvm.ClassFile.FieldType.double)]
set_option maxRecDepth 65536 in
theorem codes_eq : words1.filter isCode = codes1 := rfl
theorem w_codes : ∀ c ∈ words1.filter isCode, c.before args0 about1 = true := by
  rw [codes_eq]
  intro c hc
  simp only [codes1, List.mem_cons, List.not_mem_nil, or_false] at hc
  rcases hc with rfl | rfl | rfl | rfl | rfl | rfl | rfl | rfl | rfl | rfl | rfl | rfl
  · exact w_c0
  · exact w_c1
  · exact w_c2
  · exact w_c3
  · exact w_c4
  · exact w_c5
  · exact w_c6
  · exact w_c7
  · exact w_c8
  · exact w_c9
  · exact w_c10
  · exact w_c11
set_option maxRecDepth 65536 in
theorem w_t1 : (words1.take 24).all (fun c => isCode c || c.before args0 about1) = true := by decide +kernel
set_option maxRecDepth 65536 in
theorem w_t2 : ((words1.drop 24).take 24).all (fun c => isCode c || c.before args0 about1) = true := by decide +kernel
set_option maxRecDepth 65536 in
theorem w_t3 : ((words1.drop 24).drop 24).all (fun c => isCode c || c.before args0 about1) = true := by decide +kernel
theorem w_tables : (allAtoms (Jvm.Cond.code x code maxLocals ret :: tables_1)).before args0 about1 = true := by
  rw [allAtoms_all]
  show words1.all (fun c => c.before args0 about1) = true
  refine all_split ?_ w_codes
  rw [← List.take_append_drop 24 words1, List.all_append, w_t1, ← List.take_append_drop 24 (words1.drop 24), List.all_append, w_t2, w_t3]
  rfl
set_option maxRecDepth 65536 in
theorem w_case : (Jvm.Cond.and given_1 narrow_1).before args0 about1 = true := by decide +kernel
theorem w_applies : (headSpec (Jvm.Cond.code x code maxLocals ret :: tables_1) room_1).applies x e0.platform about1 = true :=
  (Spec.applies_iff w_frames).mpr ⟨w_running, w_runnable, w_alone, w_named, w_hears, w_ripe, w_room, w_tables⟩
theorem atStart : AtStart classFile x code maxLocals ret World_1 tables_1 room_1 Calls_1 rest_1 Pre_1 launch0 p0 e0 about1 theMethod args0 below0 :=
  ⟨lists_1, trivial, launch0.admits_env _ _ _, launch0.least_env, fairChoices_fair.cas, fairChoices_fair.clock, w_frames, w_args, w_heap, w_applies, trivial, trivial, w_case⟩
end start1
theorem witness_1 : WitnessClaimed_1 := ⟨start1.p0, start1.e0, start1.about1, start1.theMethod, start1.args0, start1.below0, start1.atStart⟩
end Jvm.Pilot.@@N@@
