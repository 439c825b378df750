import JvmDerived
import JvmDerived.Pilot.@@N@@Statement
import JvmDerived.Pilot.@@N@@Code
set_option linter.unusedVariables false
set_option linter.unusedSimpArgs false
namespace Jvm.Pilot.@@N@@
open Jvm Jvm.ClassFile Sem Op Lib Jvm.Free Jvm.Free.Fl Jvm.Stand Jvm.LawKit Jvm.RoadKit Bundle Jvm.Pilot.@@N@@.Jvm.D
section own_go
/-- where the walk stands, with the two facts that every step asks -/
def Ax (p : Program) (l : Launch) (e : Env) (R : Room) (s : State) (m : MethodId) (args : Array Value) (below : List Frame) (meth : Method) (c : Code) (T : State) (locs : List Loc) (cells slots : Nat) (B : ByteArray) : Prop := Stand p l e R s m args below meth c T locs cells slots ∧ p.tables.exec = Jvm.exec ∧ c.code = B
/-- from this frame the run ends, and P holds of its end -/
def Go (p : Program) (e : Env) (below : List Frame) (P : State → Outcome → Prop) (T : State) (g : JFrame) : Prop := ∃ U o, Steps p.tables e below (T.setTop g) U ∧ U.status = .running ∧ Ended U below o ∧ P U o
variable {p : Program} {l : Launch} {e : Env} {R : Room} {s : State} {m : MethodId} {args : Array Value} {below : List Frame} {meth : Method} {c : Code} {T : State} {locs : List Loc} {cells slots : Nat} {P : State → Outcome → Prop} {B : ByteArray} {pc pc' : Nat} {ls ls' : Array Slot} {st : List Value}
theorem Go.of {T' : State} {g g' : JFrame} (k : ∀ t, Steps p.tables e below (T'.setTop g') t → Steps p.tables e below (T.setTop g) t) (h : Go p e below P T' g') : Go p e below P T g := by
  obtain ⟨U, o, h1, h2⟩ := h
  exact ⟨U, o, k _ h1, h2⟩
theorem Go.tr {T' : State} {g g' : JFrame} (k : Steps p.tables e below (T.setTop g) (T'.setTop g')) (h : Go p e below P T' g') : Go p e below P T g := Go.of (fun _ h => k.trans h) h
theorem Go.cast {g g' : JFrame} (q : g = g') (h : Go p e below P T g') : Go p e below P T g := q ▸ h

theorem g_iadd (A : Ax p l e R s m args below meth c T locs cells slots B) {x : Int32} {y : Int32} (hd : decode B pc = .ok (.iadd, 1)) (hp : pc + 1 = pc') (k : Go p e below P T (mkF m pc' ls (.int (x + y) :: st))) : Go p e below P T (mkF m pc ls (.int y :: .int x :: st)) := by
  subst hp; exact Go.of (fun _ k' => XS.iadd A.1.here A.2.1 rfl (hb A.2.2 hd) rfl k') k
theorem g_isub (A : Ax p l e R s m args below meth c T locs cells slots B) {x : Int32} {y : Int32} (hd : decode B pc = .ok (.isub, 1)) (hp : pc + 1 = pc') (k : Go p e below P T (mkF m pc' ls (.int (x - y) :: st))) : Go p e below P T (mkF m pc ls (.int y :: .int x :: st)) := by
  subst hp; exact Go.of (fun _ k' => XS.isub A.1.here A.2.1 rfl (hb A.2.2 hd) rfl k') k
theorem g_iand (A : Ax p l e R s m args below meth c T locs cells slots B) {x : Int32} {y : Int32} (hd : decode B pc = .ok (.iand, 1)) (hp : pc + 1 = pc') (k : Go p e below P T (mkF m pc' ls (.int (x &&& y) :: st))) : Go p e below P T (mkF m pc ls (.int y :: .int x :: st)) := by
  subst hp; exact Go.of (fun _ k' => XS.iand A.1.here A.2.1 rfl (hb A.2.2 hd) rfl k') k
theorem g_imul (A : Ax p l e R s m args below meth c T locs cells slots B) {x : Int32} {y : Int32} (hd : decode B pc = .ok (.imul, 1)) (hp : pc + 1 = pc') (k : Go p e below P T (mkF m pc' ls (.int (x * y) :: st))) : Go p e below P T (mkF m pc ls (.int y :: .int x :: st)) := by
  subst hp; exact Go.of (fun _ k' => XS.imul A.1.here A.2.1 rfl (hb A.2.2 hd) rfl k') k
theorem g_iaddL (A : Ax p l e R s m args below meth c T locs cells slots B) {x y z : Int32} (hd : decode B pc = .ok (.iadd, 1)) (hz : x + y = z) (hp : pc + 1 = pc') (k : Go p e below P T (mkF m pc' ls (.int z :: st))) : Go p e below P T (mkF m pc ls (.int y :: .int x :: st)) := g_iadd A hd hp (hz.symm ▸ k)
theorem g_isubL (A : Ax p l e R s m args below meth c T locs cells slots B) {x y z : Int32} (hd : decode B pc = .ok (.isub, 1)) (hz : x - y = z) (hp : pc + 1 = pc') (k : Go p e below P T (mkF m pc' ls (.int z :: st))) : Go p e below P T (mkF m pc ls (.int y :: .int x :: st)) := g_isub A hd hp (hz.symm ▸ k)
theorem g_imulL (A : Ax p l e R s m args below meth c T locs cells slots B) {x y z : Int32} (hd : decode B pc = .ok (.imul, 1)) (hz : x * y = z) (hp : pc + 1 = pc') (k : Go p e below P T (mkF m pc' ls (.int z :: st))) : Go p e below P T (mkF m pc ls (.int y :: .int x :: st)) := g_imul A hd hp (hz.symm ▸ k)
theorem g_iandL (A : Ax p l e R s m args below meth c T locs cells slots B) {x y z : Int32} (hd : decode B pc = .ok (.iand, 1)) (hz : x &&& y = z) (hp : pc + 1 = pc') (k : Go p e below P T (mkF m pc' ls (.int z :: st))) : Go p e below P T (mkF m pc ls (.int y :: .int x :: st)) := g_iand A hd hp (hz.symm ▸ k)
theorem g_ixor (A : Ax p l e R s m args below meth c T locs cells slots B) {x : Int32} {y : Int32} (hd : decode B pc = .ok (.ixor, 1)) (hp : pc + 1 = pc') (k : Go p e below P T (mkF m pc' ls (.int (x ^^^ y) :: st))) : Go p e below P T (mkF m pc ls (.int y :: .int x :: st)) := by
  subst hp; exact Go.of (fun _ k' => XT.ixor A.1.here A.2.1 rfl (hb A.2.2 hd) rfl k') k
theorem g_ior (A : Ax p l e R s m args below meth c T locs cells slots B) {x : Int32} {y : Int32} (hd : decode B pc = .ok (.ior, 1)) (hp : pc + 1 = pc') (k : Go p e below P T (mkF m pc' ls (.int (x ||| y) :: st))) : Go p e below P T (mkF m pc ls (.int y :: .int x :: st)) := by
  subst hp; exact Go.of (fun _ k' => XT.ior A.1.here A.2.1 rfl (hb A.2.2 hd) rfl k') k
theorem g_ishl (A : Ax p l e R s m args below meth c T locs cells slots B) {x : Int32} {y : Int32} (hd : decode B pc = .ok (.ishl, 1)) (hp : pc + 1 = pc') (k : Go p e below P T (mkF m pc' ls (.int (x <<< (y &&& 31)) :: st))) : Go p e below P T (mkF m pc ls (.int y :: .int x :: st)) := by
  subst hp; exact Go.of (fun _ k' => XT.ishl A.1.here A.2.1 rfl (hb A.2.2 hd) rfl k') k
theorem g_ishr (A : Ax p l e R s m args below meth c T locs cells slots B) {x : Int32} {y : Int32} (hd : decode B pc = .ok (.ishr, 1)) (hp : pc + 1 = pc') (k : Go p e below P T (mkF m pc' ls (.int (x >>> (y &&& 31)) :: st))) : Go p e below P T (mkF m pc ls (.int y :: .int x :: st)) := by
  subst hp; exact Go.of (fun _ k' => XT.ishr A.1.here A.2.1 rfl (hb A.2.2 hd) rfl k') k
theorem g_iushr (A : Ax p l e R s m args below meth c T locs cells slots B) {x : Int32} {y : Int32} (hd : decode B pc = .ok (.iushr, 1)) (hp : pc + 1 = pc') (k : Go p e below P T (mkF m pc' ls (.int (XT.ushr x y) :: st))) : Go p e below P T (mkF m pc ls (.int y :: .int x :: st)) := by
  subst hp; exact Go.of (fun _ k' => XT.iushr A.1.here A.2.1 rfl (hb A.2.2 hd) rfl k') k
theorem g_idiv (A : Ax p l e R s m args below meth c T locs cells slots B) {x : Int32} {y : Int32} (hd : decode B pc = .ok (.idiv, 1)) (hy : y ≠ 0) (hp : pc + 1 = pc') (k : Go p e below P T (mkF m pc' ls (.int (x / y) :: st))) : Go p e below P T (mkF m pc ls (.int y :: .int x :: st)) := by
  subst hp; exact Go.of (fun _ k' => XS.idiv A.1.here A.2.1 rfl (hb A.2.2 hd) rfl hy k') k
theorem g_ladd (A : Ax p l e R s m args below meth c T locs cells slots B) {x : Int64} {y : Int64} (hd : decode B pc = .ok (.ladd, 1)) (hp : pc + 1 = pc') (k : Go p e below P T (mkF m pc' ls (.long (x + y) :: st))) : Go p e below P T (mkF m pc ls (.long y :: .long x :: st)) := by
  subst hp; exact Go.of (fun _ k' => XT.ladd A.1.here A.2.1 rfl (hb A.2.2 hd) rfl k') k
theorem g_lsub (A : Ax p l e R s m args below meth c T locs cells slots B) {x : Int64} {y : Int64} (hd : decode B pc = .ok (.lsub, 1)) (hp : pc + 1 = pc') (k : Go p e below P T (mkF m pc' ls (.long (x - y) :: st))) : Go p e below P T (mkF m pc ls (.long y :: .long x :: st)) := by
  subst hp; exact Go.of (fun _ k' => XT.lsub A.1.here A.2.1 rfl (hb A.2.2 hd) rfl k') k
theorem g_lmul (A : Ax p l e R s m args below meth c T locs cells slots B) {x : Int64} {y : Int64} (hd : decode B pc = .ok (.lmul, 1)) (hp : pc + 1 = pc') (k : Go p e below P T (mkF m pc' ls (.long (x * y) :: st))) : Go p e below P T (mkF m pc ls (.long y :: .long x :: st)) := by
  subst hp; exact Go.of (fun _ k' => XT.lmul A.1.here A.2.1 rfl (hb A.2.2 hd) rfl k') k
theorem g_land (A : Ax p l e R s m args below meth c T locs cells slots B) {x : Int64} {y : Int64} (hd : decode B pc = .ok (.land, 1)) (hp : pc + 1 = pc') (k : Go p e below P T (mkF m pc' ls (.long (x &&& y) :: st))) : Go p e below P T (mkF m pc ls (.long y :: .long x :: st)) := by
  subst hp; exact Go.of (fun _ k' => XT.land A.1.here A.2.1 rfl (hb A.2.2 hd) rfl k') k
theorem g_lor (A : Ax p l e R s m args below meth c T locs cells slots B) {x : Int64} {y : Int64} (hd : decode B pc = .ok (.lor, 1)) (hp : pc + 1 = pc') (k : Go p e below P T (mkF m pc' ls (.long (x ||| y) :: st))) : Go p e below P T (mkF m pc ls (.long y :: .long x :: st)) := by
  subst hp; exact Go.of (fun _ k' => XT.lor A.1.here A.2.1 rfl (hb A.2.2 hd) rfl k') k
theorem g_lxor (A : Ax p l e R s m args below meth c T locs cells slots B) {x : Int64} {y : Int64} (hd : decode B pc = .ok (.lxor, 1)) (hp : pc + 1 = pc') (k : Go p e below P T (mkF m pc' ls (.long (x ^^^ y) :: st))) : Go p e below P T (mkF m pc ls (.long y :: .long x :: st)) := by
  subst hp; exact Go.of (fun _ k' => XT.lxor A.1.here A.2.1 rfl (hb A.2.2 hd) rfl k') k
theorem g_lshl (A : Ax p l e R s m args below meth c T locs cells slots B) {x : Int64} {y : Int32} (hd : decode B pc = .ok (.lshl, 1)) (hp : pc + 1 = pc') (k : Go p e below P T (mkF m pc' ls (.long (x <<< (y.toInt64 &&& 63)) :: st))) : Go p e below P T (mkF m pc ls (.int y :: .long x :: st)) := by
  subst hp; exact Go.of (fun _ k' => XT.lshl A.1.here A.2.1 rfl (hb A.2.2 hd) rfl k') k
theorem g_lshr (A : Ax p l e R s m args below meth c T locs cells slots B) {x : Int64} {y : Int32} (hd : decode B pc = .ok (.lshr, 1)) (hp : pc + 1 = pc') (k : Go p e below P T (mkF m pc' ls (.long (x >>> (y.toInt64 &&& 63)) :: st))) : Go p e below P T (mkF m pc ls (.int y :: .long x :: st)) := by
  subst hp; exact Go.of (fun _ k' => XT.lshr A.1.here A.2.1 rfl (hb A.2.2 hd) rfl k') k
theorem g_lushr (A : Ax p l e R s m args below meth c T locs cells slots B) {x : Int64} {y : Int32} (hd : decode B pc = .ok (.lushr, 1)) (hp : pc + 1 = pc') (k : Go p e below P T (mkF m pc' ls (.long (XT.ushrL x y) :: st))) : Go p e below P T (mkF m pc ls (.int y :: .long x :: st)) := by
  subst hp; exact Go.of (fun _ k' => XT.lushr A.1.here A.2.1 rfl (hb A.2.2 hd) rfl k') k
theorem g_ldiv (A : Ax p l e R s m args below meth c T locs cells slots B) {x : Int64} {y : Int64} (hd : decode B pc = .ok (.ldiv, 1)) (hy : y ≠ 0) (hp : pc + 1 = pc') (k : Go p e below P T (mkF m pc' ls (.long (x / y) :: st))) : Go p e below P T (mkF m pc ls (.long y :: .long x :: st)) := by
  subst hp; exact Go.of (fun _ k' => XT.ldiv A.1.here A.2.1 rfl (hb A.2.2 hd) rfl hy k') k
theorem g_lrem (A : Ax p l e R s m args below meth c T locs cells slots B) {x y : Int64} (hd : decode B pc = .ok (.lrem, 1)) (hy : y ≠ 0) (hp : pc + 1 = pc') (k : Go p e below P T (mkF m pc' ls (.long (x % y) :: st))) : Go p e below P T (mkF m pc ls (.long y :: .long x :: st)) := by
  subst hp; rw [← lrem_mod] at k; exact Go.of (fun _ k' => XT.lrem A.1.here A.2.1 rfl (hb A.2.2 hd) rfl hy k') k
theorem g_i2s (A : Ax p l e R s m args below meth c T locs cells slots B) {x : Int32} (hd : decode B pc = .ok (.i2s, 1)) (hp : pc + 1 = pc') (k : Go p e below P T (mkF m pc' ls (.int (x.toInt16.toInt32) :: st))) : Go p e below P T (mkF m pc ls (.int x :: st)) := by
  subst hp; exact Go.of (fun _ k' => XT.i2s A.1.here A.2.1 rfl (hb A.2.2 hd) rfl k') k
theorem g_i2b (A : Ax p l e R s m args below meth c T locs cells slots B) {x : Int32} (hd : decode B pc = .ok (.i2b, 1)) (hp : pc + 1 = pc') (k : Go p e below P T (mkF m pc' ls (.int (x.toInt8.toInt32) :: st))) : Go p e below P T (mkF m pc ls (.int x :: st)) := by
  subst hp; exact Go.of (fun _ k' => XT.i2b A.1.here A.2.1 rfl (hb A.2.2 hd) rfl k') k
theorem g_i2c (A : Ax p l e R s m args below meth c T locs cells slots B) {x : Int32} (hd : decode B pc = .ok (.i2c, 1)) (hp : pc + 1 = pc') (k : Go p e below P T (mkF m pc' ls (.int (x.toUInt32.toUInt16.toUInt32.toInt32) :: st))) : Go p e below P T (mkF m pc ls (.int x :: st)) := by
  subst hp; exact Go.of (fun _ k' => XT.i2c A.1.here A.2.1 rfl (hb A.2.2 hd) rfl k') k
theorem g_ineg (A : Ax p l e R s m args below meth c T locs cells slots B) {x : Int32} (hd : decode B pc = .ok (.ineg, 1)) (hp : pc + 1 = pc') (k : Go p e below P T (mkF m pc' ls (.int (-x) :: st))) : Go p e below P T (mkF m pc ls (.int x :: st)) := by
  subst hp; exact Go.of (fun _ k' => XS.ineg A.1.here A.2.1 rfl (hb A.2.2 hd) rfl k') k
theorem g_lneg (A : Ax p l e R s m args below meth c T locs cells slots B) {x : Int64} (hd : decode B pc = .ok (.lneg, 1)) (hp : pc + 1 = pc') (k : Go p e below P T (mkF m pc' ls (.long (-x) :: st))) : Go p e below P T (mkF m pc ls (.long x :: st)) := by
  subst hp; exact Go.of (fun _ k' => XT.lneg A.1.here A.2.1 rfl (hb A.2.2 hd) rfl k') k
theorem g_i2l (A : Ax p l e R s m args below meth c T locs cells slots B) {x : Int32} (hd : decode B pc = .ok (.i2l, 1)) (hp : pc + 1 = pc') (k : Go p e below P T (mkF m pc' ls (.long (x.toInt64) :: st))) : Go p e below P T (mkF m pc ls (.int x :: st)) := by
  subst hp; exact Go.of (fun _ k' => XT.i2l A.1.here A.2.1 rfl (hb A.2.2 hd) rfl k') k
theorem g_l2i (A : Ax p l e R s m args below meth c T locs cells slots B) {x : Int64} (hd : decode B pc = .ok (.l2i, 1)) (hp : pc + 1 = pc') (k : Go p e below P T (mkF m pc' ls (.int (x.toInt32) :: st))) : Go p e below P T (mkF m pc ls (.long x :: st)) := by
  subst hp; exact Go.of (fun _ k' => XT.l2i A.1.here A.2.1 rfl (hb A.2.2 hd) rfl k') k
theorem g_irem (A : Ax p l e R s m args below meth c T locs cells slots B) {x y : Int32} (hd : decode B pc = .ok (.irem, 1)) (hy : y ≠ 0) (hp : pc + 1 = pc') (k : Go p e below P T (mkF m pc' ls (.int (x % y) :: st))) : Go p e below P T (mkF m pc ls (.int y :: .int x :: st)) := by
  subst hp; exact Go.of (fun _ k' => iremM A.1 A.2.1 rfl (hb A.2.2 hd) rfl hy k') k
theorem g_iloadN (A : Ax p l e R s m args below meth c T locs cells slots B) {k : Fin 4} {v : Int32} (hd : decode B pc = .ok (.iload_n k, 1)) (hl : ls[k.val]? = some (.val (.int v))) (hp : pc + 1 = pc') (k : Go p e below P T (mkF m pc' ls (.int v :: st))) : Go p e below P T (mkF m pc ls st) := by
  subst hp; exact Go.of (fun _ k' => XS.iloadN A.1.here A.2.1 rfl (hb A.2.2 hd) hl k') k
theorem g_iload (A : Ax p l e R s m args below meth c T locs cells slots B) {k : Nat} {v : Int32} (hd : decode B pc = .ok (.iload k, 2)) (hl : ls[k]? = some (.val (.int v))) (hp : pc + 2 = pc') (k : Go p e below P T (mkF m pc' ls (.int v :: st))) : Go p e below P T (mkF m pc ls st) := by
  subst hp; exact Go.of (fun _ k' => XS.iload A.1.here A.2.1 rfl (hb A.2.2 hd) hl k') k
theorem g_lloadN (A : Ax p l e R s m args below meth c T locs cells slots B) {k : Fin 4} {v : Int64} (hd : decode B pc = .ok (.lload_n k, 1)) (hl : ls[k.val]? = some (.val (.long v))) (hp : pc + 1 = pc') (k : Go p e below P T (mkF m pc' ls (.long v :: st))) : Go p e below P T (mkF m pc ls st) := by
  subst hp; exact Go.of (fun _ k' => XT.lloadN A.1.here A.2.1 rfl (hb A.2.2 hd) hl k') k
theorem g_lload (A : Ax p l e R s m args below meth c T locs cells slots B) {k : Nat} {v : Int64} (hd : decode B pc = .ok (.lload k, 2)) (hl : ls[k]? = some (.val (.long v))) (hp : pc + 2 = pc') (k : Go p e below P T (mkF m pc' ls (.long v :: st))) : Go p e below P T (mkF m pc ls st) := by
  subst hp; exact Go.of (fun _ k' => XT.lload A.1.here A.2.1 rfl (hb A.2.2 hd) hl k') k
theorem g_aloadN (A : Ax p l e R s m args below meth c T locs cells slots B) {k : Fin 4} {v : Value} (hd : decode B pc = .ok (.aload_n k, 1)) (hl : ls[k.val]? = some (.val v)) (hv : v.isRef = true) (hp : pc + 1 = pc') (k : Go p e below P T (mkF m pc' ls (v :: st))) : Go p e below P T (mkF m pc ls st) := by
  subst hp; exact Go.of (fun _ k' => XS.aloadN A.1.here A.2.1 rfl (hb A.2.2 hd) hl hv k') k
theorem g_aload (A : Ax p l e R s m args below meth c T locs cells slots B) {k : Nat} {v : Value} (hd : decode B pc = .ok (.aload k, 2)) (hl : ls[k]? = some (.val v)) (hv : v.isRef = true) (hp : pc + 2 = pc') (k : Go p e below P T (mkF m pc' ls (v :: st))) : Go p e below P T (mkF m pc ls st) := by
  subst hp; exact Go.of (fun _ k' => XS.aload A.1.here A.2.1 rfl (hb A.2.2 hd) hl hv k') k
theorem g_dloadN (A : Ax p l e R s m args below meth c T locs cells slots B) {k : Fin 4} {v : UInt64} (hd : decode B pc = .ok (.dload_n k, 1)) (hl : ls[k.val]? = some (.val (.double v))) (hp : pc + 1 = pc') (k : Go p e below P T (mkF m pc' ls (.double v :: st))) : Go p e below P T (mkF m pc ls st) := by
  subst hp
  refine Go.of (fun t k' => ?_) k
  have h := A.1.here
  have hx := A.2.1
  have hd' := hb A.2.2 hd
  show Steps p.tables e below (T.setTop { method := m, pc := pc, locals := ls, stack := st, locked := none }) _
  jvm_step h [h.top, hx, hd', hl]
  exact k'
theorem g_dload (A : Ax p l e R s m args below meth c T locs cells slots B) {k : Nat} {v : UInt64} (hd : decode B pc = .ok (.dload k, 2)) (hl : ls[k]? = some (.val (.double v))) (hp : pc + 2 = pc') (k : Go p e below P T (mkF m pc' ls (.double v :: st))) : Go p e below P T (mkF m pc ls st) := by
  subst hp
  refine Go.of (fun t k' => ?_) k
  have h := A.1.here
  have hx := A.2.1
  have hd' := hb A.2.2 hd
  show Steps p.tables e below (T.setTop { method := m, pc := pc, locals := ls, stack := st, locked := none }) _
  jvm_step h [h.top, hx, hd', hl]
  exact k'
theorem g_istoreN (A : Ax p l e R s m args below meth c T locs cells slots B) {k : Fin 4} {x : Int32} (hd : decode B pc = .ok (.istore_n k, 1)) (hl : storeLocals ls k.val (.int x) = some ls') (hp : pc + 1 = pc') (k : Go p e below P T (mkF m pc' ls' st)) : Go p e below P T (mkF m pc ls (.int x :: st)) := by
  subst hp; exact Go.of (fun _ k' => XS.istoreN A.1.here A.2.1 rfl (hb A.2.2 hd) rfl hl k') k
theorem g_istore (A : Ax p l e R s m args below meth c T locs cells slots B) {k : Nat} {x : Int32} (hd : decode B pc = .ok (.istore k, 2)) (hl : storeLocals ls k (.int x) = some ls') (hp : pc + 2 = pc') (k : Go p e below P T (mkF m pc' ls' st)) : Go p e below P T (mkF m pc ls (.int x :: st)) := by
  subst hp; exact Go.of (fun _ k' => XS.istore A.1.here A.2.1 rfl (hb A.2.2 hd) rfl hl k') k
theorem g_lstoreN (A : Ax p l e R s m args below meth c T locs cells slots B) {k : Fin 4} {x : Int64} (hd : decode B pc = .ok (.lstore_n k, 1)) (hl : storeLocals ls k.val (.long x) = some ls') (hp : pc + 1 = pc') (k : Go p e below P T (mkF m pc' ls' st)) : Go p e below P T (mkF m pc ls (.long x :: st)) := by
  subst hp; exact Go.of (fun _ k' => XT.lstoreN A.1.here A.2.1 rfl (hb A.2.2 hd) rfl hl k') k
theorem g_lstore (A : Ax p l e R s m args below meth c T locs cells slots B) {k : Nat} {x : Int64} (hd : decode B pc = .ok (.lstore k, 2)) (hl : storeLocals ls k (.long x) = some ls') (hp : pc + 2 = pc') (k : Go p e below P T (mkF m pc' ls' st)) : Go p e below P T (mkF m pc ls (.long x :: st)) := by
  subst hp; exact Go.of (fun _ k' => XT.lstore A.1.here A.2.1 rfl (hb A.2.2 hd) rfl hl k') k
theorem g_astoreN (A : Ax p l e R s m args below meth c T locs cells slots B) {k : Fin 4} {x : Value} (hd : decode B pc = .ok (.astore_n k, 1)) (hv : x.isRef = true) (hl : storeLocals ls k.val x = some ls') (hp : pc + 1 = pc') (k : Go p e below P T (mkF m pc' ls' st)) : Go p e below P T (mkF m pc ls (x :: st)) := by
  subst hp; exact Go.of (fun _ k' => XS.astoreN A.1.here A.2.1 rfl (hb A.2.2 hd) rfl hv hl k') k
theorem g_astore (A : Ax p l e R s m args below meth c T locs cells slots B) {k : Nat} {x : Value} (hd : decode B pc = .ok (.astore k, 2)) (hv : x.isRef = true) (hl : storeLocals ls k x = some ls') (hp : pc + 2 = pc') (k : Go p e below P T (mkF m pc' ls' st)) : Go p e below P T (mkF m pc ls (x :: st)) := by
  subst hp; exact Go.of (fun _ k' => XS.astore A.1.here A.2.1 rfl (hb A.2.2 hd) rfl hv hl k') k
theorem g_dstoreN (A : Ax p l e R s m args below meth c T locs cells slots B) {k : Fin 4} {x : UInt64} (hd : decode B pc = .ok (.dstore_n k, 1)) (hl : storeLocals ls k.val (.double x) = some ls') (hp : pc + 1 = pc') (k : Go p e below P T (mkF m pc' ls' st)) : Go p e below P T (mkF m pc ls (.double x :: st)) := by
  subst hp
  refine Go.of (fun t k' => ?_) k
  have h := A.1.here
  have hx := A.2.1
  have hd' := hb A.2.2 hd
  show Steps p.tables e below (T.setTop { method := m, pc := pc, locals := ls, stack := .double x :: st, locked := none }) _
  jvm_step h [h.top, hx, hd']
  exact ⟨ls', hl, k'⟩
theorem g_dstore (A : Ax p l e R s m args below meth c T locs cells slots B) {k : Nat} {x : UInt64} (hd : decode B pc = .ok (.dstore k, 2)) (hl : storeLocals ls k (.double x) = some ls') (hp : pc + 2 = pc') (k : Go p e below P T (mkF m pc' ls' st)) : Go p e below P T (mkF m pc ls (.double x :: st)) := by
  subst hp
  refine Go.of (fun t k' => ?_) k
  have h := A.1.here
  have hx := A.2.1
  have hd' := hb A.2.2 hd
  show Steps p.tables e below (T.setTop { method := m, pc := pc, locals := ls, stack := .double x :: st, locked := none }) _
  jvm_step h [h.top, hx, hd']
  exact ⟨ls', hl, k'⟩
theorem g_iconst (A : Ax p l e R s m args below meth c T locs cells slots B) {i : Int} {v : Int32} (hd : decode B pc = .ok (.iconst i, 1)) (hv : Int32.ofInt i = v) (hp : pc + 1 = pc') (k : Go p e below P T (mkF m pc' ls (.int v :: st))) : Go p e below P T (mkF m pc ls st) := by
  subst hp hv; exact Go.of (fun _ k' => XS.iconst A.1.here A.2.1 rfl (hb A.2.2 hd) k') k
theorem g_bipush (A : Ax p l e R s m args below meth c T locs cells slots B) {i : Int} {v : Int32} (hd : decode B pc = .ok (.bipush i, 2)) (hv : (Int8.ofInt i).toInt32 = v) (hp : pc + 2 = pc') (k : Go p e below P T (mkF m pc' ls (.int v :: st))) : Go p e below P T (mkF m pc ls st) := by
  subst hp hv; exact Go.of (fun _ k' => XS.bipush A.1.here A.2.1 rfl (hb A.2.2 hd) k') k
theorem g_sipush (A : Ax p l e R s m args below meth c T locs cells slots B) {i : Int} {v : Int32} (hd : decode B pc = .ok (.sipush i, 3)) (hv : (Int16.ofInt i).toInt32 = v) (hp : pc + 3 = pc') (k : Go p e below P T (mkF m pc' ls (.int v :: st))) : Go p e below P T (mkF m pc ls st) := by
  subst hp hv; exact Go.of (fun _ k' => XS.sipush A.1.here A.2.1 rfl (hb A.2.2 hd) k') k
theorem g_aconst (A : Ax p l e R s m args below meth c T locs cells slots B) (hd : decode B pc = .ok (.aconst_null, 1)) (hp : pc + 1 = pc') (k : Go p e below P T (mkF m pc' ls (.null :: st))) : Go p e below P T (mkF m pc ls st) := by
  subst hp; exact Go.of (fun _ k' => XS.aconstNull A.1.here A.2.1 rfl (hb A.2.2 hd) k') k
theorem g_lconst (A : Ax p l e R s m args below meth c T locs cells slots B) {i : Fin 2} {v : Int64} (hd : decode B pc = .ok (.lconst i, 1)) (hv : Int64.ofNat i = v) (hp : pc + 1 = pc') (k : Go p e below P T (mkF m pc' ls (.long v :: st))) : Go p e below P T (mkF m pc ls st) := by
  subst hp hv; exact Go.of (fun _ k' => XT.lconst A.1.here A.2.1 rfl (hb A.2.2 hd) k') k
theorem g_dconst0 (A : Ax p l e R s m args below meth c T locs cells slots B) (hd : decode B pc = .ok (.dconst 0, 1)) (hp : pc + 1 = pc') (k : Go p e below P T (mkF m pc' ls (.double (0 : UInt64) :: st))) : Go p e below P T (mkF m pc ls st) := by
  subst hp
  refine Go.of (fun t k' => ?_) k
  have h := A.1.here
  have hx := A.2.1
  have hd' := hb A.2.2 hd
  show Steps p.tables e below (T.setTop { method := m, pc := pc, locals := ls, stack := st, locked := none }) _
  jvm_step h [h.top, hx, hd']
  exact k'
theorem g_dconst1 (A : Ax p l e R s m args below meth c T locs cells slots B) (hd : decode B pc = .ok (.dconst 1, 1)) (hp : pc + 1 = pc') (k : Go p e below P T (mkF m pc' ls (.double (4607182418800017408 : UInt64) :: st))) : Go p e below P T (mkF m pc ls st) := by
  subst hp
  refine Go.of (fun t k' => ?_) k
  have h := A.1.here
  have hx := A.2.1
  have hd' := hb A.2.2 hd
  show Steps p.tables e below (T.setTop { method := m, pc := pc, locals := ls, stack := st, locked := none }) _
  jvm_step h [h.top, hx, hd']
  exact k'
theorem g_dadd (A : Ax p l e R s m args below meth c T locs cells slots B) {x y : UInt64} (hd : decode B pc = .ok (.dadd, 1)) (hn : NoNaN64 (FP.dadd x y)) (hp : pc + 1 = pc') (k : Go p e below P T (mkF m pc' ls (.double (FP.dadd x y) :: st))) : Go p e below P T (mkF m pc ls (.double y :: .double x :: st)) := by
  subst hp
  refine Go.of (fun t k' => ?_) k
  have h := A.1.here
  have hx := A.2.1
  have hd' := hb A.2.2 hd
  show Steps p.tables e below (T.setTop { method := m, pc := pc, locals := ls, stack := .double y :: .double x :: st, locked := none }) _
  jvm_step h [h.top, hx, hd', Op.dadd.at_number h.top hn]
  exact k'
theorem g_dsub (A : Ax p l e R s m args below meth c T locs cells slots B) {x y : UInt64} (hd : decode B pc = .ok (.dsub, 1)) (hn : NoNaN64 (FP.dsub x y)) (hp : pc + 1 = pc') (k : Go p e below P T (mkF m pc' ls (.double (FP.dsub x y) :: st))) : Go p e below P T (mkF m pc ls (.double y :: .double x :: st)) := by
  subst hp
  refine Go.of (fun t k' => ?_) k
  have h := A.1.here
  have hx := A.2.1
  have hd' := hb A.2.2 hd
  show Steps p.tables e below (T.setTop { method := m, pc := pc, locals := ls, stack := .double y :: .double x :: st, locked := none }) _
  jvm_step h [h.top, hx, hd', Op.dsub.at_number h.top hn]
  exact k'
theorem g_dmul (A : Ax p l e R s m args below meth c T locs cells slots B) {x y : UInt64} (hd : decode B pc = .ok (.dmul, 1)) (hn : NoNaN64 (FP.dmul x y)) (hp : pc + 1 = pc') (k : Go p e below P T (mkF m pc' ls (.double (FP.dmul x y) :: st))) : Go p e below P T (mkF m pc ls (.double y :: .double x :: st)) := by
  subst hp
  refine Go.of (fun t k' => ?_) k
  have h := A.1.here
  have hx := A.2.1
  have hd' := hb A.2.2 hd
  show Steps p.tables e below (T.setTop { method := m, pc := pc, locals := ls, stack := .double y :: .double x :: st, locked := none }) _
  jvm_step h [h.top, hx, hd', Op.dmul.at_number h.top hn]
  exact k'
theorem g_ddiv (A : Ax p l e R s m args below meth c T locs cells slots B) {x y : UInt64} (hd : decode B pc = .ok (.ddiv, 1)) (hn : NoNaN64 (FP.ddiv x y)) (hp : pc + 1 = pc') (k : Go p e below P T (mkF m pc' ls (.double (FP.ddiv x y) :: st))) : Go p e below P T (mkF m pc ls (.double y :: .double x :: st)) := by
  subst hp
  refine Go.of (fun t k' => ?_) k
  have h := A.1.here
  have hx := A.2.1
  have hd' := hb A.2.2 hd
  show Steps p.tables e below (T.setTop { method := m, pc := pc, locals := ls, stack := .double y :: .double x :: st, locked := none }) _
  jvm_step h [h.top, hx, hd', Op.ddiv.at_number h.top hn]
  exact k'
theorem g_dneg (A : Ax p l e R s m args below meth c T locs cells slots B) {x : UInt64} (hd : decode B pc = .ok (.dneg, 1)) (hp : pc + 1 = pc') (k : Go p e below P T (mkF m pc' ls (.double (FP.dneg x) :: st))) : Go p e below P T (mkF m pc ls (.double x :: st)) := by
  subst hp
  refine Go.of (fun t k' => ?_) k
  have h := A.1.here
  have hx := A.2.1
  have hd' := hb A.2.2 hd
  show Steps p.tables e below (T.setTop { method := m, pc := pc, locals := ls, stack := .double x :: st, locked := none }) _
  jvm_step h [h.top, hx, hd']
  exact k'
theorem g_i2d (A : Ax p l e R s m args below meth c T locs cells slots B) {x : Int32} (hd : decode B pc = .ok (.i2d, 1)) (hp : pc + 1 = pc') (k : Go p e below P T (mkF m pc' ls (.double (FP.i2d x) :: st))) : Go p e below P T (mkF m pc ls (.int x :: st)) := by
  subst hp
  refine Go.of (fun t k' => ?_) k
  have h := A.1.here
  have hx := A.2.1
  have hd' := hb A.2.2 hd
  show Steps p.tables e below (T.setTop { method := m, pc := pc, locals := ls, stack := .int x :: st, locked := none }) _
  jvm_step h [h.top, hx, hd']
  exact k'
theorem g_l2d (A : Ax p l e R s m args below meth c T locs cells slots B) {x : Int64} (hd : decode B pc = .ok (.l2d, 1)) (hp : pc + 1 = pc') (k : Go p e below P T (mkF m pc' ls (.double (FP.l2d x) :: st))) : Go p e below P T (mkF m pc ls (.long x :: st)) := by
  subst hp
  refine Go.of (fun t k' => ?_) k
  have h := A.1.here
  have hx := A.2.1
  have hd' := hb A.2.2 hd
  show Steps p.tables e below (T.setTop { method := m, pc := pc, locals := ls, stack := .long x :: st, locked := none }) _
  jvm_step h [h.top, hx, hd']
  exact k'
theorem g_dcmp (A : Ax p l e R s m args below meth c T locs cells slots B) {x y : UInt64} {op : CmpOp} (hd : decode B pc = .ok (.dcmp op, 1)) (hp : pc + 1 = pc') (k : Go p e below P T (mkF m pc' ls (.int (cmpValue (FP.dcmp x y) op) :: st))) : Go p e below P T (mkF m pc ls (.double y :: .double x :: st)) := by
  subst hp
  refine Go.of (fun t k' => ?_) k
  have h := A.1.here
  have hx := A.2.1
  have hd' := hb A.2.2 hd
  show Steps p.tables e below (T.setTop { method := m, pc := pc, locals := ls, stack := .double y :: .double x :: st, locked := none }) _
  jvm_step h [h.top, hx, hd']
  exact k'
theorem g_lcmp (A : Ax p l e R s m args below meth c T locs cells slots B) {x y : Int64} (hd : decode B pc = .ok (.lcmp, 1)) (hp : pc + 1 = pc') (k : Go p e below P T (mkF m pc' ls (.int (XT.cmpL x y) :: st))) : Go p e below P T (mkF m pc ls (.long y :: .long x :: st)) := by
  subst hp; exact Go.of (fun _ k' => XT.lcmp A.1.here A.2.1 rfl (hb A.2.2 hd) rfl k') k
theorem g_dup (A : Ax p l e R s m args below meth c T locs cells slots B) {x : Value} (hd : decode B pc = .ok (.dup, 1)) (hc : x.category = 1) (hp : pc + 1 = pc') (k : Go p e below P T (mkF m pc' ls (x :: x :: st))) : Go p e below P T (mkF m pc ls (x :: st)) := by
  subst hp; exact Go.of (fun _ k' => XS.dup A.1.here A.2.1 rfl (hb A.2.2 hd) rfl hc k') k
theorem g_pop (A : Ax p l e R s m args below meth c T locs cells slots B) {x : Value} (hd : decode B pc = .ok (.pop, 1)) (hc : x.category = 1) (hp : pc + 1 = pc') (k : Go p e below P T (mkF m pc' ls st)) : Go p e below P T (mkF m pc ls (x :: st)) := by
  subst hp; exact Go.of (fun _ k' => XT.pop A.1.here A.2.1 rfl (hb A.2.2 hd) rfl hc k') k
theorem g_iinc (A : Ax p l e R s m args below meth c T locs cells slots B) {k : Nat} {i : Int} {x y : Int32} (hd : decode B pc = .ok (.iinc k i, 3)) (hl : ls[k]? = some (.val (.int x))) (hy : x + Int32.ofInt i = y) (hl' : storeLocals ls k (.int y) = some ls') (hp : pc + 3 = pc') (k : Go p e below P T (mkF m pc' ls' st)) : Go p e below P T (mkF m pc ls st) := by
  subst hp hy; exact Go.of (fun _ k' => XS.iinc A.1.here A.2.1 rfl (hb A.2.2 hd) hl hl' k') k
theorem own_off {pc pc' : Nat} {o : Int} (h : (pc : Int) + o = (pc' : Int)) : 0 ≤ (pc : Int) + o ∧ ((pc : Int) + o).toNat = pc' := by omega
theorem g_goto (A : Ax p l e R s m args below meth c T locs cells slots B) {o : Int} (hd : decode B pc = .ok (.goto o, 3)) (hp : (pc : Int) + o = (pc' : Int)) (k : Go p e below P T (mkF m pc' ls st)) : Go p e below P T (mkF m pc ls st) := Go.of (fun _ k' => XS.goto A.1.here A.2.1 rfl rfl (hb A.2.2 hd) (own_off hp).1 (own_off hp).2 k') k
theorem g_ifY (A : Ax p l e R s m args below meth c T locs cells slots B) {o : Int} {cd : ClassFile.Cond} {x : Int32} (hd : decode B pc = .ok (.ifCond cd o, 3)) (hc : ifCond.holds cd x = true) (hp : (pc : Int) + o = (pc' : Int)) (k : Go p e below P T (mkF m pc' ls st)) : Go p e below P T (mkF m pc ls (.int x :: st)) := Go.of (fun _ k' => XS.ifYes A.1.here A.2.1 rfl rfl (hb A.2.2 hd) rfl hc (own_off hp).1 (own_off hp).2 k') k
theorem g_ifN (A : Ax p l e R s m args below meth c T locs cells slots B) {o : Int} {cd : ClassFile.Cond} {x : Int32} (hd : decode B pc = .ok (.ifCond cd o, 3)) (hc : ifCond.holds cd x = false) (hp : pc + 3 = pc') (k : Go p e below P T (mkF m pc' ls st)) : Go p e below P T (mkF m pc ls (.int x :: st)) := by
  subst hp; exact Go.of (fun _ k' => XS.ifNo A.1.here A.2.1 rfl (hb A.2.2 hd) rfl hc k') k
theorem g_icY (A : Ax p l e R s m args below meth c T locs cells slots B) {o : Int} {cd : ClassFile.Cond} {x y : Int32} (hd : decode B pc = .ok (.if_icmp cd o, 3)) (hc : if_icmp.holds cd x y = true) (hp : (pc : Int) + o = (pc' : Int)) (k : Go p e below P T (mkF m pc' ls st)) : Go p e below P T (mkF m pc ls (.int y :: .int x :: st)) := Go.of (fun _ k' => XS.icmpYes A.1.here A.2.1 rfl rfl (hb A.2.2 hd) rfl hc (own_off hp).1 (own_off hp).2 k') k
theorem g_icN (A : Ax p l e R s m args below meth c T locs cells slots B) {o : Int} {cd : ClassFile.Cond} {x y : Int32} (hd : decode B pc = .ok (.if_icmp cd o, 3)) (hc : if_icmp.holds cd x y = false) (hp : pc + 3 = pc') (k : Go p e below P T (mkF m pc' ls st)) : Go p e below P T (mkF m pc ls (.int y :: .int x :: st)) := by
  subst hp; exact Go.of (fun _ k' => XS.icmpNo A.1.here A.2.1 rfl (hb A.2.2 hd) rfl hc k') k
theorem c0_eq_t {x : Int32} (h : x = 0) : ifCond.holds .eq x = true := (if0 _ _).trans (teq h).1
theorem c0_eq_f {x : Int32} (h : ¬ x = 0) : ifCond.holds .eq x = false := (if0 _ _).trans (feq h).1
theorem c0_ne_t {x : Int32} (h : ¬ x = 0) : ifCond.holds .ne x = true := (if0 _ _).trans (feq h).2
theorem c0_ne_f {x : Int32} (h : x = 0) : ifCond.holds .ne x = false := (if0 _ _).trans (teq h).2
theorem c0_lt_t {x : Int32} (h : x < 0) : ifCond.holds .lt x = true := (if0 _ _).trans (tlt h).1
theorem c0_lt_f {x : Int32} (h : ¬ x < 0) : ifCond.holds .lt x = false := (if0 _ _).trans (flt h).1
theorem c0_ge_t {x : Int32} (h : ¬ x < 0) : ifCond.holds .ge x = true := (if0 _ _).trans (flt h).2.1
theorem c0_ge_f {x : Int32} (h : x < 0) : ifCond.holds .ge x = false := (if0 _ _).trans (tlt h).2.1
theorem c0_gt_t {x : Int32} (h : 0 < x) : ifCond.holds .gt x = true := (if0 _ _).trans (tlt h).2.2.1
theorem c0_gt_f {x : Int32} (h : ¬ 0 < x) : ifCond.holds .gt x = false := (if0 _ _).trans (flt h).2.2.1
theorem c0_le_t {x : Int32} (h : ¬ 0 < x) : ifCond.holds .le x = true := (if0 _ _).trans (flt h).2.2.2
theorem c0_le_f {x : Int32} (h : 0 < x) : ifCond.holds .le x = false := (if0 _ _).trans (tlt h).2.2.2
theorem c2_eq_t {x y : Int32} (h : x = y) : if_icmp.holds .eq x y = true := (teq h).1
theorem c2_eq_f {x y : Int32} (h : ¬ x = y) : if_icmp.holds .eq x y = false := (feq h).1
theorem c2_ne_t {x y : Int32} (h : ¬ x = y) : if_icmp.holds .ne x y = true := (feq h).2
theorem c2_ne_f {x y : Int32} (h : x = y) : if_icmp.holds .ne x y = false := (teq h).2
theorem c2_lt_t {x y : Int32} (h : x < y) : if_icmp.holds .lt x y = true := (tlt h).1
theorem c2_lt_f {x y : Int32} (h : ¬ x < y) : if_icmp.holds .lt x y = false := (flt h).1
theorem c2_ge_t {x y : Int32} (h : ¬ x < y) : if_icmp.holds .ge x y = true := (flt h).2.1
theorem c2_ge_f {x y : Int32} (h : x < y) : if_icmp.holds .ge x y = false := (tlt h).2.1
theorem c2_gt_t {x y : Int32} (h : y < x) : if_icmp.holds .gt x y = true := (tlt h).2.2.1
theorem c2_gt_f {x y : Int32} (h : ¬ y < x) : if_icmp.holds .gt x y = false := (flt h).2.2.1
theorem c2_le_t {x y : Int32} (h : ¬ y < x) : if_icmp.holds .le x y = true := (flt h).2.2.2
theorem c2_le_f {x y : Int32} (h : y < x) : if_icmp.holds .le x y = false := (tlt h).2.2.2
theorem b0_eq_t {C : Prop} [Decidable C] {v : Int32} (e : v = if C then 1 else 0) (h : ¬ C) : ifCond.holds .eq v = true := c0_eq_t (by rw [e, if_neg h])
theorem b0_eq_f {C : Prop} [Decidable C] {v : Int32} (e : v = if C then 1 else 0) (h : C) : ifCond.holds .eq v = false := c0_eq_f (by rw [e, if_pos h]; decide)
theorem b0_ne_t {C : Prop} [Decidable C] {v : Int32} (e : v = if C then 1 else 0) (h : C) : ifCond.holds .ne v = true := c0_ne_t (by rw [e, if_pos h]; decide)
theorem b0_ne_f {C : Prop} [Decidable C] {v : Int32} (e : v = if C then 1 else 0) (h : ¬ C) : ifCond.holds .ne v = false := c0_ne_f (by rw [e, if_neg h])
theorem own_b01 {C : Prop} [Decidable C] {v : Int32} (e : v = if C then 1 else 0) : narrow .boolean (.int v) = .int v := by
  subst e; by_cases h : C
  · rw [if_pos h]; rfl
  · rw [if_neg h]; rfl
theorem own_fb {C : Prop} [Decidable C] {v : Int32} (e : v = if C then 1 else 0) : fits .boolean (.int v) = true := by
  subst e; by_cases h : C
  · rw [if_pos h]; rfl
  · rw [if_neg h]; rfl
theorem own_ndadd {x y : UInt64} (h1 : Fin64 x) (h2 : Fin64 y) : NoNaN64 (FP.dadd x y) := dadd_out h1.noNaN h2
theorem own_ndsub {x y : UInt64} (h1 : Fin64 x) (h2 : Fin64 y) : NoNaN64 (FP.dsub x y) := dsub_out h1.noNaN h2
theorem own_ndmul {x y : UInt64} (h1 : Fin64 x) (h2 : Fin64 y) : NoNaN64 (FP.dmul x y) := dmul_out h1 h2
theorem own_fin {x : UInt64} : Fin64 x ↔ FP.Core.DFin x := fin64_core
theorem own_fneg {x : UInt64} (h : Fin64 x) : Fin64 (FP.dneg x) := by
  obtain ⟨s, c, q, e⟩ := fin64_core.mp h
  exact fin64_core.mpr ⟨!s, c, q, (FP.val64_dneg x).trans (by rw [e]; rfl)⟩
theorem own_self {x : UInt64} (h : Fin64 x) : FP.dcmp x x = some .eq := FP.Core.dcmp_self (fin64_core.mp h).ne_nan
theorem own_sgt {x : UInt64} (h : Fin64 x) : ¬ FP.dcmp x x = some .gt := by rw [own_self h]; decide
theorem own_slt {x : UInt64} (h : Fin64 x) : ¬ FP.dcmp x x = some .lt := by rw [own_self h]; decide
theorem own_and {c d : Jvm.Cond} {a : Array Value} {s : State} (h1 : c.before a s = true) (h2 : d.before a s = true) : (Jvm.Cond.and c d).before a s = true := by rw [Cond.before_and, h1, h2]; rfl
theorem own_isfin {x : UInt64} (h : Fin64 x) : some (Value.int (if Jvm.Free.Fl.relLe (FP.dcmp (x &&& 0x7fffffffffffffff) Jvm.Free.Fl.maxD) = true then (1 : Int32) else 0)) = some (.int (1 : Int32)) := by rw [if_pos ((le_max_iff h.noNaN).mpr h)]
theorem own_isinf {x : UInt64} (h : Fin64 x) : some (Value.int (if Jvm.Free.Fl.relGt (FP.dcmp (x &&& 0x7fffffffffffffff) Jvm.Free.Fl.maxD) = true then (1 : Int32) else 0)) = some (.int (0 : Int32)) := by rw [if_neg (fun h4 => (gt_max_iff h.noNaN).mp h4 h)]
theorem own_dfin {i : Int} {x : UInt64} (h : FP.Core.DInt i x) : Fin64 x := by
  refine fin64_core.mpr ?_
  have q : FP.Core.Whole i (FP.Core.val64 x) := h
  cases e : FP.Core.val64 x with
  | nan => rw [e] at q; exact q.elim
  | inf s => rw [e] at q; exact q.elim
  | fin s c q => exact ⟨s, c, q, e⟩
theorem own_fn {v : Int32} (h : narrow .boolean (.int v) = .int v) : fits .boolean (.int v) = true := by
  have q : v &&& 1 = v := Value.int.inj h
  rcases and_one v with z | z <;> rw [z] at q <;> subst q <;> rfl
/-- a double less than, equal to .. another, as the code asks it -/
abbrev oGe (o : Option Ordering) : Prop := o = some .gt ∨ o = some .eq
abbrev oLe (o : Option Ordering) : Prop := o = some .lt ∨ o = some .eq
theorem d_l_eq_t {o : Option Ordering} (h : o = some .eq) : ifCond.holds .eq (cmpValue o .l) = true := by
  rcases o with _ | _ | _ | _ <;> first | rfl | decide | (exfalso; revert h; decide)
theorem d_l_eq_f {o : Option Ordering} (h : ¬ o = some .eq) : ifCond.holds .eq (cmpValue o .l) = false := by
  rcases o with _ | _ | _ | _ <;> first | rfl | decide | (exfalso; revert h; decide)
theorem d_l_ne_t {o : Option Ordering} (h : ¬ o = some .eq) : ifCond.holds .ne (cmpValue o .l) = true := by
  rcases o with _ | _ | _ | _ <;> first | rfl | decide | (exfalso; revert h; decide)
theorem d_l_ne_f {o : Option Ordering} (h : o = some .eq) : ifCond.holds .ne (cmpValue o .l) = false := by
  rcases o with _ | _ | _ | _ <;> first | rfl | decide | (exfalso; revert h; decide)
theorem d_g_eq_t {o : Option Ordering} (h : o = some .eq) : ifCond.holds .eq (cmpValue o .g) = true := by
  rcases o with _ | _ | _ | _ <;> first | rfl | decide | (exfalso; revert h; decide)
theorem d_g_eq_f {o : Option Ordering} (h : ¬ o = some .eq) : ifCond.holds .eq (cmpValue o .g) = false := by
  rcases o with _ | _ | _ | _ <;> first | rfl | decide | (exfalso; revert h; decide)
theorem d_g_ne_t {o : Option Ordering} (h : ¬ o = some .eq) : ifCond.holds .ne (cmpValue o .g) = true := by
  rcases o with _ | _ | _ | _ <;> first | rfl | decide | (exfalso; revert h; decide)
theorem d_g_ne_f {o : Option Ordering} (h : o = some .eq) : ifCond.holds .ne (cmpValue o .g) = false := by
  rcases o with _ | _ | _ | _ <;> first | rfl | decide | (exfalso; revert h; decide)
theorem d_l_lt_t {o : Option Ordering} (h : ¬ oGe o) : ifCond.holds .lt (cmpValue o .l) = true := by
  rcases o with _ | _ | _ | _ <;> first | rfl | decide | (exfalso; revert h; decide)
theorem d_l_lt_f {o : Option Ordering} (h : oGe o) : ifCond.holds .lt (cmpValue o .l) = false := by
  rcases o with _ | _ | _ | _ <;> first | rfl | decide | (exfalso; revert h; decide)
theorem d_l_ge_t {o : Option Ordering} (h : oGe o) : ifCond.holds .ge (cmpValue o .l) = true := by
  rcases o with _ | _ | _ | _ <;> first | rfl | decide | (exfalso; revert h; decide)
theorem d_l_ge_f {o : Option Ordering} (h : ¬ oGe o) : ifCond.holds .ge (cmpValue o .l) = false := by
  rcases o with _ | _ | _ | _ <;> first | rfl | decide | (exfalso; revert h; decide)
theorem d_l_gt_t {o : Option Ordering} (h : o = some .gt) : ifCond.holds .gt (cmpValue o .l) = true := by
  rcases o with _ | _ | _ | _ <;> first | rfl | decide | (exfalso; revert h; decide)
theorem d_l_gt_f {o : Option Ordering} (h : ¬ o = some .gt) : ifCond.holds .gt (cmpValue o .l) = false := by
  rcases o with _ | _ | _ | _ <;> first | rfl | decide | (exfalso; revert h; decide)
theorem d_l_le_t {o : Option Ordering} (h : ¬ o = some .gt) : ifCond.holds .le (cmpValue o .l) = true := by
  rcases o with _ | _ | _ | _ <;> first | rfl | decide | (exfalso; revert h; decide)
theorem d_l_le_f {o : Option Ordering} (h : o = some .gt) : ifCond.holds .le (cmpValue o .l) = false := by
  rcases o with _ | _ | _ | _ <;> first | rfl | decide | (exfalso; revert h; decide)
theorem d_g_lt_t {o : Option Ordering} (h : o = some .lt) : ifCond.holds .lt (cmpValue o .g) = true := by
  rcases o with _ | _ | _ | _ <;> first | rfl | decide | (exfalso; revert h; decide)
theorem d_g_lt_f {o : Option Ordering} (h : ¬ o = some .lt) : ifCond.holds .lt (cmpValue o .g) = false := by
  rcases o with _ | _ | _ | _ <;> first | rfl | decide | (exfalso; revert h; decide)
theorem d_g_ge_t {o : Option Ordering} (h : ¬ o = some .lt) : ifCond.holds .ge (cmpValue o .g) = true := by
  rcases o with _ | _ | _ | _ <;> first | rfl | decide | (exfalso; revert h; decide)
theorem d_g_ge_f {o : Option Ordering} (h : o = some .lt) : ifCond.holds .ge (cmpValue o .g) = false := by
  rcases o with _ | _ | _ | _ <;> first | rfl | decide | (exfalso; revert h; decide)
theorem d_g_gt_t {o : Option Ordering} (h : ¬ oLe o) : ifCond.holds .gt (cmpValue o .g) = true := by
  rcases o with _ | _ | _ | _ <;> first | rfl | decide | (exfalso; revert h; decide)
theorem d_g_gt_f {o : Option Ordering} (h : oLe o) : ifCond.holds .gt (cmpValue o .g) = false := by
  rcases o with _ | _ | _ | _ <;> first | rfl | decide | (exfalso; revert h; decide)
theorem d_g_le_t {o : Option Ordering} (h : oLe o) : ifCond.holds .le (cmpValue o .g) = true := by
  rcases o with _ | _ | _ | _ <;> first | rfl | decide | (exfalso; revert h; decide)
theorem d_g_le_f {o : Option Ordering} (h : ¬ oLe o) : ifCond.holds .le (cmpValue o .g) = false := by
  rcases o with _ | _ | _ | _ <;> first | rfl | decide | (exfalso; revert h; decide)
theorem l_eq (x y : Int64) : XT.cmpL x y = 0 ↔ x = y := lw_eq x y
theorem l_lt (x y : Int64) : XT.cmpL x y < 0 ↔ x < y := lw_lt x y
theorem l_gt (x y : Int64) : 0 < XT.cmpL x y ↔ y < x := lw_gt x y
theorem g_ret (A : Ax p l e R s m args below meth c T locs cells slots B) {w : Value} {t : FieldType} {i : Instr} {Q : Option Value → Heap → List Loc → Prop} {K S : Nat} (hd : decode B pc = .ok (i, 1)) (hlk : meth.locks = false) (hret : meth.sig.returnType = some t) (hn : narrow t w = w)
    (hi : (i = .ireturn ∧ (t = .int ∨ t = .boolean ∨ t = .byte ∨ t = .char ∨ t = .short) ∧ ∃ z, w = .int z) ∨ (i = .lreturn ∧ t = .long ∧ ∃ z, w = .long z) ∨ (i = .dreturn ∧ t = .double ∧ ∃ z, w = .double z) ∨ (i = .freturn ∧ t = .float ∧ ∃ z, w = .float z) ∨ (i = .areturn ∧ t.isReference = true ∧ w.isRef = true))
    (hK : cells ≤ K) (hS : slots ≤ S) (hQ : Q (some w) T.heap locs) : Go p e below (fun U o => ∃ v L, o = .returned v ∧ Q v U.heap L ∧ FrameEnd s o U L K S) T (mkF m pc ls (w :: st)) := by
  obtain ⟨fs, hr, hrun, hended, hW, hsame⟩ := A.1.leave (v := some w) (fun h => by rw [hret] at h; cases h) hlk
  exact ⟨_, _, retOut A.1 A.2.1 hret hn hi (hb A.2.2 hd) hr, hrun, hended, _, _, rfl, hQ, ⟨_, rfl⟩, hW, hsame.mono hK hS⟩
theorem g_retV (A : Ax p l e R s m args below meth c T locs cells slots B) {Q : Option Value → Heap → List Loc → Prop} {K S : Nat} (hd : decode B pc = .ok (.return_, 1)) (hlk : meth.locks = false) (hret : meth.sig.returnType = none)
    (hK : cells ≤ K) (hS : slots ≤ S) (hQ : Q none T.heap locs) : Go p e below (fun U o => ∃ v L, o = .returned v ∧ Q v U.heap L ∧ FrameEnd s o U L K S) T (mkF m pc ls []) := by
  obtain ⟨fs, hr, hrun, hended, hW, hsame⟩ := A.1.leave (v := none) (fun _ => rfl) hlk
  exact ⟨_, _, A.1.returnOut A.2.1 hret (hb A.2.2 hd) hr, hrun, hended, _, _, rfl, hQ, ⟨_, rfl⟩, hW, hsame.mono hK hS⟩
theorem g_ldcI (A : Ax p l e R s m args below meth c T locs cells slots B) {Z : State} {a0 : Array Value} {own : String} {i : Nat} {v : Int32} (hZ : Z.Warmed39 s.vm) (hown : s.vm.findClass own = some m.cls) (w : (Jvm.Cond.constant own i v).before a0 Z = true) (hd : decode B pc = .ok (.ldc i, 2)) (hp : pc + 2 = pc') (k : Go p e below P T (mkF m pc' ls (.int v :: st))) : Go p e below P T (mkF m pc ls st) := by
  subst hp; exact Go.of (A.1.ldcInt A.2.1 hown (mvT hZ w) (g := mkF m pc ls st) rfl (hb A.2.2 hd)) k
theorem g_ldcD (A : Ax p l e R s m args below meth c T locs cells slots B) {Z : State} {a0 : Array Value} {own : String} {i : Nat} {v : UInt64} (hZ : Z.Warmed39 s.vm) (hown : s.vm.findClass own = some m.cls) (w : (Jvm.Cond.constantDouble own i v).before a0 Z = true) (hd : decode B pc = .ok (.ldc2_w i, 3)) (hp : pc + 3 = pc') (k : Go p e below P T (mkF m pc' ls (.double v :: st))) : Go p e below P T (mkF m pc ls st) := by
  subst hp; exact Go.of (A.1.ldc2DoubleC A.2.1 hown (mvT hZ w) (g := mkF m pc ls st) rfl (hb A.2.2 hd)) k
theorem g_ldcL (A : Ax p l e R s m args below meth c T locs cells slots B) {Z : State} {a0 : Array Value} {own : String} {i : Nat} {v : Int64} (hZ : Z.Warmed39 s.vm) (hown : s.vm.findClass own = some m.cls) (w : (Jvm.Cond.constantLong own i v).before a0 Z = true) (hd : decode B pc = .ok (.ldc2_w i, 3)) (hp : pc + 3 = pc') (k : Go p e below P T (mkF m pc' ls (.long v :: st))) : Go p e below P T (mkF m pc ls st) := by
  subst hp; exact Go.of (A.1.ldc2Long A.2.1 hown (mvT hZ w) (g := mkF m pc ls st) rfl (hb A.2.2 hd)) k
theorem g_nnY (A : Ax p l e R s m args below meth c T locs cells slots B) {o : Int} {b : Addr} (hd : decode B pc = .ok (.ifnonnull o, 3)) (hp : (pc : Int) + o = (pc' : Int)) (k : Go p e below P T (mkF m pc' ls st)) : Go p e below P T (mkF m pc ls (.ref b :: st)) := Go.of (fun _ k' => XT.ifnonnullYes A.1.here A.2.1 rfl rfl (hb A.2.2 hd) rfl (own_off hp).1 (own_off hp).2 k') k
theorem g_nnN (A : Ax p l e R s m args below meth c T locs cells slots B) {o : Int} (hd : decode B pc = .ok (.ifnonnull o, 3)) (hp : pc + 3 = pc') (k : Go p e below P T (mkF m pc' ls st)) : Go p e below P T (mkF m pc ls (.null :: st)) := by
  subst hp; exact Go.of (fun _ k' => XT.ifnonnullNo A.1.here A.2.1 rfl (hb A.2.2 hd) rfl k') k
theorem g_nuY (A : Ax p l e R s m args below meth c T locs cells slots B) {o : Int} (hd : decode B pc = .ok (.ifnull o, 3)) (hp : (pc : Int) + o = (pc' : Int)) (k : Go p e below P T (mkF m pc' ls st)) : Go p e below P T (mkF m pc ls (.null :: st)) := Go.of (fun _ k' => XS.ifnullYes A.1.here A.2.1 rfl rfl (hb A.2.2 hd) rfl (own_off hp).1 (own_off hp).2 k') k
theorem g_nuN (A : Ax p l e R s m args below meth c T locs cells slots B) {o : Int} {b : Addr} (hd : decode B pc = .ok (.ifnull o, 3)) (hp : pc + 3 = pc') (k : Go p e below P T (mkF m pc' ls st)) : Go p e below P T (mkF m pc ls (.ref b :: st)) := by
  subst hp; exact Go.of (fun _ k' => XS.ifnullNo A.1.here A.2.1 rfl (hb A.2.2 hd) rfl k') k
theorem g_acY (A : Ax p l e R s m args below meth c T locs cells slots B) {o : Int} {cd : ClassFile.ACond} {x y : Value} (hd : decode B pc = .ok (.if_acmp cd o, 3)) (h1 : x.isRef = true) (h2 : y.isRef = true) (hc : XT.acmp cd x y = true) (hp : (pc : Int) + o = (pc' : Int)) (k : Go p e below P T (mkF m pc' ls st)) : Go p e below P T (mkF m pc ls (y :: x :: st)) := Go.of (fun _ k' => XT.acmpYes A.1.here A.2.1 rfl rfl (hb A.2.2 hd) rfl h1 h2 hc (own_off hp).1 (own_off hp).2 k') k
theorem g_acN (A : Ax p l e R s m args below meth c T locs cells slots B) {o : Int} {cd : ClassFile.ACond} {x y : Value} (hd : decode B pc = .ok (.if_acmp cd o, 3)) (h1 : x.isRef = true) (h2 : y.isRef = true) (hc : XT.acmp cd x y = false) (hp : pc + 3 = pc') (k : Go p e below P T (mkF m pc' ls st)) : Go p e below P T (mkF m pc ls (y :: x :: st)) := by
  subst hp; exact Go.of (fun _ k' => XT.acmpNo A.1.here A.2.1 rfl (hb A.2.2 hd) rfl h1 h2 hc k') k
/-- an array of n places: its i-th holds f i -/
def Dar (Z : State) (h : Heap) (a : Addr) (ty : FieldType) (n : Nat) (f : Nat → Value) : Prop := ∃ cl : Cell, RoadKit.Arr Z h a cl ty ∧ cl.slots.size = n ∧ n < 2147483648 ∧ ∀ i, i < n → cl.slots[i]? = some (f i)
variable {Z : State} {h h' : Heap} {a b : Addr} {ty : FieldType} {n : Nat} {f g : Nat → Value} {sl : Nat} {v : Value} {ws : List Addr}
theorem Dar.lt (F : Dar Z h a ty n f) : a < h.size := by obtain ⟨cl, A, -⟩ := F; exact A.lt
theorem Dar.ext (E : Ext h h') (F : Dar Z h a ty n f) : Dar Z h' a ty n f := by obtain ⟨cl, A, r⟩ := F; exact ⟨cl, A.ext E, r⟩
theorem Dar.other (W : Wr h h' b sl v) (F : Dar Z h a ty n f) (q : a ≠ b) : Dar Z h' a ty n f := by obtain ⟨cl, A, r⟩ := F; exact ⟨cl, A.other W q, r⟩
theorem Dar.keep (F : Dar Z h a ty n f) (K : Keep h h' ws) (q : a ∉ ws) : Dar Z h' a ty n f := by obtain ⟨cl, A, r⟩ := F; exact ⟨cl, ⟨K.2.1 a cl A.1 q, A.2⟩, r⟩
theorem Dar.congr (F : Dar Z h a ty n f) (q : ∀ i, i < n → f i = g i) : Dar Z h a ty n g := by obtain ⟨cl, A, r1, r2, r3⟩ := F; exact ⟨cl, A, r1, r2, fun i hi => by rw [← q i hi]; exact r3 i hi⟩
theorem Dar.new {cA : ClassId} {z : Int32} (A : RoadKit.Arr Z h a (newA cA ty z) ty) (hz : z.toNatClampNeg = n) : Dar Z h a ty n (fun _ => defaultValue ty) := by
  refine ⟨_, A, (sz_new _ _ _).trans hz, ?_, fun i hi => by subst hz; simp [newA, hi]⟩
  have := z.toInt_lt
  rw [← hz, Int32.toNatClampNeg]; omega
theorem Dar.ne_exa {a0 : Array Value} {k : Nat} {C : String} (F : Dar Z h a ty n f) (E : Exa Z h b C) (wi : (Jvm.Cond.instantiable C k).before a0 Z = true) : a ≠ b := by obtain ⟨cl, A, -⟩ := F; exact fun q => ne_arr E wi A q.symm
theorem own_ne {a b : Nat} {h : Heap} (g : a = h.size) (q : b < h.size) : b ≠ a := by rw [g]; exact Nat.ne_of_lt q
theorem own_clamp {i : Nat} (hi : i < 2147483648) : (Int32.ofNat i).toNatClampNeg = i ∧ ¬ Int32.ofNat i < 0 := by
  have e : (Int32.ofNat i).toInt = i := Int32.toInt_ofNat_of_lt hi
  refine ⟨by rw [Int32.toNatClampNeg, e]; omega, fun q => ?_⟩
  rw [Int32.lt_iff_toInt_lt, e] at q
  have : (0 : Int32).toInt = 0 := rfl
  omega
theorem Dar.set {i : Nat} (F : Dar Z h a ty n f) (W : Wr h h' a i v) (q : ∀ j, j < n → g j = if j = i then v else f j) : Dar Z h' a ty n g := by
  obtain ⟨cl, A, r1, r2, r3⟩ := F
  refine ⟨_, A.same W, (sz_set _ _ _).trans r1, r2, fun j hj => ?_⟩
  rw [q j hj]
  by_cases e : j = i
  · subst e; rw [if_pos rfl]; simp [Cell.setSlot, r1, hj]
  · rw [if_neg e]; exact (Array.getElem?_setIfInBounds_ne (Ne.symm e)).trans (r3 j hj)
theorem own_in {cl : Cell} {i : Nat} (S : cl.slots.size = n) (hn : n < 2147483648) (hi : i < n) : ¬ (Int32.ofNat i < 0 ∨ cl.slots.size ≤ (Int32.ofNat i).toNatClampNeg) := by
  obtain ⟨q1, q2⟩ := own_clamp (i := i) (by omega)
  rw [q1, S]; exact fun z => z.elim q2 (by omega)
theorem g_daload (A : Ax p l e R s m args below meth c T locs cells slots B) (hZ : Z.Warmed39 s.vm) (eT : T.heap = h) {j : Int32} {i : Nat} {x : UInt64} (F : Dar Z h a .double n f) (hi : i < n) (hj : j = Int32.ofNat i) (hv : f i = .double x) (hd : decode B pc = .ok (.daload, 1)) (hp : pc + 1 = pc') (k : Go p e below P T (mkF m pc' ls (.double x :: st))) : Go p e below P T (mkF m pc ls (.int j :: .ref a :: st)) := by
  subst hp hj
  obtain ⟨cl, A2, r1, r2, r3⟩ := F
  have q := (own_clamp (i := i) (by omega)).1
  exact Go.of (fun t k' => A.1.daload A.2.1 (j := Int32.ofNat i) (v := .double x) (by rw [eT]; exact A2.1) (State.isArrayOf_alike hZ.alike A2.2.1) A2.2.2 (own_in r1 r2 hi) (by rw [q, ← hv]; exact r3 i hi) (g := mkF m pc ls (.int (Int32.ofNat i) :: .ref a :: st)) rfl rfl (hb A.2.2 hd) t k') k
theorem g_iaload (A : Ax p l e R s m args below meth c T locs cells slots B) (hZ : Z.Warmed39 s.vm) (eT : T.heap = h) {j : Int32} {i : Nat} {x : Int32} (F : Dar Z h a .int n f) (hi : i < n) (hj : j = Int32.ofNat i) (hv : f i = .int x) (hd : decode B pc = .ok (.iaload, 1)) (hp : pc + 1 = pc') (k : Go p e below P T (mkF m pc' ls (.int x :: st))) : Go p e below P T (mkF m pc ls (.int j :: .ref a :: st)) := by
  subst hp hj
  obtain ⟨cl, A2, r1, r2, r3⟩ := F
  have q := (own_clamp (i := i) (by omega)).1
  exact Go.of (fun t k' => A.1.iaload A.2.1 (j := Int32.ofNat i) (v := .int x) (by rw [eT]; exact A2.1) (State.isArrayOf_alike hZ.alike A2.2.1) A2.2.2 (own_in r1 r2 hi) (by rw [q, ← hv]; exact r3 i hi) (g := mkF m pc ls (.int (Int32.ofNat i) :: .ref a :: st)) rfl rfl (hb A.2.2 hd) t k') k
theorem g_baload (A : Ax p l e R s m args below meth c T locs cells slots B) (hZ : Z.Warmed39 s.vm) (eT : T.heap = h) {j : Int32} {i : Nat} {x : Int32} (F : Dar Z h a .boolean n f) (hi : i < n) (hj : j = Int32.ofNat i) (hv : f i = .int x) (hd : decode B pc = .ok (.baload, 1)) (hp : pc + 1 = pc') (k : Go p e below P T (mkF m pc' ls (.int x :: st))) : Go p e below P T (mkF m pc ls (.int j :: .ref a :: st)) := by
  subst hp hj
  obtain ⟨cl, A2, r1, r2, r3⟩ := F
  have q := (own_clamp (i := i) (by omega)).1
  exact Go.of (fun t k' => A.1.baloadBooleans A.2.1 (j := Int32.ofNat i) (v := .int x) (by rw [eT]; exact A2.1) (State.isArrayOf_alike hZ.alike A2.2.1) A2.2.2 (own_in r1 r2 hi) (by rw [q, ← hv]; exact r3 i hi) (g := mkF m pc ls (.int (Int32.ofNat i) :: .ref a :: st)) rfl rfl (hb A.2.2 hd) t k') k
theorem g_alen (A : Ax p l e R s m args below meth c T locs cells slots B) (hZ : Z.Warmed39 s.vm) (eT : T.heap = h) (F : Dar Z h a ty n f) (hd : decode B pc = .ok (.arraylength, 1)) {z : Int32} (hz : Int32.ofNat n = z) (hp : pc + 1 = pc') (k : Go p e below P T (mkF m pc' ls (.int z :: st))) : Go p e below P T (mkF m pc ls (.ref a :: st)) := by
  subst hp hz
  obtain ⟨cl, A2, r1, r2, r3⟩ := F
  exact Go.of (fun t k' => A.1.arraylength A.2.1 (cell := cl) (by rw [eT]; exact A2.1) (State.isArrayOf_alike hZ.alike A2.2.1) (g := mkF m pc ls (.ref a :: st)) rfl (rest := st) rfl (hb A.2.2 hd) t (by rw [r1]; exact k')) k
theorem s_dastore (A : Ax p l e R s m args below meth c T locs cells slots B) (hZ : Z.Warmed39 s.vm) (eT : T.heap = h) {j : Int32} {i : Nat} {x : UInt64} (F : Dar Z h a .double n f) (hi : i < n) (hj : j = Int32.ofNat i) (hd : decode B pc = .ok (.dastore, 1)) (hp : pc + 1 = pc') :
    ∃ T' h', Ax p l e R s m args below meth c T' (locs ++ [⟨a, i⟩]) cells slots B ∧ T'.heap = h' ∧ Wr h h' a i (.double x) ∧ ∀ {P : State → Outcome → Prop}, Go p e below P T' (mkF m pc' ls st) → Go p e below P T (mkF m pc ls (.double x :: .int j :: .ref a :: st)) := by
  subst hp hj
  obtain ⟨cl, A2, r1, r2, r3⟩ := F
  have q := (own_clamp (i := i) (by omega)).1
  obtain ⟨X', st'⟩ := A.1.dastore A.2.1 (by rw [eT]; exact A2.1) (State.isArrayOf_alike hZ.alike A2.2.1) A2.2.2 (own_in r1 r2 hi) (x := x) (g := mkF m pc ls (.double x :: .int (Int32.ofNat i) :: .ref a :: st)) rfl rfl (hb A.2.2 hd)
  rw [q] at X' st'
  exact ⟨_, _, ⟨X', A.2⟩, rfl, ⟨cl, A2.1, A2.plain, by rw [r1]; exact hi, by rw [← eT]; rfl⟩, fun k => Go.of st' k⟩
theorem s_iastore (A : Ax p l e R s m args below meth c T locs cells slots B) (hZ : Z.Warmed39 s.vm) (eT : T.heap = h) {j : Int32} {i : Nat} {x : Int32} (F : Dar Z h a .int n f) (hi : i < n) (hj : j = Int32.ofNat i) (hd : decode B pc = .ok (.iastore, 1)) (hp : pc + 1 = pc') :
    ∃ T' h', Ax p l e R s m args below meth c T' (locs ++ [⟨a, i⟩]) cells slots B ∧ T'.heap = h' ∧ Wr h h' a i (.int x) ∧ ∀ {P : State → Outcome → Prop}, Go p e below P T' (mkF m pc' ls st) → Go p e below P T (mkF m pc ls (.int x :: .int j :: .ref a :: st)) := by
  subst hp hj
  obtain ⟨cl, A2, r1, r2, r3⟩ := F
  have q := (own_clamp (i := i) (by omega)).1
  obtain ⟨T', h', X', e', W, st'⟩ := stI A.1 A.2.1 hZ eT A2 (own_in r1 r2 hi) (x := x) (g := mkF m pc ls (.int x :: .int (Int32.ofNat i) :: .ref a :: st)) rfl rfl (hb A.2.2 hd)
  rw [q] at X' W
  exact ⟨_, _, ⟨X', A.2⟩, e', W, fun k => Go.of st' k⟩
theorem s_zastore (A : Ax p l e R s m args below meth c T locs cells slots B) (hZ : Z.Warmed39 s.vm) (eT : T.heap = h) {j : Int32} {i : Nat} {x : Int32} (F : Dar Z h a .boolean n f) (hi : i < n) (hj : j = Int32.ofNat i) (hx1 : narrow .boolean (.int x) = .int x) (hd : decode B pc = .ok (.bastore, 1)) (hp : pc + 1 = pc') :
    ∃ T' h', Ax p l e R s m args below meth c T' (locs ++ [⟨a, i⟩]) cells slots B ∧ T'.heap = h' ∧ Wr h h' a i (.int x) ∧ ∀ {P : State → Outcome → Prop}, Go p e below P T' (mkF m pc' ls st) → Go p e below P T (mkF m pc ls (.int x :: .int j :: .ref a :: st)) := by
  subst hp hj
  obtain ⟨cl, A2, r1, r2, r3⟩ := F
  have q := (own_clamp (i := i) (by omega)).1
  obtain ⟨T', h', X', e', W, st'⟩ := stZ A.1 A.2.1 hZ eT A2 (own_in r1 r2 hi) (x := x) (g := mkF m pc ls (.int x :: .int (Int32.ofNat i) :: .ref a :: st)) rfl rfl (hb A.2.2 hd)
  have q2 : nar .boolean x = x := Value.int.inj hx1
  rw [q] at X' W; rw [q2] at W
  exact ⟨_, _, ⟨X', A.2⟩, e', W, fun k => Go.of st' k⟩
end own_go
/-! bounds on computed doubles: z is the value in units of the least double -/
def own_z (x : UInt64) : Int := FP.Core.zval FP.Core.b64 (FP.Core.val64 x)
def own_o : Nat := FP.Core.one64
theorem own_zi {i : Int} {x : UInt64} (h : FP.Core.DInt i x) : own_z x = i * (own_o : Int) := FP.Core.DInt_zval h
theorem own_op : 0 < own_o := FP.Core.one64_pos
theorem own_cz {x y : UInt64} (hx : FP.Core.DFin x) (hy : FP.Core.DFin y) : FP.dcmp x y = some (compare (own_z x) (own_z y)) := FP.Core.dcmp_zval hx.ne_nan hy.ne_nan
theorem own_top {x : UInt64} (h : FP.Core.DFin x) : own_z x < ((FP.Core.b64.tails * 2 ^ (FP.Core.b64.exps - 2) : Nat) : Int) ∧ -((FP.Core.b64.tails * 2 ^ (FP.Core.b64.exps - 2) : Nat) : Int) < own_z x := by
  have q := FP.Core.DFin.zval_lt h
  show FP.Core.signed _ _ < _ ∧ _ < FP.Core.signed _ _
  cases FP.Core.sgn (FP.Core.val64 x) <;> simp only [FP.Core.signed, if_true, Bool.false_eq_true, if_false] <;> omega
/-- what is no NaN and lies between two finite doubles is finite -/
theorem own_sq {x V W : UInt64} (hn : FP.Core.val64 x ≠ .nan) (hV : FP.Core.DFin V) (hW : FP.Core.DFin W) (h1 : own_z W ≤ own_z x) (h2 : own_z x ≤ own_z V) : FP.Core.DFin x := by
  have a := (own_top hV).1
  have b := (own_top hW).2
  have e : own_z x = FP.Core.signed (FP.Core.sgn (FP.Core.val64 x)) (FP.Core.zmag FP.Core.b64 (FP.Core.val64 x)) := rfl
  cases h : FP.Core.val64 x with
  | nan => exact absurd h hn
  | fin s c q => exact ⟨s, c, q, h⟩
  | inf s =>
    rw [h] at e
    have e2 : own_z x = FP.Core.signed s (FP.Core.b64.tails * 2 ^ (FP.Core.b64.exps - 2)) := e
    exfalso
    cases s <;> simp only [FP.Core.signed, if_true, Bool.false_eq_true, if_false] at e2 <;> omega
theorem own_nn {x : UInt64} (h : FP.Core.dIsNaN x = false) : FP.Core.val64 x ≠ .nan := (FP.Core.notNaN_iff x).mp h
theorem own_addz {x y V W : UInt64} (hx : FP.Core.DFin x) (hy : FP.Core.DFin y) (hV : FP.Core.DFin V) (hW : FP.Core.DFin W) (h1 : own_z W ≤ own_z x + own_z y) (h2 : own_z x + own_z y ≤ own_z V) :
    FP.Core.DFin (FP.dadd x y) ∧ own_z W ≤ own_z (FP.dadd x y) ∧ own_z (FP.dadd x y) ≤ own_z V := by
  have e : own_z (FP.dadd x y) = FP.Core.zval FP.Core.b64 (FP.Core.round FP.Core.b64 (FP.Core.exactSum (FP.Core.val64 x) (FP.Core.val64 y))) := congrArg _ (FP.Core.val64_dadd x y)
  have g1 : own_z W ≤ own_z (FP.dadd x y) := by rw [e]; exact FP.Core.sum_ge FP.Core.good_b64 hx hy (FP.Core.val64_fits _) (FP.Core.val64_fits _) (FP.Core.val64_fits _) hW.ne_nan h1
  have g2 : own_z (FP.dadd x y) ≤ own_z V := by rw [e]; exact FP.Core.sum_le FP.Core.good_b64 hx hy (FP.Core.val64_fits _) (FP.Core.val64_fits _) (FP.Core.val64_fits _) hV.ne_nan h2
  exact ⟨own_sq (own_nn (FP.Core.dadd_out hx.notNaN hy)) hV hW g1 g2, g1, g2⟩
theorem own_pos {x : UInt64} {s : Bool} {c : Nat} {q : Int} (e : FP.Core.val64 x = .fin s c q) (h : 0 ≤ own_z x) : own_z x = (FP.Core.zmag FP.Core.b64 (.fin s c q) : Int) := by
  have r : own_z x = FP.Core.signed s (FP.Core.zmag FP.Core.b64 (.fin s c q)) := by show FP.Core.zval _ (FP.Core.val64 x) = _; rw [e]; rfl
  cases s
  · exact r
  · simp only [FP.Core.signed, if_true] at r
    omega
theorem own_neg0 {x : UInt64} {c : Nat} {q : Int} (e : FP.Core.val64 x = .fin true c q) (h : 0 ≤ own_z x) : own_z x = 0 := by
  have r : own_z x = FP.Core.signed true (FP.Core.zmag FP.Core.b64 (.fin true c q)) := by show FP.Core.zval _ (FP.Core.val64 x) = _; rw [e]; rfl
  simp only [FP.Core.signed, if_true] at r
  omega
theorem own_sg (s : Bool) (n : Nat) : FP.Core.signed s n ≤ n := by cases s <;> simp only [FP.Core.signed, if_true, Bool.false_eq_true, if_false] <;> omega
theorem own_rr {x : UInt64} {s : Bool} {A B : Nat} {e e0 : Int} {V : UInt64} (ex : FP.Core.val64 x = FP.Core.roundRatio FP.Core.b64 s A B e) (hB : 0 < B) (h0 : e0 ≤ FP.Core.b64.qmin) (h0e : e0 ≤ e) (hV : FP.Core.DFin V) (pV : 0 ≤ own_z V)
    (hs : s = true → A = 0) (h : FP.Core.inUnits A e e0 ≤ FP.Core.zmag FP.Core.b64 (FP.Core.val64 V) * 2 ^ (FP.Core.b64.qmin - e0).toNat * B) : FP.Core.DFin x ∧ 0 ≤ own_z x ∧ own_z x ≤ own_z V := by
  have le := FP.Core.zmag_roundRatio_le FP.Core.good_b64 (s := s) hB (FP.Core.val64_fits V) hV.ne_nan h0 h0e h
  have eV : own_z V = (FP.Core.zmag FP.Core.b64 (FP.Core.val64 V) : Int) := by
    obtain ⟨a, b, c, q⟩ := hV
    rw [own_pos q pV, q]
  have ez : own_z x = FP.Core.signed s (FP.Core.zmag FP.Core.b64 (FP.Core.roundRatio FP.Core.b64 s A B e)) := by
    show FP.Core.zval _ (FP.Core.val64 x) = _
    rw [ex]; show FP.Core.signed (FP.Core.sgn _) _ = _; rw [FP.Core.sgn_roundRatio]
  have g : 0 ≤ own_z x ∧ own_z x ≤ own_z V := by
    cases s
    · simp only [FP.Core.signed, Bool.false_eq_true, if_false] at ez
      omega
    · have hA := hs rfl
      subst hA
      have le0 := FP.Core.zmag_roundRatio_le FP.Core.good_b64 (s := true) (A := 0) (e := e) (e0 := e0) hB (FP.Core.zero_fits FP.Core.good_b64 false) (by simp) h0 h0e (by simp [FP.Core.inUnits])
      have z0 : FP.Core.zmag FP.Core.b64 (.fin false 0 FP.Core.b64.qmin) = 0 := by simp [FP.Core.zmag, FP.Core.inUnits]
      rw [z0] at le0
      simp only [FP.Core.signed, if_true] at ez
      omega
  have z0 : FP.Core.DFin (0 : UInt64) := ⟨false, 0, _, FP.Core.val64_zero⟩
  have z1 : own_z (0 : UInt64) = 0 := FP.Core.zval64_zero
  exact ⟨own_sq (by rw [ex]; exact FP.Core.roundRatio_ne_nan _ _ _ _ _) hV z0 (by rw [z1]; exact g.1) g.2, g.1, g.2⟩
theorem own_mulz {x y V : UInt64} (hx : FP.Core.DFin x) (hy : FP.Core.DFin y) (hV : FP.Core.DFin V) (px : 0 ≤ own_z x) (py : 0 ≤ own_z y) (pV : 0 ≤ own_z V) (h : own_z x * own_z y ≤ own_z V * (own_o : Int)) :
    FP.Core.DFin (FP.dmul x y) ∧ 0 ≤ own_z (FP.dmul x y) ∧ own_z (FP.dmul x y) ≤ own_z V := by
  obtain ⟨s, c, q, ex⟩ := hx
  obtain ⟨t, d, r, ey⟩ := hy
  have fx := FP.Core.val64_fits x
  have fy := FP.Core.val64_fits y
  rw [ex] at fx
  rw [ey] at fy
  obtain ⟨p1, p2, p3⟩ := FP.Core.product_units fx fy
  have e : FP.Core.val64 (FP.dmul x y) = FP.Core.roundRatio FP.Core.b64 (s != t) (c * d) 1 (q + r) := by
    refine (FP.Core.val64_dmul x y).trans ?_
    rw [ex, ey, p1]; rfl
  have zx := own_pos ex px
  have zy := own_pos ey py
  have qn := FP.Core.qmin_neg FP.Core.good_b64
  have eV : own_z V = (FP.Core.zmag FP.Core.b64 (FP.Core.val64 V) : Int) := by
    obtain ⟨a, b, c, q⟩ := hV
    rw [own_pos q pV, q]
  refine own_rr (e0 := 2 * FP.Core.b64.qmin) e (by decide) (by omega) p2 hV pV (fun hs => ?_) ?_
  · have f1 := fx.2.1
    have f2 := fy.2.1
    cases s <;> cases t <;> simp at hs
    · have z := own_neg0 ey py
      rw [z] at zy
      have : FP.Core.zmag FP.Core.b64 (.fin true d r) = 0 := by omega
      have w : d * 2 ^ (r - FP.Core.b64.qmin).toNat = 0 := this
      have := Nat.two_pow_pos (r - FP.Core.b64.qmin).toNat
      rcases Nat.mul_eq_zero.mp w with k | k
      · rw [k, Nat.mul_zero]
      · omega
    · have z := own_neg0 ex px
      rw [z] at zx
      have : FP.Core.zmag FP.Core.b64 (.fin true c q) = 0 := by omega
      have w : c * 2 ^ (q - FP.Core.b64.qmin).toNat = 0 := this
      have := Nat.two_pow_pos (q - FP.Core.b64.qmin).toNat
      rcases Nat.mul_eq_zero.mp w with k | k
      · rw [k, Nat.zero_mul]
      · omega
  · rw [p3, Nat.mul_one, show FP.Core.b64.qmin - 2 * FP.Core.b64.qmin = -FP.Core.b64.qmin by omega, FP.Core.pow_qmin64]
    rw [zx, zy, eV] at h
    exact_mod_cast h
theorem own_divz {x y V : UInt64} (hx : FP.Core.DFin x) (hy : FP.Core.DFin y) (hV : FP.Core.DFin V) (px : 0 ≤ own_z x) (py : 0 < own_z y) (pV : 0 ≤ own_z V) (h : own_z x * (own_o : Int) ≤ own_z V * own_z y) :
    FP.Core.DFin (FP.ddiv x y) ∧ 0 ≤ own_z (FP.ddiv x y) ∧ own_z (FP.ddiv x y) ≤ own_z V := by
  obtain ⟨s, c, q, ex⟩ := hx
  obtain ⟨t, d, r, ey⟩ := hy
  have fx := FP.Core.val64_fits x
  have fy := FP.Core.val64_fits y
  rw [ex] at fx
  rw [ey] at fy
  have zx := own_pos ex px
  have zy := own_pos ey (Int.le_of_lt py)
  have ht : t = false := by
    cases t
    · rfl
    · have := own_neg0 ey (Int.le_of_lt py); omega
  subst ht
  have hd : d ≠ 0 := by
    intro k
    subst k
    have : FP.Core.zmag FP.Core.b64 (.fin false 0 r) = 0 := by simp [FP.Core.zmag, FP.Core.inUnits]
    omega
  have e : FP.Core.val64 (FP.ddiv x y) = FP.Core.roundRatio FP.Core.b64 (s != false) c d (q - r) := by
    refine (FP.Core.val64_ddiv x y).trans ?_
    rw [ex, ey]
    show (if d = 0 then _ else _) = _
    rw [if_neg hd]
  have qn := FP.Core.qmin_neg FP.Core.good_b64
  have eV : own_z V = (FP.Core.zmag FP.Core.b64 (FP.Core.val64 V) : Int) := by
    obtain ⟨a, b, c, q⟩ := hV
    rw [own_pos q pV, q]
  have f1 := fx.2.1
  have f2 := fy.2.1
  refine own_rr (e0 := 2 * FP.Core.b64.qmin - r) e (Nat.pos_of_ne_zero hd) (by omega) (by omega) hV pV (fun hs => ?_) ?_
  · cases s
    · simp at hs
    · have z := own_neg0 ex px
      rw [z] at zx
      have : FP.Core.zmag FP.Core.b64 (.fin true c q) = 0 := by omega
      have w : c * 2 ^ (q - FP.Core.b64.qmin).toNat = 0 := this
      have := Nat.two_pow_pos (q - FP.Core.b64.qmin).toNat
      rcases Nat.mul_eq_zero.mp w with k | k
      · exact k
      · omega
  · have e1 : FP.Core.inUnits c (q - r) (2 * FP.Core.b64.qmin - r) = FP.Core.zmag FP.Core.b64 (.fin s c q) * FP.Core.one64 := by
      show c * 2 ^ (q - r - (2 * FP.Core.b64.qmin - r)).toNat = c * 2 ^ (q - FP.Core.b64.qmin).toNat * FP.Core.one64
      rw [← FP.Core.pow_qmin64, Nat.mul_assoc, ← Nat.pow_add]
      congr 2
      omega
    have e2 : FP.Core.zmag FP.Core.b64 (FP.Core.val64 V) * 2 ^ (FP.Core.b64.qmin - (2 * FP.Core.b64.qmin - r)).toNat * d = FP.Core.zmag FP.Core.b64 (FP.Core.val64 V) * FP.Core.zmag FP.Core.b64 (.fin false d r) := by
      show _ = _ * (d * 2 ^ (r - FP.Core.b64.qmin).toNat)
      rw [Nat.mul_assoc, Nat.mul_comm d]
      congr 3
      omega
    rw [e1, e2]
    rw [zx, zy, eV] at h
    exact_mod_cast h
def own_U (b : UInt64) : Prop := FP.Core.DFin b ∧ 0 ≤ own_z b ∧ own_z b ≤ (own_o : Int)
def own_A (a : UInt64) : Prop := FP.Core.DFin a ∧ 0 ≤ own_z a ∧ own_z a ≤ 1048576 * (own_o : Int)
def own_B (a : UInt64) : Nat → UInt64
  | 0 => 4607182418800017408
  | k + 1 => FP.ddiv (FP.dmul a (own_B a k)) (FP.dadd (FP.i2d (Int32.ofNat (k + 1))) (FP.dmul a (own_B a k)))
theorem own_one : own_U (4607182418800017408 : UInt64) := by
  have h := own_zi FP.Core.dint_one
  have p := own_op
  refine ⟨?_, by rw [h]; omega, by rw [h]; omega⟩
  exact (FP.Core.fin_bits _).mpr (by decide)
theorem own_step {a b : UInt64} {k : Nat} (ha : own_A a) (hb : own_U b) (h1 : 1 ≤ k) (hk : k ≤ 1000) :
    FP.Core.DFin (FP.dmul a b) ∧ FP.Core.DFin (FP.dadd (FP.i2d (Int32.ofNat k)) (FP.dmul a b)) ∧ ¬ FP.Core.DZero (FP.dadd (FP.i2d (Int32.ofNat k)) (FP.dmul a b)) ∧ own_U (FP.ddiv (FP.dmul a b) (FP.dadd (FP.i2d (Int32.ofNat k)) (FP.dmul a b))) := by
  obtain ⟨fa, pa, la⟩ := ha
  obtain ⟨fb, pb, lb⟩ := hb
  have po := own_op
  obtain ⟨ft, pt, lt⟩ := own_mulz fa fb fa pa pb pa (Int.mul_le_mul_of_nonneg_left lb pa)
  have ik := FP.Core.i2d_int (Int32.ofNat k)
  rw [Int32.toInt_ofNat_of_lt (by omega)] at ik
  have zk := own_zi ik
  have fk : FP.Core.DFin (FP.i2d (Int32.ofNat k)) := FP.Core.i2d_fin (Int32.ofNat k)
  have i30 := FP.Core.i2d_int 1073741824
  have z30 := own_zi i30
  have e30 : (1073741824 : Int32).toInt = 1073741824 := rfl
  rw [e30] at z30
  have kb : (k : Int) * (own_o : Int) ≤ 1000 * (own_o : Int) := Int.mul_le_mul_of_nonneg_right (by omega) (by omega)
  have kb1 : 1 * (own_o : Int) ≤ (k : Int) * (own_o : Int) := Int.mul_le_mul_of_nonneg_right (by omega) (by omega)
  change own_z (FP.i2d (Int32.ofNat k)) = _ at zk
  have kk : own_z (FP.i2d (Int32.ofNat k)) = (k : Int) * (own_o : Int) := zk
  obtain ⟨fu, lu, -⟩ := own_addz (V := FP.i2d 1073741824) (W := FP.i2d (Int32.ofNat k)) fk ft (FP.Core.i2d_fin _) fk (by omega) (by rw [show own_z (FP.i2d 1073741824) = 1073741824 * (own_o : Int) from z30, kk]; omega)
  obtain ⟨-, lv, -⟩ := own_addz (V := FP.i2d 1073741824) (W := FP.dmul a b) fk ft (FP.Core.i2d_fin _) ft (by omega) (by rw [show own_z (FP.i2d 1073741824) = 1073741824 * (own_o : Int) from z30, kk]; omega)
  have hu : 0 < own_z (FP.dadd (FP.i2d (Int32.ofNat k)) (FP.dmul a b)) := by omega
  refine ⟨ft, fu, fun q => ?_, ?_⟩
  · have := FP.Core.DZero.zval q
    change own_z (FP.dadd (FP.i2d (Int32.ofNat k)) (FP.dmul a b)) = 0 at this
    omega
  · have o1 := own_one
    have z1 := own_zi FP.Core.dint_one
    obtain ⟨f3, p3, l3⟩ := own_divz ft fu o1.1 pt hu o1.2.1 (by rw [z1, Int.one_mul, Int.mul_comm]; exact Int.mul_le_mul_of_nonneg_left lv (by omega))
    exact ⟨f3, p3, by rw [z1, Int.one_mul] at l3; exact l3⟩
theorem own_BU {a : UInt64} (ha : own_A a) : ∀ k : Nat, k ≤ 1000 → own_U (own_B a k)
  | 0, _ => own_one
  | k + 1, h => (own_step ha (own_BU ha k (by omega)) (k := k + 1) (by omega) h).2.2.2
theorem own_Uf {b : UInt64} (h : own_U b) : Fin64 b := fin64_core.mpr h.1
theorem own_Af {b : UInt64} (h : own_A b) : Fin64 b := fin64_core.mpr h.1
theorem own_n1 {a b : UInt64} (ha : own_A a) (hb : own_U b) : NoNaN64 (FP.dmul a b) := dmul_out (own_Af ha) (own_Uf hb)
theorem own_n2 {a b : UInt64} {k : Nat} (ha : own_A a) (hb : own_U b) (h1 : 1 ≤ k) (hk : k ≤ 1000) : NoNaN64 (FP.dadd (FP.i2d (Int32.ofNat k)) (FP.dmul a b)) := (fin64_core.mpr (own_step ha hb h1 hk).2.1).noNaN
theorem own_n3 {a b : UInt64} {k : Nat} (ha : own_A a) (hb : own_U b) (h1 : 1 ≤ k) (hk : k ≤ 1000) : NoNaN64 (FP.ddiv (FP.dmul a b) (FP.dadd (FP.i2d (Int32.ofNat k)) (FP.dmul a b))) := (own_Uf (own_step ha hb h1 hk).2.2.2).noNaN
theorem own_dint0 : FP.Core.DInt 0 (0 : UInt64) := by
  have q := FP.Core.i2d_int 0
  have e : FP.Core.i2d 0 = (0 : UInt64) := by decide +kernel
  rw [e] at q; exact q
theorem own_f0 : FP.Core.DFin (0 : UInt64) := (FP.Core.fin_bits _).mpr (by decide)
theorem own_cle {x y : UInt64} (hx : FP.Core.DFin x) (hy : FP.Core.DFin y) (h : own_z x ≤ own_z y) : FP.dcmp x y = some .lt ∨ FP.dcmp x y = some .eq := by
  rw [own_cz hx hy]
  rcases Int.lt_or_eq_of_le h with q | q
  · exact Or.inl (congrArg some ((FP.Core.compare_lt_iff _ _).mpr q))
  · exact Or.inr (congrArg some ((FP.Core.compare_eq_iff _ _).mpr q))
theorem own_cge {x y : UInt64} (hx : FP.Core.DFin x) (hy : FP.Core.DFin y) (h : own_z y ≤ own_z x) : FP.dcmp x y = some .gt ∨ FP.dcmp x y = some .eq := by
  rw [own_cz hx hy]
  rcases Int.lt_or_eq_of_le h with q | q
  · exact Or.inl (congrArg some ((FP.Core.compare_gt_iff _ _).mpr q))
  · exact Or.inr (congrArg some ((FP.Core.compare_eq_iff _ _).mpr q.symm))
theorem own_z0 : own_z (0 : UInt64) = 0 := FP.Core.zval64_zero
theorem own_z1 : own_z (4607182418800017408 : UInt64) = (own_o : Int) := by rw [own_zi FP.Core.dint_one, Int.one_mul]
theorem own_succ (i : Nat) : Int32.ofNat i + (1 : Int32) = Int32.ofNat (i + 1) := by
  show Int32.ofNat i + Int32.ofNat 1 = Int32.ofNat (i + 1)
  rw [Int32.ofNat_add]
theorem own_olt {i n : Nat} (h : i < n) (hn : n < 2147483648) : Int32.ofNat i < Int32.ofNat n := by
  rw [Int32.lt_iff_toInt_lt, Int32.toInt_ofNat_of_lt (by omega), Int32.toInt_ofNat_of_lt hn]; omega
theorem own_onl {i n : Nat} (h : n ≤ i) (hn : i < 2147483648) : ¬ Int32.ofNat i < Int32.ofNat n := by
  rw [Int32.lt_iff_toInt_lt, Int32.toInt_ofNat_of_lt hn, Int32.toInt_ofNat_of_lt (by omega)]; omega
theorem own_lti {i n : Nat} (hi : i < 2147483648) (hn : n < 2147483648) (h : Int32.ofNat i < Int32.ofNat n) : i < n := by
  rw [Int32.lt_iff_toInt_lt, Int32.toInt_ofNat_of_lt hi, Int32.toInt_ofNat_of_lt hn] at h; omega
theorem own_ge0 {x : UInt64} (h : own_A x) : oGe (FP.dcmp x (0 : UInt64)) := own_cge h.1 own_f0 (by rw [own_z0]; exact h.2.1)
theorem own_inf {x : UInt64} (h : own_A x) : FP.dcmp x (9218868437227405312 : UInt64) = some .lt := (FP.Core.fin_lt_inf h.1).1
theorem d1_0 : decode prog_6_method_1_code 0 = .ok (.aload_n 0, 1) := by decide +kernel
theorem d1_1 : decode prog_6_method_1_code 1 = .ok (.invokespecial 1, 3) := by decide +kernel
theorem d1_4 : decode prog_6_method_1_code 4 = .ok (.aload_n 0, 1) := by decide +kernel
theorem d1_5 : decode prog_6_method_1_code 5 = .ok (.dconst 1, 1) := by decide +kernel
theorem d1_6 : decode prog_6_method_1_code 6 = .ok (.putfield 7, 3) := by decide +kernel
theorem d1_9 : decode prog_6_method_1_code 9 = .ok (.dload_n 1, 1) := by decide +kernel
theorem d1_10 : decode prog_6_method_1_code 10 = .ok (.dconst 0, 1) := by decide +kernel
theorem d1_11 : decode prog_6_method_1_code 11 = .ok (.dcmp .l, 1) := by decide +kernel
theorem d1_12 : decode prog_6_method_1_code 12 = .ok (.ifCond .lt 11, 3) := by decide +kernel
theorem d1_15 : decode prog_6_method_1_code 15 = .ok (.dload_n 1, 1) := by decide +kernel
theorem d1_16 : decode prog_6_method_1_code 16 = .ok (.ldc2_w 15, 3) := by decide +kernel
theorem d1_19 : decode prog_6_method_1_code 19 = .ok (.dcmp .g, 1) := by decide +kernel
theorem d1_20 : decode prog_6_method_1_code 20 = .ok (.ifCond .lt 17, 3) := by decide +kernel
theorem d1_23 : decode prog_6_method_1_code 23 = .ok (.new 17, 3) := by decide +kernel
theorem d1_26 : decode prog_6_method_1_code 26 = .ok (.dup, 1) := by decide +kernel
theorem d1_27 : decode prog_6_method_1_code 27 = .ok (.dload_n 1, 1) := by decide +kernel
theorem d1_28 : decode prog_6_method_1_code 28 = .ok (.invokedynamic 19, 5) := by decide +kernel
theorem d1_33 : decode prog_6_method_1_code 33 = .ok (.invokespecial 23, 3) := by decide +kernel
theorem d1_36 : decode prog_6_method_1_code 36 = .ok (.athrow, 1) := by decide +kernel
theorem d1_37 : decode prog_6_method_1_code 37 = .ok (.aload_n 0, 1) := by decide +kernel
theorem d1_38 : decode prog_6_method_1_code 38 = .ok (.dload_n 1, 1) := by decide +kernel
theorem d1_39 : decode prog_6_method_1_code 39 = .ok (.putfield 26, 3) := by decide +kernel
theorem d1_42 : decode prog_6_method_1_code 42 = .ok (.return_, 1) := by decide +kernel
theorem pn_0 : plainName "com/example/retinue/retinue/ErlangB" = true := by first | (simp [plainName, overriddenIn]; done) | decide +kernel
theorem ef1 (m : MethodId) (a1 : Addr) (x : UInt64) (u0 : Value) (u1 : Value) (u2 : Value) : entryFrame m #[(.ref a1), (.double x)] 3 = mkF m 0 #[.val (.ref a1), .val (.double x), .second] [] := by first | (simp [entryFrame, mkF, argsToLocals, Value.category]; done) | rfl
def Q1 (Z : State) (a1 : Addr) (x : UInt64) (u0 : Value) (u1 : Value) (u2 : Value) (h0 : Heap) (n0 : Nat) (v : Option Value) (h : Heap) (L : List Loc) : Prop := v = none ∧ Fr n0 L ∧ Keep h0 h [a1] ∧ Fld Z h a1 "com/example/retinue/retinue/ErlangB" "blocking" "D" (.double (4607182418800017408 : UInt64)) ∧ Fld Z h a1 "com/example/retinue/retinue/ErlangB" "load" "D" (.double x) ∧ Fld Z h a1 "com/example/retinue/retinue/ErlangB" "servers" "I" u2
set_option maxRecDepth 65536 in
set_option maxHeartbeats 40000000 in
theorem rm1 (l : Launch) (Z : State) (a0 : Array Value) (hw : ∀ d ∈ tables_1, d.before a0 Z = true) (ws : List Jvm.Cond) (a1 : Addr) (x : UInt64) (u0 : Value) (u1 : Value) (u2 : Value) (h0 : Heap) (n0 : Nat) (Z0 : n0 ≤ h0.size) (E2 : Exa Z h0 a1 "com/example/retinue/retinue/ErlangB") (F3 : Fld Z h0 a1 "com/example/retinue/retinue/ErlangB" "blocking" "D" u0) (F4 : Fld Z h0 a1 "com/example/retinue/retinue/ErlangB" "load" "D" u1) (F5 : Fld Z h0 a1 "com/example/retinue/retinue/ErlangB" "servers" "I" u2) (g6 : n0 ≤ a1) (hA : own_A x) :
    MetFree l (⟨"com/example/retinue/retinue/ErlangB", "<init>", "(D)V"⟩ : MethodName) (head1 (Jvm.Cond.code (⟨"com/example/retinue/retinue/ErlangB", "<init>", "(D)V"⟩ : MethodName) prog_6_method_1_code 3 none :: ws) ({ frames := 1, cells := 0, slots := 0, locals := 12 } : Room)) (fun a U => a = #[(.ref a1), (.double x)] ∧ Z.Warmed39 U.vm ∧ U.heap = h0) (fun _ _ _ _ _ => True) (fun _ U o U' => ∃ v L, o = .returned v ∧ Q1 Z a1 x u0 u1 u2 h0 n0 v U'.heap L ∧ FrameEnd U o U' L 0 0) := by
  refine MetFree.of_bodySF (plainFor_of_name pn_0) hisR ?_
  intro p e s m args below meth c s₁ Bd hml0 hP hK
  obtain ⟨rfl, hZ, hh⟩ := hP
  have hx := Bd.exec
  have hby := Bd.bytes
  have hml : c.maxLocals = 3 := hml0
  have hown : s.vm.findClass "com/example/retinue/retinue/ErlangB" = some m.cls := findClass_of_methodNamed Bd.named
  have hnm := (name_of_methodNamed Bd.named Bd.method).1
  have X0 : Stand p l e ({ frames := 1, cells := 0, slots := 0, locals := 12 } : Room) s m #[(.ref a1), (.double x)] below meth c s₁ [] 0 0 := Stand.of_body Bd
  have e0 : s₁.heap = h0 := by rw [← hh, Bd.state]; rfl
  have N0 := Fr.nil n0
  have A0 := (⟨X0, hx, hby⟩ : Ax _ _ _ _ _ _ _ _ _ _ _ _ _ _ _)
  show Go p e below (fun U o => ∃ v L, o = .returned v ∧ Q1 Z a1 x u0 u1 u2 h0 n0 v U.heap L ∧ FrameEnd s o U L 0 0) s₁ (entryFrame m #[(.ref a1), (.double x)] 3)
  refine Go.cast (ef1 m a1 x u0 u1 u2) ?_
  refine g_aloadN A0 d1_0 rfl rfl (pc' := 1) rfl ?_
  obtain ⟨T7, X7, e7, st7⟩ := initO X0 hx hZ hown (hw _ (List.mem_of_getElem? (i := 8) rfl)) (hw _ (List.mem_of_getElem? (i := 9) rfl)) (hw _ (List.mem_of_getElem? (i := 10) rfl)) e0 (g := (mkF m 1 #[.val (.ref a1), .val (.double x), .second] [(.ref a1)])) rfl (by rw [hml]; rfl) rfl (hb hby d1_1) (by decide) (W := 0) (by show 2 * 0 + _ ≤ _; exact Nat.le_of_eq rfl) (by decide)
  refine Go.of (g' := (mkF m 4 #[.val (.ref a1), .val (.double x), .second] [])) st7 ?_
  have A8 := (⟨X7, hx, hby⟩ : Ax _ _ _ _ _ _ _ _ _ _ _ _ _ _ _)
  refine g_aloadN A8 d1_4 rfl rfl (pc' := 5) rfl ?_
  refine g_dconst1 A8 d1_5 (pc' := 6) rfl ?_
  obtain ⟨T9, h9, X9, e9, W9, st9⟩ := putF X7 hx hZ hown (host := "") (Or.inl (hw _ (List.mem_of_getElem? (i := 11) rfl))) Via.refl e7 F3 E2 (Or.inl (hw _ (List.mem_of_getElem? (i := 12) rfl))) (hw _ (List.mem_of_getElem? (i := 3) rfl)) (ty := .double) (by decide) rfl rfl (g := (mkF m 6 #[.val (.ref a1), .val (.double x), .second] [(.double (4607182418800017408 : UInt64)), (.ref a1)])) rfl rfl (hb hby d1_6)
  have N10 := Fr.snoc X9 N0 g6
  have K11 : Keep h0 h9 [a1] := (Keep.refl h0 [a1]).wr W9 (Or.inl (List.mem_of_getElem? (i := 0) rfl))
  have E12 : Exa Z h9 a1 "com/example/retinue/retinue/ErlangB" := Exa.wr W9 E2
  have F13 : Fld Z h9 a1 "com/example/retinue/retinue/ErlangB" "load" "D" u1 := Fld.other W9 F4 (Or.inr (slot_ne (Or.inr (hw _ (List.mem_of_getElem? (i := 15) rfl))) (Or.inl (hw _ (List.mem_of_getElem? (i := 12) rfl))) (by decide) (t := .double) (t' := .double) (by decide) (by decide)))
  have F14 : Fld Z h9 a1 "com/example/retinue/retinue/ErlangB" "servers" "I" u2 := Fld.other W9 F5 (Or.inr (slot_ne (Or.inl (hw _ (List.mem_of_getElem? (i := 22) rfl))) (Or.inl (hw _ (List.mem_of_getElem? (i := 12) rfl))) (by decide) (t := .int) (t' := .double) (by decide) (by decide)))
  have F15 : Fld Z h9 a1 "com/example/retinue/retinue/ErlangB" "blocking" "D" (.double (4607182418800017408 : UInt64)) := Fld.same W9 F3
  have Z16 : n0 ≤ h9.size := by rw [W9.size]; exact Z0
  refine Go.of (g' := (mkF m 9 #[.val (.ref a1), .val (.double x), .second] [])) st9 ?_
  have A17 := (⟨X9, hx, hby⟩ : Ax _ _ _ _ _ _ _ _ _ _ _ _ _ _ _)
  refine g_dloadN A17 d1_9 rfl (pc' := 10) rfl ?_
  refine g_dconst0 A17 d1_10 (pc' := 11) rfl ?_
  refine g_dcmp A17 d1_11 (pc' := 12) rfl ?_
  refine g_ifN A17 d1_12 (d_l_lt_f (own_ge0 hA)) (pc' := 15) rfl ?_
  refine g_dloadN A17 d1_15 rfl (pc' := 16) rfl ?_
  refine g_ldcD A17 hZ hown (hw _ (List.mem_of_getElem? (i := 13) rfl)) d1_16 (pc' := 19) rfl ?_
  refine g_dcmp A17 d1_19 (pc' := 20) rfl ?_
  refine g_ifY A17 d1_20 (d_g_lt_t (own_inf hA)) (pc' := 37) rfl ?_
  refine g_aloadN A17 d1_37 rfl rfl (pc' := 38) rfl ?_
  refine g_dloadN A17 d1_38 rfl (pc' := 39) rfl ?_
  obtain ⟨T18, h18, X18, e18, W18, st18⟩ := putF X9 hx hZ hown (host := "") (Or.inl (hw _ (List.mem_of_getElem? (i := 14) rfl))) Via.refl e9 F13 E12 (Or.inr ⟨(hw _ (List.mem_of_getElem? (i := 15) rfl)), rfl, hnm⟩) (hw _ (List.mem_of_getElem? (i := 3) rfl)) (ty := .double) (by decide) rfl rfl (g := (mkF m 39 #[.val (.ref a1), .val (.double x), .second] [(.double x), (.ref a1)])) rfl rfl (hb hby d1_39)
  have N19 := Fr.snoc X18 N10 g6
  have K20 : Keep h0 h18 [a1] := K11.wr W18 (Or.inl (List.mem_of_getElem? (i := 0) rfl))
  have E21 : Exa Z h18 a1 "com/example/retinue/retinue/ErlangB" := Exa.wr W18 E12
  have F22 : Fld Z h18 a1 "com/example/retinue/retinue/ErlangB" "servers" "I" u2 := Fld.other W18 F14 (Or.inr (slot_ne (Or.inl (hw _ (List.mem_of_getElem? (i := 22) rfl))) (Or.inr (hw _ (List.mem_of_getElem? (i := 15) rfl))) (by decide) (t := .int) (t' := .double) (by decide) (by decide)))
  have F23 : Fld Z h18 a1 "com/example/retinue/retinue/ErlangB" "blocking" "D" (.double (4607182418800017408 : UInt64)) := Fld.other W18 F15 (Or.inr (slot_ne (Or.inl (hw _ (List.mem_of_getElem? (i := 12) rfl))) (Or.inr (hw _ (List.mem_of_getElem? (i := 15) rfl))) (by decide) (t := .double) (t' := .double) (by decide) (by decide)))
  have F24 : Fld Z h18 a1 "com/example/retinue/retinue/ErlangB" "load" "D" (.double x) := Fld.same W18 F13
  have Z25 : n0 ≤ h18.size := by rw [W18.size]; exact Z16
  refine Go.of (g' := (mkF m 42 #[.val (.ref a1), .val (.double x), .second] [])) st18 ?_
  have A26 := (⟨X18, hx, hby⟩ : Ax _ _ _ _ _ _ _ _ _ _ _ _ _ _ _)
  exact g_retV (Q := Q1 Z a1 x u0 u1 u2 h0 n0) A26 d1_42 Bd.notSynchronized Bd.returns (by decide) (by decide) (by rw [e18]; exact ⟨rfl, N19, K20, F23, F24, F22⟩)
theorem d3_0 : decode prog_6_method_3_code 0 = .ok (.iload_n 1, 1) := by decide +kernel
theorem d3_1 : decode prog_6_method_3_code 1 = .ok (.ifCond .ge 17, 3) := by decide +kernel
theorem d3_4 : decode prog_6_method_3_code 4 = .ok (.new 17, 3) := by decide +kernel
theorem d3_7 : decode prog_6_method_3_code 7 = .ok (.dup, 1) := by decide +kernel
theorem d3_8 : decode prog_6_method_3_code 8 = .ok (.iload_n 1, 1) := by decide +kernel
theorem d3_9 : decode prog_6_method_3_code 9 = .ok (.invokedynamic 29, 5) := by decide +kernel
theorem d3_14 : decode prog_6_method_3_code 14 = .ok (.invokespecial 23, 3) := by decide +kernel
theorem d3_17 : decode prog_6_method_3_code 17 = .ok (.athrow, 1) := by decide +kernel
theorem d3_18 : decode prog_6_method_3_code 18 = .ok (.iload_n 1, 1) := by decide +kernel
theorem d3_19 : decode prog_6_method_3_code 19 = .ok (.aload_n 0, 1) := by decide +kernel
theorem d3_20 : decode prog_6_method_3_code 20 = .ok (.getfield 32, 3) := by decide +kernel
theorem d3_23 : decode prog_6_method_3_code 23 = .ok (.if_icmp .ge 13, 3) := by decide +kernel
theorem d3_26 : decode prog_6_method_3_code 26 = .ok (.aload_n 0, 1) := by decide +kernel
theorem d3_27 : decode prog_6_method_3_code 27 = .ok (.iconst 0, 1) := by decide +kernel
theorem d3_28 : decode prog_6_method_3_code 28 = .ok (.putfield 32, 3) := by decide +kernel
theorem d3_31 : decode prog_6_method_3_code 31 = .ok (.aload_n 0, 1) := by decide +kernel
theorem d3_32 : decode prog_6_method_3_code 32 = .ok (.dconst 1, 1) := by decide +kernel
theorem d3_33 : decode prog_6_method_3_code 33 = .ok (.putfield 7, 3) := by decide +kernel
theorem d3_36 : decode prog_6_method_3_code 36 = .ok (.aload_n 0, 1) := by decide +kernel
theorem d3_37 : decode prog_6_method_3_code 37 = .ok (.getfield 32, 3) := by decide +kernel
theorem d3_40 : decode prog_6_method_3_code 40 = .ok (.iload_n 1, 1) := by decide +kernel
theorem d3_41 : decode prog_6_method_3_code 41 = .ok (.if_icmp .ge 39, 3) := by decide +kernel
theorem d3_44 : decode prog_6_method_3_code 44 = .ok (.aload_n 0, 1) := by decide +kernel
theorem d3_45 : decode prog_6_method_3_code 45 = .ok (.dup, 1) := by decide +kernel
theorem d3_46 : decode prog_6_method_3_code 46 = .ok (.getfield 32, 3) := by decide +kernel
theorem d3_49 : decode prog_6_method_3_code 49 = .ok (.iconst 1, 1) := by decide +kernel
theorem d3_50 : decode prog_6_method_3_code 50 = .ok (.iadd, 1) := by decide +kernel
theorem d3_51 : decode prog_6_method_3_code 51 = .ok (.putfield 32, 3) := by decide +kernel
theorem d3_54 : decode prog_6_method_3_code 54 = .ok (.aload_n 0, 1) := by decide +kernel
theorem d3_55 : decode prog_6_method_3_code 55 = .ok (.getfield 26, 3) := by decide +kernel
theorem d3_58 : decode prog_6_method_3_code 58 = .ok (.aload_n 0, 1) := by decide +kernel
theorem d3_59 : decode prog_6_method_3_code 59 = .ok (.getfield 7, 3) := by decide +kernel
theorem d3_62 : decode prog_6_method_3_code 62 = .ok (.dmul, 1) := by decide +kernel
theorem d3_63 : decode prog_6_method_3_code 63 = .ok (.dstore_n 2, 1) := by decide +kernel
theorem d3_64 : decode prog_6_method_3_code 64 = .ok (.aload_n 0, 1) := by decide +kernel
theorem d3_65 : decode prog_6_method_3_code 65 = .ok (.dload_n 2, 1) := by decide +kernel
theorem d3_66 : decode prog_6_method_3_code 66 = .ok (.aload_n 0, 1) := by decide +kernel
theorem d3_67 : decode prog_6_method_3_code 67 = .ok (.getfield 32, 3) := by decide +kernel
theorem d3_70 : decode prog_6_method_3_code 70 = .ok (.i2d, 1) := by decide +kernel
theorem d3_71 : decode prog_6_method_3_code 71 = .ok (.dload_n 2, 1) := by decide +kernel
theorem d3_72 : decode prog_6_method_3_code 72 = .ok (.dadd, 1) := by decide +kernel
theorem d3_73 : decode prog_6_method_3_code 73 = .ok (.ddiv, 1) := by decide +kernel
theorem d3_74 : decode prog_6_method_3_code 74 = .ok (.putfield 7, 3) := by decide +kernel
theorem d3_77 : decode prog_6_method_3_code 77 = .ok (.goto (-41), 3) := by decide +kernel
theorem d3_80 : decode prog_6_method_3_code 80 = .ok (.aload_n 0, 1) := by decide +kernel
theorem d3_81 : decode prog_6_method_3_code 81 = .ok (.getfield 7, 3) := by decide +kernel
theorem d3_84 : decode prog_6_method_3_code 84 = .ok (.dreturn, 1) := by decide +kernel
set_option maxRecDepth 65536 in
set_option maxHeartbeats 40000000 in
theorem own_loop {p : Program} {l : Launch} {e : Env} {R : Room} {s : State} {m : MethodId} {args : Array Value} {below : List Frame} {meth : Method} {c : Code} {cells slots : Nat} {P : State → Outcome → Prop} {Z : State} {a0 : Array Value} {h0 : Heap} {n0 : Nat} (a1 : Addr) (n : Nat) (x : UInt64) (hw : ∀ d ∈ tables_1, d.before a0 Z = true) (hZ : Z.Warmed39 s.vm) (hx : p.tables.exec = Jvm.exec) (hby : c.code = prog_6_method_3_code) (hml : c.maxLocals = 4) (hown : s.vm.findClass "com/example/retinue/retinue/ErlangB" = some m.cls) (hnm : meth.name = "blocking") (g_a1 : n0 ≤ a1) (hA : own_A x) (hn : n ≤ 1000)
    (done : ∀ (T : State) (h : Heap) (locs : List Loc) (sl2 sl3 : Slot) , Ax p l e R s m args below meth c T locs cells slots prog_6_method_3_code → T.heap = h → Exa Z h a1 "com/example/retinue/retinue/ErlangB" → Fld Z h a1 "com/example/retinue/retinue/ErlangB" "servers" "I" (.int (Int32.ofNat n)) → Fld Z h a1 "com/example/retinue/retinue/ErlangB" "blocking" "D" (.double (own_B x n)) → Fld Z h a1 "com/example/retinue/retinue/ErlangB" "load" "D" (.double x) → ((sl2 = .unset ∧ sl3 = .unset) ∨ ∃ t : UInt64, sl2 = .val (.double t) ∧ sl3 = .second) → Fr n0 locs → n0 ≤ h.size → Keep h0 h [a1] → Go p e below P T (mkF m 80 #[.val (.ref a1), .val (.int (Int32.ofNat n)), sl2, sl3] [])) :
    ∀ (k i : Nat) (T : State) (h : Heap) (locs : List Loc) (sl2 sl3 : Slot) , i + k = n → Ax p l e R s m args below meth c T locs cells slots prog_6_method_3_code → T.heap = h → Exa Z h a1 "com/example/retinue/retinue/ErlangB" → Fld Z h a1 "com/example/retinue/retinue/ErlangB" "servers" "I" (.int (Int32.ofNat i)) → Fld Z h a1 "com/example/retinue/retinue/ErlangB" "blocking" "D" (.double (own_B x i)) → Fld Z h a1 "com/example/retinue/retinue/ErlangB" "load" "D" (.double x) → ((sl2 = .unset ∧ sl3 = .unset) ∨ ∃ t : UInt64, sl2 = .val (.double t) ∧ sl3 = .second) → Fr n0 locs → n0 ≤ h.size → Keep h0 h [a1] → Go p e below P T (mkF m 36 #[.val (.ref a1), .val (.int (Int32.ofNat n)), sl2, sl3] []) := by
  intro k
  induction k with
  | zero =>
    intro i T h locs sl2 sl3 hi A eT E27 F28 F29 F30 hsl N1 z1 K1
    obtain rfl : i = n := by omega
    refine g_aloadN A d3_36 rfl rfl (pc' := 37) rfl ?_
    obtain ⟨T31, X31, e31, st31⟩ := getF A.1 hx hZ hown (host := "") (Or.inl (hw _ (List.mem_of_getElem? (i := 21) rfl))) Via.refl eT F28 (g := (mkF m 37 #[.val (.ref a1), .val (.int (Int32.ofNat i)), sl2, sl3] [(.ref a1)])) rfl rfl (hb hby d3_37)
    refine Go.of (g' := (mkF m 40 #[.val (.ref a1), .val (.int (Int32.ofNat i)), sl2, sl3] [(.int (Int32.ofNat i))])) st31 ?_
    have A32 := (⟨X31, hx, hby⟩ : Ax _ _ _ _ _ _ _ _ _ _ _ _ _ _ _)
    refine g_iloadN A32 d3_40 rfl (pc' := 41) rfl ?_
    refine g_icY A32 d3_41 (c2_ge_t (own_onl (Nat.le_refl _) (by omega))) (pc' := 80) rfl ?_
    exact done T31 h _ (sl2) (sl3) A32 e31 E27 F28 F29 F30 hsl N1 z1 K1
  | succ k ih =>
    intro i T h locs sl2 sl3 hi A eT E33 F34 F35 F36 hsl N1 z1 K1
    have hU := own_BU hA i (by omega)
    refine g_aloadN A d3_36 rfl rfl (pc' := 37) rfl ?_
    obtain ⟨T37, X37, e37, st37⟩ := getF A.1 hx hZ hown (host := "") (Or.inl (hw _ (List.mem_of_getElem? (i := 21) rfl))) Via.refl eT F34 (g := (mkF m 37 #[.val (.ref a1), .val (.int (Int32.ofNat n)), sl2, sl3] [(.ref a1)])) rfl rfl (hb hby d3_37)
    refine Go.of (g' := (mkF m 40 #[.val (.ref a1), .val (.int (Int32.ofNat n)), sl2, sl3] [(.int (Int32.ofNat i))])) st37 ?_
    have A38 := (⟨X37, hx, hby⟩ : Ax _ _ _ _ _ _ _ _ _ _ _ _ _ _ _)
    refine g_iloadN A38 d3_40 rfl (pc' := 41) rfl ?_
    refine g_icN A38 d3_41 (c2_ge_f (own_olt (by omega) (by omega))) (pc' := 44) rfl ?_
    refine g_aloadN A38 d3_44 rfl rfl (pc' := 45) rfl ?_
    refine g_dup A38 d3_45 rfl (pc' := 46) rfl ?_
    obtain ⟨T39, X39, e39, st39⟩ := getF X37 hx hZ hown (host := "") (Or.inl (hw _ (List.mem_of_getElem? (i := 21) rfl))) Via.refl e37 F34 (g := (mkF m 46 #[.val (.ref a1), .val (.int (Int32.ofNat n)), sl2, sl3] [(.ref a1), (.ref a1)])) rfl rfl (hb hby d3_46)
    refine Go.of (g' := (mkF m 49 #[.val (.ref a1), .val (.int (Int32.ofNat n)), sl2, sl3] [(.int (Int32.ofNat i)), (.ref a1)])) st39 ?_
    have A40 := (⟨X39, hx, hby⟩ : Ax _ _ _ _ _ _ _ _ _ _ _ _ _ _ _)
    refine g_iconst A40 d3_49 (v := (1 : Int32)) rfl (pc' := 50) rfl ?_
    refine g_iadd A40 d3_50 (pc' := 51) rfl ?_
    rw [own_succ]
    obtain ⟨T41, h41, X41, e41, W41, st41⟩ := putF X39 hx hZ hown (host := "") (Or.inl (hw _ (List.mem_of_getElem? (i := 21) rfl))) Via.refl e39 F34 E33 (Or.inl (hw _ (List.mem_of_getElem? (i := 22) rfl))) (hw _ (List.mem_of_getElem? (i := 3) rfl)) (ty := .int) (by decide) rfl rfl (g := (mkF m 51 #[.val (.ref a1), .val (.int (Int32.ofNat n)), sl2, sl3] [(.int (Int32.ofNat (i + 1))), (.ref a1)])) rfl rfl (hb hby d3_51)
    have N42 := Fr.snoc X41 N1 g_a1
    have K43 : Keep h0 h41 [a1] := K1.wr W41 (Or.inl (List.mem_of_getElem? (i := 0) rfl))
    have E44 : Exa Z h41 a1 "com/example/retinue/retinue/ErlangB" := Exa.wr W41 E33
    have F45 : Fld Z h41 a1 "com/example/retinue/retinue/ErlangB" "blocking" "D" (.double (own_B x i)) := Fld.other W41 F35 (Or.inr (slot_ne (Or.inl (hw _ (List.mem_of_getElem? (i := 12) rfl))) (Or.inl (hw _ (List.mem_of_getElem? (i := 22) rfl))) (by decide) (t := .double) (t' := .int) (by decide) (by decide)))
    have F46 : Fld Z h41 a1 "com/example/retinue/retinue/ErlangB" "load" "D" (.double x) := Fld.other W41 F36 (Or.inr (slot_ne (Or.inr (hw _ (List.mem_of_getElem? (i := 15) rfl))) (Or.inl (hw _ (List.mem_of_getElem? (i := 22) rfl))) (by decide) (t := .double) (t' := .int) (by decide) (by decide)))
    have F47 : Fld Z h41 a1 "com/example/retinue/retinue/ErlangB" "servers" "I" (.int (Int32.ofNat (i + 1))) := Fld.same W41 F34
    have Z48 : n0 ≤ h41.size := by rw [W41.size]; exact z1
    refine Go.of (g' := (mkF m 54 #[.val (.ref a1), .val (.int (Int32.ofNat n)), sl2, sl3] [])) st41 ?_
    have A49 := (⟨X41, hx, hby⟩ : Ax _ _ _ _ _ _ _ _ _ _ _ _ _ _ _)
    refine g_aloadN A49 d3_54 rfl rfl (pc' := 55) rfl ?_
    obtain ⟨T50, X50, e50, st50⟩ := getF X41 hx hZ hown (host := "") (Or.inl (hw _ (List.mem_of_getElem? (i := 14) rfl))) Via.refl e41 F46 (g := (mkF m 55 #[.val (.ref a1), .val (.int (Int32.ofNat n)), sl2, sl3] [(.ref a1)])) rfl rfl (hb hby d3_55)
    refine Go.of (g' := (mkF m 58 #[.val (.ref a1), .val (.int (Int32.ofNat n)), sl2, sl3] [(.double x)])) st50 ?_
    have A51 := (⟨X50, hx, hby⟩ : Ax _ _ _ _ _ _ _ _ _ _ _ _ _ _ _)
    refine g_aloadN A51 d3_58 rfl rfl (pc' := 59) rfl ?_
    obtain ⟨T52, X52, e52, st52⟩ := getF X50 hx hZ hown (host := "") (Or.inl (hw _ (List.mem_of_getElem? (i := 11) rfl))) Via.refl e50 F45 (g := (mkF m 59 #[.val (.ref a1), .val (.int (Int32.ofNat n)), sl2, sl3] [(.ref a1), (.double x)])) rfl rfl (hb hby d3_59)
    refine Go.of (g' := (mkF m 62 #[.val (.ref a1), .val (.int (Int32.ofNat n)), sl2, sl3] [(.double (own_B x i)), (.double x)])) st52 ?_
    have A53 := (⟨X52, hx, hby⟩ : Ax _ _ _ _ _ _ _ _ _ _ _ _ _ _ _)
    refine g_dmul A53 d3_62 (own_n1 hA hU) (pc' := 63) rfl ?_
    have hst54 : storeLocals #[.val (.ref a1), .val (.int (Int32.ofNat n)), sl2, sl3] 2 (.double (FP.dmul x (own_B x i))) = some #[.val (.ref a1), .val (.int (Int32.ofNat n)), .val (.double (FP.dmul x (own_B x i))), .second] := by rcases hsl with ⟨rfl, rfl⟩ | ⟨t, rfl, rfl⟩ <;> rfl
    refine g_dstoreN A53 d3_63 hst54 (pc' := 64) rfl ?_
    refine g_aloadN A53 d3_64 rfl rfl (pc' := 65) rfl ?_
    refine g_dloadN A53 d3_65 rfl (pc' := 66) rfl ?_
    refine g_aloadN A53 d3_66 rfl rfl (pc' := 67) rfl ?_
    obtain ⟨T55, X55, e55, st55⟩ := getF X52 hx hZ hown (host := "") (Or.inl (hw _ (List.mem_of_getElem? (i := 21) rfl))) Via.refl e52 F47 (g := (mkF m 67 #[.val (.ref a1), .val (.int (Int32.ofNat n)), .val (.double (FP.dmul x (own_B x i))), .second] [(.ref a1), (.double (FP.dmul x (own_B x i))), (.ref a1)])) rfl rfl (hb hby d3_67)
    refine Go.of (g' := (mkF m 70 #[.val (.ref a1), .val (.int (Int32.ofNat n)), .val (.double (FP.dmul x (own_B x i))), .second] [(.int (Int32.ofNat (i + 1))), (.double (FP.dmul x (own_B x i))), (.ref a1)])) st55 ?_
    have A56 := (⟨X55, hx, hby⟩ : Ax _ _ _ _ _ _ _ _ _ _ _ _ _ _ _)
    refine g_i2d A56 d3_70 (pc' := 71) rfl ?_
    refine g_dloadN A56 d3_71 rfl (pc' := 72) rfl ?_
    refine g_dadd A56 d3_72 (own_n2 hA hU (by omega) (by omega)) (pc' := 73) rfl ?_
    refine g_ddiv A56 d3_73 (own_n3 hA hU (by omega) (by omega)) (pc' := 74) rfl ?_
    have e57 : (FP.ddiv (FP.dmul x (own_B x i)) (FP.dadd (FP.i2d (Int32.ofNat (i + 1))) (FP.dmul x (own_B x i)))) = own_B x (i + 1) := rfl
    rw [e57]
    obtain ⟨T58, h58, X58, e58, W58, st58⟩ := putF X55 hx hZ hown (host := "") (Or.inl (hw _ (List.mem_of_getElem? (i := 11) rfl))) Via.refl e55 F45 E44 (Or.inl (hw _ (List.mem_of_getElem? (i := 12) rfl))) (hw _ (List.mem_of_getElem? (i := 3) rfl)) (ty := .double) (by decide) rfl rfl (g := (mkF m 74 #[.val (.ref a1), .val (.int (Int32.ofNat n)), .val (.double (FP.dmul x (own_B x i))), .second] [(.double (own_B x (i + 1))), (.ref a1)])) rfl rfl (hb hby d3_74)
    have N59 := Fr.snoc X58 N42 g_a1
    have K60 : Keep h0 h58 [a1] := K43.wr W58 (Or.inl (List.mem_of_getElem? (i := 0) rfl))
    have E61 : Exa Z h58 a1 "com/example/retinue/retinue/ErlangB" := Exa.wr W58 E44
    have F62 : Fld Z h58 a1 "com/example/retinue/retinue/ErlangB" "load" "D" (.double x) := Fld.other W58 F46 (Or.inr (slot_ne (Or.inr (hw _ (List.mem_of_getElem? (i := 15) rfl))) (Or.inl (hw _ (List.mem_of_getElem? (i := 12) rfl))) (by decide) (t := .double) (t' := .double) (by decide) (by decide)))
    have F63 : Fld Z h58 a1 "com/example/retinue/retinue/ErlangB" "servers" "I" (.int (Int32.ofNat (i + 1))) := Fld.other W58 F47 (Or.inr (slot_ne (Or.inl (hw _ (List.mem_of_getElem? (i := 22) rfl))) (Or.inl (hw _ (List.mem_of_getElem? (i := 12) rfl))) (by decide) (t := .int) (t' := .double) (by decide) (by decide)))
    have F64 : Fld Z h58 a1 "com/example/retinue/retinue/ErlangB" "blocking" "D" (.double (own_B x (i + 1))) := Fld.same W58 F45
    have Z65 : n0 ≤ h58.size := by rw [W58.size]; exact Z48
    refine Go.of (g' := (mkF m 77 #[.val (.ref a1), .val (.int (Int32.ofNat n)), .val (.double (FP.dmul x (own_B x i))), .second] [])) st58 ?_
    have A66 := (⟨X58, hx, hby⟩ : Ax _ _ _ _ _ _ _ _ _ _ _ _ _ _ _)
    refine g_goto A66 d3_77 (pc' := 36) rfl ?_
    exact ih (i + 1) T58 h58 _ (.val (.double (FP.dmul x (own_B x i)))) (.second) (by omega) A66 e58 E61 F63 F64 F62 (Or.inr ⟨_, rfl, rfl⟩) N59 Z65 K60
theorem ef67 (m : MethodId) (a1 : Addr) (n : Nat) (j : Nat) (x : UInt64) : entryFrame m #[(.ref a1), (.int (Int32.ofNat n))] 4 = mkF m 0 #[.val (.ref a1), .val (.int (Int32.ofNat n)), .unset, .unset] [] := by first | (simp [entryFrame, mkF, argsToLocals, Value.category]; done) | rfl
def Q3 (Z : State) (a1 : Addr) (n : Nat) (j : Nat) (x : UInt64) (h0 : Heap) (n0 : Nat) (v : Option Value) (h : Heap) (L : List Loc) : Prop := v = some (.double (own_B x n)) ∧ Fr n0 L ∧ Keep h0 h [a1] ∧ Fld Z h a1 "com/example/retinue/retinue/ErlangB" "servers" "I" (.int (Int32.ofNat n)) ∧ Fld Z h a1 "com/example/retinue/retinue/ErlangB" "blocking" "D" (.double (own_B x n)) ∧ Fld Z h a1 "com/example/retinue/retinue/ErlangB" "load" "D" (.double x)
set_option maxRecDepth 65536 in
set_option maxHeartbeats 40000000 in
theorem rm3 (l : Launch) (Z : State) (a0 : Array Value) (hw : ∀ d ∈ tables_1, d.before a0 Z = true) (ws : List Jvm.Cond) (a1 : Addr) (n : Nat) (j : Nat) (x : UInt64) (h0 : Heap) (n0 : Nat) (Z0 : n0 ≤ h0.size) (E68 : Exa Z h0 a1 "com/example/retinue/retinue/ErlangB") (F69 : Fld Z h0 a1 "com/example/retinue/retinue/ErlangB" "servers" "I" (.int (Int32.ofNat j))) (F70 : Fld Z h0 a1 "com/example/retinue/retinue/ErlangB" "blocking" "D" (.double (own_B x j))) (F71 : Fld Z h0 a1 "com/example/retinue/retinue/ErlangB" "load" "D" (.double x)) (g72 : n0 ≤ a1) (hA : own_A x) (hn : n ≤ 1000) (hj : j ≤ 1000) :
    MetFree l (⟨"com/example/retinue/retinue/ErlangB", "blocking", "(I)D"⟩ : MethodName) (head1 (Jvm.Cond.code (⟨"com/example/retinue/retinue/ErlangB", "blocking", "(I)D"⟩ : MethodName) prog_6_method_3_code 4 (some .double) :: ws) ({ frames := 0, cells := 0, slots := 0, locals := 0 } : Room)) (fun a U => a = #[(.ref a1), (.int (Int32.ofNat n))] ∧ Z.Warmed39 U.vm ∧ U.heap = h0) (fun _ _ _ _ _ => True) (fun _ U o U' => ∃ v L, o = .returned v ∧ Q3 Z a1 n j x h0 n0 v U'.heap L ∧ FrameEnd U o U' L 0 0) := by
  refine MetFree.of_bodySF (plainFor_of_name pn_0) hisR ?_
  intro p e s m args below meth c s₁ Bd hml0 hP hK
  obtain ⟨rfl, hZ, hh⟩ := hP
  have hx := Bd.exec
  have hby := Bd.bytes
  have hml : c.maxLocals = 4 := hml0
  have hown : s.vm.findClass "com/example/retinue/retinue/ErlangB" = some m.cls := findClass_of_methodNamed Bd.named
  have hnm := (name_of_methodNamed Bd.named Bd.method).1
  have X0 : Stand p l e ({ frames := 0, cells := 0, slots := 0, locals := 0 } : Room) s m #[(.ref a1), (.int (Int32.ofNat n))] below meth c s₁ [] 0 0 := Stand.of_body Bd
  have e0 : s₁.heap = h0 := by rw [← hh, Bd.state]; rfl
  have N0 := Fr.nil n0
  have A0 := (⟨X0, hx, hby⟩ : Ax _ _ _ _ _ _ _ _ _ _ _ _ _ _ _)
  show Go p e below (fun U o => ∃ v L, o = .returned v ∧ Q3 Z a1 n j x h0 n0 v U.heap L ∧ FrameEnd s o U L 0 0) s₁ (entryFrame m #[(.ref a1), (.int (Int32.ofNat n))] 4)
  refine Go.cast (ef67 m a1 n j x) ?_
  refine g_iloadN A0 d3_0 rfl (pc' := 1) rfl ?_
  refine g_ifY A0 d3_1 (c0_ge_t (own_clamp (by omega)).2) (pc' := 18) rfl ?_
  refine g_iloadN A0 d3_18 rfl (pc' := 19) rfl ?_
  refine g_aloadN A0 d3_19 rfl rfl (pc' := 20) rfl ?_
  obtain ⟨T73, X73, e73, st73⟩ := getF X0 hx hZ hown (host := "") (Or.inl (hw _ (List.mem_of_getElem? (i := 21) rfl))) Via.refl e0 F69 (g := (mkF m 20 #[.val (.ref a1), .val (.int (Int32.ofNat n)), .unset, .unset] [(.ref a1), (.int (Int32.ofNat n))])) rfl rfl (hb hby d3_20)
  refine Go.of (g' := (mkF m 23 #[.val (.ref a1), .val (.int (Int32.ofNat n)), .unset, .unset] [(.int (Int32.ofNat j)), (.int (Int32.ofNat n))])) st73 ?_
  have A74 := (⟨X73, hx, hby⟩ : Ax _ _ _ _ _ _ _ _ _ _ _ _ _ _ _)
  by_cases hlt : (Int32.ofNat n) < (Int32.ofNat j)
  · skip
    refine g_icN A74 d3_23 (c2_ge_f hlt) (pc' := 26) rfl ?_
    refine g_aloadN A74 d3_26 rfl rfl (pc' := 27) rfl ?_
    refine g_iconst A74 d3_27 (v := (0 : Int32)) rfl (pc' := 28) rfl ?_
    obtain ⟨T75, h75, X75, e75, W75, st75⟩ := putF X73 hx hZ hown (host := "") (Or.inl (hw _ (List.mem_of_getElem? (i := 21) rfl))) Via.refl e73 F69 E68 (Or.inl (hw _ (List.mem_of_getElem? (i := 22) rfl))) (hw _ (List.mem_of_getElem? (i := 3) rfl)) (ty := .int) (by decide) rfl rfl (g := (mkF m 28 #[.val (.ref a1), .val (.int (Int32.ofNat n)), .unset, .unset] [(.int (0 : Int32)), (.ref a1)])) rfl rfl (hb hby d3_28)
    have N76 := Fr.snoc X75 N0 g72
    have K77 : Keep h0 h75 [a1] := (Keep.refl h0 [a1]).wr W75 (Or.inl (List.mem_of_getElem? (i := 0) rfl))
    have E78 : Exa Z h75 a1 "com/example/retinue/retinue/ErlangB" := Exa.wr W75 E68
    have F79 : Fld Z h75 a1 "com/example/retinue/retinue/ErlangB" "blocking" "D" (.double (own_B x j)) := Fld.other W75 F70 (Or.inr (slot_ne (Or.inl (hw _ (List.mem_of_getElem? (i := 12) rfl))) (Or.inl (hw _ (List.mem_of_getElem? (i := 22) rfl))) (by decide) (t := .double) (t' := .int) (by decide) (by decide)))
    have F80 : Fld Z h75 a1 "com/example/retinue/retinue/ErlangB" "load" "D" (.double x) := Fld.other W75 F71 (Or.inr (slot_ne (Or.inr (hw _ (List.mem_of_getElem? (i := 15) rfl))) (Or.inl (hw _ (List.mem_of_getElem? (i := 22) rfl))) (by decide) (t := .double) (t' := .int) (by decide) (by decide)))
    have F81 : Fld Z h75 a1 "com/example/retinue/retinue/ErlangB" "servers" "I" (.int (0 : Int32)) := Fld.same W75 F69
    have Z82 : n0 ≤ h75.size := by rw [W75.size]; exact Z0
    refine Go.of (g' := (mkF m 31 #[.val (.ref a1), .val (.int (Int32.ofNat n)), .unset, .unset] [])) st75 ?_
    have A83 := (⟨X75, hx, hby⟩ : Ax _ _ _ _ _ _ _ _ _ _ _ _ _ _ _)
    refine g_aloadN A83 d3_31 rfl rfl (pc' := 32) rfl ?_
    refine g_dconst1 A83 d3_32 (pc' := 33) rfl ?_
    obtain ⟨T84, h84, X84, e84, W84, st84⟩ := putF X75 hx hZ hown (host := "") (Or.inl (hw _ (List.mem_of_getElem? (i := 11) rfl))) Via.refl e75 F79 E78 (Or.inl (hw _ (List.mem_of_getElem? (i := 12) rfl))) (hw _ (List.mem_of_getElem? (i := 3) rfl)) (ty := .double) (by decide) rfl rfl (g := (mkF m 33 #[.val (.ref a1), .val (.int (Int32.ofNat n)), .unset, .unset] [(.double (4607182418800017408 : UInt64)), (.ref a1)])) rfl rfl (hb hby d3_33)
    have N85 := Fr.snoc X84 N76 g72
    have K86 : Keep h0 h84 [a1] := K77.wr W84 (Or.inl (List.mem_of_getElem? (i := 0) rfl))
    have E87 : Exa Z h84 a1 "com/example/retinue/retinue/ErlangB" := Exa.wr W84 E78
    have F88 : Fld Z h84 a1 "com/example/retinue/retinue/ErlangB" "load" "D" (.double x) := Fld.other W84 F80 (Or.inr (slot_ne (Or.inr (hw _ (List.mem_of_getElem? (i := 15) rfl))) (Or.inl (hw _ (List.mem_of_getElem? (i := 12) rfl))) (by decide) (t := .double) (t' := .double) (by decide) (by decide)))
    have F89 : Fld Z h84 a1 "com/example/retinue/retinue/ErlangB" "servers" "I" (.int (0 : Int32)) := Fld.other W84 F81 (Or.inr (slot_ne (Or.inl (hw _ (List.mem_of_getElem? (i := 22) rfl))) (Or.inl (hw _ (List.mem_of_getElem? (i := 12) rfl))) (by decide) (t := .int) (t' := .double) (by decide) (by decide)))
    have F90 : Fld Z h84 a1 "com/example/retinue/retinue/ErlangB" "blocking" "D" (.double (4607182418800017408 : UInt64)) := Fld.same W84 F79
    have Z91 : n0 ≤ h84.size := by rw [W84.size]; exact Z82
    refine Go.of (g' := (mkF m 36 #[.val (.ref a1), .val (.int (Int32.ofNat n)), .unset, .unset] [])) st84 ?_
    have A92 := (⟨X84, hx, hby⟩ : Ax _ _ _ _ _ _ _ _ _ _ _ _ _ _ _)
    refine own_loop a1 n x hw hZ hx hby hml hown hnm g72 hA hn ?_ (n) (0) T84 h84 _ .unset .unset (by omega) A92 e84 E87 F89 F90 F88 (Or.inl ⟨rfl, rfl⟩) N85 Z91 K86
    intro T93 h93 lo93 sl99 sl100 A93 e93 F94 F95 F96 F97 iv98 N93 Z93 K93
    refine g_aloadN A93 d3_80 rfl rfl (pc' := 81) rfl ?_
    obtain ⟨T101, X101, e101, st101⟩ := getF A93.1 hx hZ hown (host := "") (Or.inl (hw _ (List.mem_of_getElem? (i := 11) rfl))) Via.refl e93 F96 (g := (mkF m 81 #[.val (.ref a1), .val (.int (Int32.ofNat n)), sl99, sl100] [(.ref a1)])) rfl rfl (hb hby d3_81)
    refine Go.of (g' := (mkF m 84 #[.val (.ref a1), .val (.int (Int32.ofNat n)), sl99, sl100] [(.double (own_B x n))])) st101 ?_
    have A102 := (⟨X101, hx, hby⟩ : Ax _ _ _ _ _ _ _ _ _ _ _ _ _ _ _)
    exact g_ret (Q := Q3 Z a1 n j x h0 n0) A102 d3_84 Bd.notSynchronized Bd.returns rfl (Or.inr (Or.inr (Or.inl ⟨rfl, rfl, _, rfl⟩))) (by decide) (by decide) (by rw [e101]; exact ⟨rfl, N93, K93, F95, F96, F97⟩)
  · skip
    refine g_icY A74 d3_23 (c2_ge_t hlt) (pc' := 36) rfl ?_
    have hjn : j ≤ n := Nat.le_of_not_lt fun q => hlt (own_olt q (by omega))
    refine own_loop a1 n x hw hZ hx hby hml hown hnm g72 hA hn ?_ (n - j) (j) T73 h0 _ .unset .unset (by omega) A74 e73 E68 F69 F70 F71 (Or.inl ⟨rfl, rfl⟩) N0 Z0 (Keep.refl h0 [a1])
    intro T103 h103 lo103 sl109 sl110 A103 e103 F104 F105 F106 F107 iv108 N103 Z103 K103
    refine g_aloadN A103 d3_80 rfl rfl (pc' := 81) rfl ?_
    obtain ⟨T111, X111, e111, st111⟩ := getF A103.1 hx hZ hown (host := "") (Or.inl (hw _ (List.mem_of_getElem? (i := 11) rfl))) Via.refl e103 F106 (g := (mkF m 81 #[.val (.ref a1), .val (.int (Int32.ofNat n)), sl109, sl110] [(.ref a1)])) rfl rfl (hb hby d3_81)
    refine Go.of (g' := (mkF m 84 #[.val (.ref a1), .val (.int (Int32.ofNat n)), sl109, sl110] [(.double (own_B x n))])) st111 ?_
    have A112 := (⟨X111, hx, hby⟩ : Ax _ _ _ _ _ _ _ _ _ _ _ _ _ _ _)
    exact g_ret (Q := Q3 Z a1 n j x h0 n0) A112 d3_84 Bd.notSynchronized Bd.returns rfl (Or.inr (Or.inr (Or.inl ⟨rfl, rfl, _, rfl⟩))) (by decide) (by decide) (by rw [e111]; exact ⟨rfl, N103, K103, F105, F106, F107⟩)
theorem own_a (p : Int32) : own_A (FP.ddiv (FP.i2d (p &&& (1048575 : Int32))) (4625196817309499392 : UInt64)) := by
  have h := c_mask p 1048575 20 (by decide) (by decide)
  have i1 := FP.Core.i2d_int (p &&& (1048575 : Int32))
  rw [h] at i1
  have z1 := own_zi i1
  have e16 : FP.Core.i2d 16 = (4625196817309499392 : UInt64) := by decide +kernel
  have i2 := FP.Core.i2d_int 16
  rw [e16] at i2
  have z2 := own_zi i2
  have e2 : (16 : Int32).toInt = 16 := rfl
  rw [e2] at z2
  have po := own_op
  have f1 : FP.Core.DFin (FP.i2d (p &&& (1048575 : Int32))) := FP.Core.i2d_fin _
  have f2 : FP.Core.DFin (4625196817309499392 : UInt64) := (FP.Core.fin_bits _).mpr (by decide)
  have b1 : 0 ≤ p.toInt % (2 ^ 20 : Nat) := Int.emod_nonneg _ (by decide)
  have b2 : p.toInt % (2 ^ 20 : Nat) < 1048576 := Int.emod_lt_of_pos _ (by decide)
  have k1 : own_z (FP.i2d (p &&& (1048575 : Int32))) = (p.toInt % (2 ^ 20 : Nat)) * (own_o : Int) := z1
  have p1 : 0 ≤ own_z (FP.i2d (p &&& (1048575 : Int32))) := by rw [k1]; exact Int.mul_nonneg b1 (by omega)
  have l1 : own_z (FP.i2d (p &&& (1048575 : Int32))) ≤ 1048576 * (own_o : Int) := by rw [k1]; exact Int.mul_le_mul_of_nonneg_right (by omega) (by omega)
  obtain ⟨g1, g2, g3⟩ := own_divz f1 f2 f1 p1 (by omega) p1 (Int.mul_le_mul_of_nonneg_left (by omega) p1)
  exact ⟨g1, g2, by omega⟩
theorem own_m8 (p : Int32) : ∃ k : Nat, k < 256 ∧ (p &&& (255 : Int32)) = Int32.ofNat k := by
  have h := c_mask p 255 8 (by decide) (by decide)
  have b1 : 0 ≤ p.toInt % (2 ^ 8 : Nat) := Int.emod_nonneg _ (by decide)
  have b2 : p.toInt % (2 ^ 8 : Nat) < 256 := Int.emod_lt_of_pos _ (by decide)
  refine ⟨(p &&& (255 : Int32)).toInt.toNat, by omega, ?_⟩
  apply Int32.toInt_inj.mp
  rw [Int32.toInt_ofNat_of_lt (by omega)]; omega
theorem own_b1 {a : UInt64} (ha : own_A a) : own_B a 1 = FP.ddiv a (FP.dadd (4607182418800017408 : UInt64) a) := by
  have e : FP.dmul a (4607182418800017408 : UInt64) = a := FP.Core.dmul_one ha.1.ne_nan
  have e1 : FP.i2d (Int32.ofNat 1) = (4607182418800017408 : UInt64) := by decide +kernel
  show FP.ddiv (FP.dmul a (4607182418800017408 : UInt64)) (FP.dadd (FP.i2d (Int32.ofNat 1)) (FP.dmul a (4607182418800017408 : UInt64))) = _
  rw [e, e1]
theorem own_nb {a : UInt64} (ha : own_A a) : NoNaN64 (FP.dadd (4607182418800017408 : UInt64) a) ∧ NoNaN64 (FP.ddiv a (FP.dadd (4607182418800017408 : UInt64) a)) := by
  have e : FP.dmul a (4607182418800017408 : UInt64) = a := FP.Core.dmul_one ha.1.ne_nan
  have e1 : FP.i2d (Int32.ofNat 1) = (4607182418800017408 : UInt64) := by decide +kernel
  have h2 := own_n2 (k := 1) ha own_one (by decide) (by decide)
  have h3 := own_n3 (k := 1) ha own_one (by decide) (by decide)
  rw [e, e1] at h2 h3
  exact ⟨h2, h3⟩
theorem own_le0 {b : UInt64} (h : own_U b) : oLe (FP.dcmp (0 : UInt64) b) := own_cle own_f0 h.1 (by rw [own_z0]; exact h.2.1)
theorem own_le1 {b : UInt64} (h : own_U b) : oLe (FP.dcmp b (4607182418800017408 : UInt64)) := own_cle h.1 own_one.1 (by rw [own_z1]; exact h.2.2)
theorem pn_1 : plainName "com/example/retinue/retinue/ErlangBBlockingPinLaw" = true := by first | (simp [plainName, overriddenIn]; done) | decide +kernel
theorem ef113 (m : MethodId) (p0 : Int32) (p1 : Int32) (p2 : Int32) : entryFrame m #[(.int p0), (.int p1), (.int p2)] maxLocals = mkF m 0 #[.val (.int p0), .val (.int p1), .val (.int p2), .unset, .unset, .unset, .unset, .unset, .unset, .unset, .unset, .unset, .unset, .unset, .unset, .unset, .unset, .unset, .unset, .unset, .unset, .unset, .unset, .unset, .unset, .unset, .unset, .unset, .unset, .unset] [] := by first | (simp [entryFrame, mkF, argsToLocals, Value.category, maxLocals]; done) | rfl
def Q0 (Z : State) (p0 : Int32) (p1 : Int32) (p2 : Int32) (h0 : Heap) (n0 : Nat) (v : Option Value) (h : Heap) (L : List Loc) : Prop := v = some (.int 1) ∧ Fr n0 L
theorem pd_0 : parseMethodDescriptor "(D)V" = some ⟨[.double], none⟩ := by decide +kernel
theorem pd_1 : parseMethodDescriptor "(I)D" = some ⟨[.int], some .double⟩ := by decide +kernel
set_option maxRecDepth 65536 in
set_option maxHeartbeats 40000000 in
theorem rm0 (l : Launch) (Z : State) (a0 : Array Value) (hw : ∀ d ∈ tables_1, d.before a0 Z = true) (ws : List Jvm.Cond) (p0 : Int32) (p1 : Int32) (p2 : Int32) (h0 : Heap) (n0 : Nat) (Z0 : n0 ≤ h0.size)  :
    MetFree l x (head1 (Jvm.Cond.code x code maxLocals ret :: ws) room_1) (fun a U => a = #[(.int p0), (.int p1), (.int p2)] ∧ Z.Warmed39 U.vm ∧ U.heap = h0) (fun _ _ _ _ _ => True) (fun _ U o U' => ∃ v L, o = .returned v ∧ Q0 Z p0 p1 p2 h0 n0 v U'.heap L ∧ FrameEnd U o U' L 3 9) := by
  refine MetFree.of_bodySF (plainFor_of_name pn_1) hisR ?_
  intro p e s m args below meth c s₁ Bd hml0 hP hK
  obtain ⟨rfl, hZ, hh⟩ := hP
  have hx := Bd.exec
  have hby := Bd.bytes
  have hml : c.maxLocals = 30 := hml0
  have hown : s.vm.findClass "com/example/retinue/retinue/ErlangBBlockingPinLaw" = some m.cls := findClass_of_methodNamed Bd.named
  have hnm := (name_of_methodNamed Bd.named Bd.method).1
  have X0 : Stand p l e room_1 s m #[(.int p0), (.int p1), (.int p2)] below meth c s₁ [] 0 0 := Stand.of_body Bd
  have e0 : s₁.heap = h0 := by rw [← hh, Bd.state]; rfl
  have N0 := Fr.nil n0
  have A0 := (⟨X0, hx, hby⟩ : Ax _ _ _ _ _ _ _ _ _ _ _ _ _ _ _)
  show Go p e below (fun U o => ∃ v L, o = .returned v ∧ Q0 Z p0 p1 p2 h0 n0 v U.heap L ∧ FrameEnd s o U L 3 9) s₁ (entryFrame m #[(.int p0), (.int p1), (.int p2)] maxLocals)
  refine Go.cast (ef113 m p0 p1 p2) ?_
  refine g_iloadN A0 at_0 rfl (pc' := 1) rfl ?_
  refine g_ldcI A0 hZ hown (hw _ (List.mem_of_getElem? (i := 0) rfl)) at_1 (pc' := 3) rfl ?_
  refine g_iand A0 at_3 (pc' := 4) rfl ?_
  refine g_i2d A0 at_4 (pc' := 5) rfl ?_
  refine g_ldcD A0 hZ hown (hw _ (List.mem_of_getElem? (i := 1) rfl)) at_5 (pc' := 8) rfl ?_
  refine g_ddiv A0 at_8 (own_Af (own_a p0)).noNaN (pc' := 9) rfl ?_
  obtain ⟨a114, ha114⟩ : ∃ z : UInt64, z = (FP.ddiv (FP.i2d (p0 &&& (1048575 : Int32))) (4625196817309499392 : UInt64)) := ⟨_, rfl⟩
  rw [← ha114]
  have hA : own_A a114 := by rw [ha114]; exact own_a p0
  refine g_dstoreN A0 at_9 (ls' := #[.val (.int p0), .val (.int p1), .val (.int p2), .val (.double a114), .second, .unset, .unset, .unset, .unset, .unset, .unset, .unset, .unset, .unset, .unset, .unset, .unset, .unset, .unset, .unset, .unset, .unset, .unset, .unset, .unset, .unset, .unset, .unset, .unset, .unset]) rfl (pc' := 10) rfl ?_
  refine g_iloadN A0 at_10 rfl (pc' := 11) rfl ?_
  refine g_sipush A0 at_11 (v := (255 : Int32)) rfl (pc' := 14) rfl ?_
  refine g_iand A0 at_14 (pc' := 15) rfl ?_
  obtain ⟨k115, hk116, ek117⟩ := own_m8 p1
  rw [ek117]
  refine g_istore A0 at_15 (ls' := #[.val (.int p0), .val (.int p1), .val (.int p2), .val (.double a114), .second, .val (.int (Int32.ofNat k115)), .unset, .unset, .unset, .unset, .unset, .unset, .unset, .unset, .unset, .unset, .unset, .unset, .unset, .unset, .unset, .unset, .unset, .unset, .unset, .unset, .unset, .unset, .unset, .unset]) rfl (pc' := 17) rfl ?_
  refine g_iloadN A0 at_17 rfl (pc' := 18) rfl ?_
  refine g_sipush A0 at_18 (v := (255 : Int32)) rfl (pc' := 21) rfl ?_
  refine g_iand A0 at_21 (pc' := 22) rfl ?_
  obtain ⟨k118, hk119, ek120⟩ := own_m8 p2
  rw [ek120]
  refine g_istore A0 at_22 (ls' := #[.val (.int p0), .val (.int p1), .val (.int p2), .val (.double a114), .second, .val (.int (Int32.ofNat k115)), .val (.int (Int32.ofNat k118)), .unset, .unset, .unset, .unset, .unset, .unset, .unset, .unset, .unset, .unset, .unset, .unset, .unset, .unset, .unset, .unset, .unset, .unset, .unset, .unset, .unset, .unset, .unset]) rfl (pc' := 24) rfl ?_
  obtain ⟨T121, h121, X121, e121, E121, EA121, D121, -, st121⟩ := newO X0 hx hZ hown (hw _ (List.mem_of_getElem? (i := 2) rfl)) (hw _ (List.mem_of_getElem? (i := 3) rfl)) (hw _ (List.mem_of_getElem? (i := 4) rfl)) e0 (g := (mkF m 24 #[.val (.int p0), .val (.int p1), .val (.int p2), .val (.double a114), .second, .val (.int (Int32.ofNat k115)), .val (.int (Int32.ofNat k118)), .unset, .unset, .unset, .unset, .unset, .unset, .unset, .unset, .unset, .unset, .unset, .unset, .unset, .unset, .unset, .unset, .unset, .unset, .unset, .unset, .unset, .unset, .unset] [])) rfl (hb hby at_24) (by decide) (by decide)
  obtain ⟨a122, ea122⟩ : ∃ z, z = h0.size := ⟨_, rfl⟩
  rw [← ea122] at EA121 D121 st121
  have g123 : n0 ≤ a122 := by rw [ea122]; exact Z0
  have gh124 : h0.size ≤ a122 := by rw [ea122]; exact (Keep.refl h0 []).1
  have K125 : Keep h0 h121 [] := (Keep.refl h0 []).ext E121
  have Z126 : n0 ≤ h121.size := Nat.le_trans Z0 E121.1
  have F127 : Fld Z h121 a122 "com/example/retinue/retinue/ErlangB" "blocking" "D" (.double (0 : UInt64)) := D121 (Or.inl (hw _ (List.mem_of_getElem? (i := 12) rfl))) (ty := .double) (by decide)
  have F128 : Fld Z h121 a122 "com/example/retinue/retinue/ErlangB" "load" "D" (.double (0 : UInt64)) := D121 (Or.inr (hw _ (List.mem_of_getElem? (i := 15) rfl))) (ty := .double) (by decide)
  have F129 : Fld Z h121 a122 "com/example/retinue/retinue/ErlangB" "servers" "I" (.int (0 : Int32)) := D121 (Or.inl (hw _ (List.mem_of_getElem? (i := 22) rfl))) (ty := .int) (by decide)
  refine Go.of (g' := (mkF m 27 #[.val (.int p0), .val (.int p1), .val (.int p2), .val (.double a114), .second, .val (.int (Int32.ofNat k115)), .val (.int (Int32.ofNat k118)), .unset, .unset, .unset, .unset, .unset, .unset, .unset, .unset, .unset, .unset, .unset, .unset, .unset, .unset, .unset, .unset, .unset, .unset, .unset, .unset, .unset, .unset, .unset] [(.ref a122)])) st121 ?_
  have A130 := (⟨X121, hx, hby⟩ : Ax _ _ _ _ _ _ _ _ _ _ _ _ _ _ _)
  refine g_dup A130 at_27 rfl (pc' := 28) rfl ?_
  refine g_dloadN A130 at_28 rfl (pc' := 29) rfl ?_
  obtain ⟨vv131, _, ⟨T131, L131, k131, n131⟩, -, X131, ⟨L131c, hQ131, l131, y131, z131⟩, st131⟩ := X121.specialBack hx (y := (⟨"com/example/retinue/retinue/ErlangB", "<init>", "(D)V"⟩ : MethodName)) rfl hown (mvT hZ (hw _ (List.mem_of_getElem? (i := 5) rfl))) (mvT hZ (hw _ (List.mem_of_getElem? (i := 6) rfl))) (mvT hZ (hw _ (List.mem_of_getElem? (i := 7) rfl))) (by decide) (backOf (W := 1) (rm1 l Z a0 hw [] a122 a114 (.double (0 : UInt64)) (.double (0 : UInt64)) (.int (0 : Int32)) h121 n0 Z126 EA121 F127 F128 F129 g123 hA) hZ (hw _ (List.mem_of_getElem? (i := 7) rfl)) (hw _ (List.mem_of_getElem? (i := 4) rfl)) (by decide) (by decide)) (g := (mkF m 29 #[.val (.int p0), .val (.int p1), .val (.int p2), .val (.double a114), .second, .val (.int (Int32.ofNat k115)), .val (.int (Int32.ofNat k118)), .unset, .unset, .unset, .unset, .unset, .unset, .unset, .unset, .unset, .unset, .unset, .unset, .unset, .unset, .unset, .unset, .unset, .unset, .unset, .unset, .unset, .unset, .unset] [(.double a114), (.ref a122), (.ref a122)])) rfl (by rw [hml]; rfl) (Steps.refl _) (a := a122) (argsL := [(.double a114)]) (rest := [(.ref a122)]) (lenOf pd_0 rfl) rfl (by show 2 * 0 + _ ≤ _; exact Nat.le_of_eq rfl) (hb hby at_29) (fun _ _ => ⟨rfl, e121, (by decide : 1 + 0 ≤ _), (by decide : 3 + 0 ≤ _)⟩)
  have hQ131b : Q1 Z a122 a114 (.double (0 : UInt64)) (.double (0 : UInt64)) (.int (0 : Int32)) h121 n0 vv131 T131.heap L131c := hQ131
  clear hQ131
  dsimp only [Pt.U, Pt.locs, Pt.cells, Pt.slots] at X131 l131 y131 z131 st131
  subst y131 z131
  obtain ⟨rfl, Nq132, Kq133, F134, F135, F136⟩ := hQ131b
  have N137 : Fr n0 L131 := by rw [l131]; exact Fr.app N0 Nq132
  refine Go.tr (g' := (mkF m 32 #[.val (.int p0), .val (.int p1), .val (.int p2), .val (.double a114), .second, .val (.int (Int32.ofNat k115)), .val (.int (Int32.ofNat k118)), .unset, .unset, .unset, .unset, .unset, .unset, .unset, .unset, .unset, .unset, .unset, .unset, .unset, .unset, .unset, .unset, .unset, .unset, .unset, .unset, .unset, .unset, .unset] [(.ref a122)])) st131 ?_
  have E138 : Exa Z T131.heap a122 "com/example/retinue/retinue/ErlangB" := Exa.keep EA121 Kq133
  have Z139 : n0 ≤ T131.heap.size := Nat.le_trans Z126 Kq133.1
  have K140 : Keep h0 T131.heap [] := K125.trans Kq133 (allS (Or.inr gh124) all0)
  have A141 := (⟨X131, hx, hby⟩ : Ax _ _ _ _ _ _ _ _ _ _ _ _ _ _ _)
  refine g_astore A141 at_32 rfl (ls' := #[.val (.int p0), .val (.int p1), .val (.int p2), .val (.double a114), .second, .val (.int (Int32.ofNat k115)), .val (.int (Int32.ofNat k118)), .val (.ref a122), .unset, .unset, .unset, .unset, .unset, .unset, .unset, .unset, .unset, .unset, .unset, .unset, .unset, .unset, .unset, .unset, .unset, .unset, .unset, .unset, .unset, .unset]) rfl (pc' := 34) rfl ?_
  refine g_aload A141 at_34 rfl rfl (pc' := 36) rfl ?_
  refine g_iload A141 at_36 rfl (pc' := 38) rfl ?_
  have hp142 : k115 ≤ 1000 := (by omega)
  have hp143 : 0 ≤ 1000 := (by decide)
  obtain ⟨cq145, kq145, q145a, q145b, q145c⟩ := isOf hZ rfl E138
  obtain ⟨vv144, _, ⟨T144, L144, k144, n144⟩, -, X144, ⟨L144c, hQ144, l144, y144, z144⟩, st144⟩ := X131.virtualBack hx (y := (⟨"com/example/retinue/retinue/ErlangB", "blocking", "(I)D"⟩ : MethodName)) (z := (⟨"com/example/retinue/retinue/ErlangB", "blocking", "(I)D"⟩ : MethodName)) hown (mvT hZ (hw _ (List.mem_of_getElem? (i := 16) rfl))) (mvT hZ (hw _ (List.mem_of_getElem? (i := 17) rfl))) (notFace_of_selects (args := #[]) (mvT hZ (hw _ (List.mem_of_getElem? (i := 19) rfl)))) (mvT hZ (hw _ (List.mem_of_getElem? (i := 19) rfl))) (mvT hZ (hw _ (List.mem_of_getElem? (i := 18) rfl))) (by decide) (backOf (W := 0) (rm3 l Z a0 hw [] a122 k115 0 a114 T131.heap n0 Z139 E138 F136 F134 F135 g123 hA hp142 hp143) hZ (hw _ (List.mem_of_getElem? (i := 20) rfl)) (hw _ (List.mem_of_getElem? (i := 4) rfl)) (by decide) (by decide)) q145a q145c (g := (mkF m 38 #[.val (.int p0), .val (.int p1), .val (.int p2), .val (.double a114), .second, .val (.int (Int32.ofNat k115)), .val (.int (Int32.ofNat k118)), .val (.ref a122), .unset, .unset, .unset, .unset, .unset, .unset, .unset, .unset, .unset, .unset, .unset, .unset, .unset, .unset, .unset, .unset, .unset, .unset, .unset, .unset, .unset, .unset] [(.int (Int32.ofNat k115)), (.ref a122)])) rfl (by rw [hml]; rfl) (Steps.refl _) (argsL := [(.int (Int32.ofNat k115))]) (rest := []) (lenOf pd_1 rfl) rfl (by show 2 * 0 + _ ≤ _; exact Nat.le_of_eq rfl) (hb hby at_38) (fun _ _ => ⟨rfl, rfl, (by decide : 1 + 0 ≤ _), (by decide : 3 + 0 ≤ _)⟩)
  have hQ144b : Q3 Z a122 k115 0 a114 T131.heap n0 vv144 T144.heap L144c := hQ144
  clear hQ144
  dsimp only [Pt.U, Pt.locs, Pt.cells, Pt.slots] at X144 l144 y144 z144 st144
  subst y144 z144
  obtain ⟨rfl, Nq146, Kq147, F148, F149, F150⟩ := hQ144b
  have N151 : Fr n0 L144 := by rw [l144]; exact Fr.app N137 Nq146
  refine Go.tr (g' := (mkF m 41 #[.val (.int p0), .val (.int p1), .val (.int p2), .val (.double a114), .second, .val (.int (Int32.ofNat k115)), .val (.int (Int32.ofNat k118)), .val (.ref a122), .unset, .unset, .unset, .unset, .unset, .unset, .unset, .unset, .unset, .unset, .unset, .unset, .unset, .unset, .unset, .unset, .unset, .unset, .unset, .unset, .unset, .unset] [(.double (own_B a114 k115))])) st144 ?_
  have E152 : Exa Z T144.heap a122 "com/example/retinue/retinue/ErlangB" := Exa.keep E138 Kq147
  have Z153 : n0 ≤ T144.heap.size := Nat.le_trans Z139 Kq147.1
  have K154 : Keep h0 T144.heap [] := K140.trans Kq147 (allS (Or.inr gh124) all0)
  have A155 := (⟨X144, hx, hby⟩ : Ax _ _ _ _ _ _ _ _ _ _ _ _ _ _ _)
  refine g_dstore A155 at_41 (ls' := #[.val (.int p0), .val (.int p1), .val (.int p2), .val (.double a114), .second, .val (.int (Int32.ofNat k115)), .val (.int (Int32.ofNat k118)), .val (.ref a122), .val (.double (own_B a114 k115)), .second, .unset, .unset, .unset, .unset, .unset, .unset, .unset, .unset, .unset, .unset, .unset, .unset, .unset, .unset, .unset, .unset, .unset, .unset, .unset, .unset]) rfl (pc' := 43) rfl ?_
  refine g_aload A155 at_43 rfl rfl (pc' := 45) rfl ?_
  refine g_iload A155 at_45 rfl (pc' := 47) rfl ?_
  have hp156 : k118 ≤ 1000 := (by omega)
  have hp157 : k115 ≤ 1000 := (by omega)
  obtain ⟨cq159, kq159, q159a, q159b, q159c⟩ := isOf hZ rfl E152
  obtain ⟨vv158, _, ⟨T158, L158, k158, n158⟩, -, X158, ⟨L158c, hQ158, l158, y158, z158⟩, st158⟩ := X144.virtualBack hx (y := (⟨"com/example/retinue/retinue/ErlangB", "blocking", "(I)D"⟩ : MethodName)) (z := (⟨"com/example/retinue/retinue/ErlangB", "blocking", "(I)D"⟩ : MethodName)) hown (mvT hZ (hw _ (List.mem_of_getElem? (i := 16) rfl))) (mvT hZ (hw _ (List.mem_of_getElem? (i := 17) rfl))) (notFace_of_selects (args := #[]) (mvT hZ (hw _ (List.mem_of_getElem? (i := 19) rfl)))) (mvT hZ (hw _ (List.mem_of_getElem? (i := 19) rfl))) (mvT hZ (hw _ (List.mem_of_getElem? (i := 18) rfl))) (by decide) (backOf (W := 0) (rm3 l Z a0 hw [] a122 k118 k115 a114 T144.heap n0 Z153 E152 F148 F149 F150 g123 hA hp156 hp157) hZ (hw _ (List.mem_of_getElem? (i := 20) rfl)) (hw _ (List.mem_of_getElem? (i := 4) rfl)) (by decide) (by decide)) q159a q159c (g := (mkF m 47 #[.val (.int p0), .val (.int p1), .val (.int p2), .val (.double a114), .second, .val (.int (Int32.ofNat k115)), .val (.int (Int32.ofNat k118)), .val (.ref a122), .val (.double (own_B a114 k115)), .second, .unset, .unset, .unset, .unset, .unset, .unset, .unset, .unset, .unset, .unset, .unset, .unset, .unset, .unset, .unset, .unset, .unset, .unset, .unset, .unset] [(.int (Int32.ofNat k118)), (.ref a122)])) rfl (by rw [hml]; rfl) (Steps.refl _) (argsL := [(.int (Int32.ofNat k118))]) (rest := []) (lenOf pd_1 rfl) rfl (by show 2 * 0 + _ ≤ _; exact Nat.le_of_eq rfl) (hb hby at_47) (fun _ _ => ⟨rfl, rfl, (by decide : 1 + 0 ≤ _), (by decide : 3 + 0 ≤ _)⟩)
  have hQ158b : Q3 Z a122 k118 k115 a114 T144.heap n0 vv158 T158.heap L158c := hQ158
  clear hQ158
  dsimp only [Pt.U, Pt.locs, Pt.cells, Pt.slots] at X158 l158 y158 z158 st158
  subst y158 z158
  obtain ⟨rfl, Nq160, Kq161, F162, F163, F164⟩ := hQ158b
  have N165 : Fr n0 L158 := by rw [l158]; exact Fr.app N151 Nq160
  refine Go.tr (g' := (mkF m 50 #[.val (.int p0), .val (.int p1), .val (.int p2), .val (.double a114), .second, .val (.int (Int32.ofNat k115)), .val (.int (Int32.ofNat k118)), .val (.ref a122), .val (.double (own_B a114 k115)), .second, .unset, .unset, .unset, .unset, .unset, .unset, .unset, .unset, .unset, .unset, .unset, .unset, .unset, .unset, .unset, .unset, .unset, .unset, .unset, .unset] [(.double (own_B a114 k118))])) st158 ?_
  have E166 : Exa Z T158.heap a122 "com/example/retinue/retinue/ErlangB" := Exa.keep E152 Kq161
  have Z167 : n0 ≤ T158.heap.size := Nat.le_trans Z153 Kq161.1
  have K168 : Keep h0 T158.heap [] := K154.trans Kq161 (allS (Or.inr gh124) all0)
  have A169 := (⟨X158, hx, hby⟩ : Ax _ _ _ _ _ _ _ _ _ _ _ _ _ _ _)
  refine g_dstore A169 at_50 (ls' := #[.val (.int p0), .val (.int p1), .val (.int p2), .val (.double a114), .second, .val (.int (Int32.ofNat k115)), .val (.int (Int32.ofNat k118)), .val (.ref a122), .val (.double (own_B a114 k115)), .second, .val (.double (own_B a114 k118)), .second, .unset, .unset, .unset, .unset, .unset, .unset, .unset, .unset, .unset, .unset, .unset, .unset, .unset, .unset, .unset, .unset, .unset, .unset]) rfl (pc' := 52) rfl ?_
  refine g_aload A169 at_52 rfl rfl (pc' := 54) rfl ?_
  refine g_iload A169 at_54 rfl (pc' := 56) rfl ?_
  have hp170 : k115 ≤ 1000 := (by omega)
  have hp171 : k118 ≤ 1000 := (by omega)
  obtain ⟨cq173, kq173, q173a, q173b, q173c⟩ := isOf hZ rfl E166
  obtain ⟨vv172, _, ⟨T172, L172, k172, n172⟩, -, X172, ⟨L172c, hQ172, l172, y172, z172⟩, st172⟩ := X158.virtualBack hx (y := (⟨"com/example/retinue/retinue/ErlangB", "blocking", "(I)D"⟩ : MethodName)) (z := (⟨"com/example/retinue/retinue/ErlangB", "blocking", "(I)D"⟩ : MethodName)) hown (mvT hZ (hw _ (List.mem_of_getElem? (i := 16) rfl))) (mvT hZ (hw _ (List.mem_of_getElem? (i := 17) rfl))) (notFace_of_selects (args := #[]) (mvT hZ (hw _ (List.mem_of_getElem? (i := 19) rfl)))) (mvT hZ (hw _ (List.mem_of_getElem? (i := 19) rfl))) (mvT hZ (hw _ (List.mem_of_getElem? (i := 18) rfl))) (by decide) (backOf (W := 0) (rm3 l Z a0 hw [] a122 k115 k118 a114 T158.heap n0 Z167 E166 F162 F163 F164 g123 hA hp170 hp171) hZ (hw _ (List.mem_of_getElem? (i := 20) rfl)) (hw _ (List.mem_of_getElem? (i := 4) rfl)) (by decide) (by decide)) q173a q173c (g := (mkF m 56 #[.val (.int p0), .val (.int p1), .val (.int p2), .val (.double a114), .second, .val (.int (Int32.ofNat k115)), .val (.int (Int32.ofNat k118)), .val (.ref a122), .val (.double (own_B a114 k115)), .second, .val (.double (own_B a114 k118)), .second, .unset, .unset, .unset, .unset, .unset, .unset, .unset, .unset, .unset, .unset, .unset, .unset, .unset, .unset, .unset, .unset, .unset, .unset] [(.int (Int32.ofNat k115)), (.ref a122)])) rfl (by rw [hml]; rfl) (Steps.refl _) (argsL := [(.int (Int32.ofNat k115))]) (rest := []) (lenOf pd_1 rfl) rfl (by show 2 * 0 + _ ≤ _; exact Nat.le_of_eq rfl) (hb hby at_56) (fun _ _ => ⟨rfl, rfl, (by decide : 1 + 0 ≤ _), (by decide : 3 + 0 ≤ _)⟩)
  have hQ172b : Q3 Z a122 k115 k118 a114 T158.heap n0 vv172 T172.heap L172c := hQ172
  clear hQ172
  dsimp only [Pt.U, Pt.locs, Pt.cells, Pt.slots] at X172 l172 y172 z172 st172
  subst y172 z172
  obtain ⟨rfl, Nq174, Kq175, F176, F177, F178⟩ := hQ172b
  have N179 : Fr n0 L172 := by rw [l172]; exact Fr.app N165 Nq174
  refine Go.tr (g' := (mkF m 59 #[.val (.int p0), .val (.int p1), .val (.int p2), .val (.double a114), .second, .val (.int (Int32.ofNat k115)), .val (.int (Int32.ofNat k118)), .val (.ref a122), .val (.double (own_B a114 k115)), .second, .val (.double (own_B a114 k118)), .second, .unset, .unset, .unset, .unset, .unset, .unset, .unset, .unset, .unset, .unset, .unset, .unset, .unset, .unset, .unset, .unset, .unset, .unset] [(.double (own_B a114 k115))])) st172 ?_
  have E180 : Exa Z T172.heap a122 "com/example/retinue/retinue/ErlangB" := Exa.keep E166 Kq175
  have Z181 : n0 ≤ T172.heap.size := Nat.le_trans Z167 Kq175.1
  have K182 : Keep h0 T172.heap [] := K168.trans Kq175 (allS (Or.inr gh124) all0)
  have A183 := (⟨X172, hx, hby⟩ : Ax _ _ _ _ _ _ _ _ _ _ _ _ _ _ _)
  refine g_dstore A183 at_59 (ls' := #[.val (.int p0), .val (.int p1), .val (.int p2), .val (.double a114), .second, .val (.int (Int32.ofNat k115)), .val (.int (Int32.ofNat k118)), .val (.ref a122), .val (.double (own_B a114 k115)), .second, .val (.double (own_B a114 k118)), .second, .val (.double (own_B a114 k115)), .second, .unset, .unset, .unset, .unset, .unset, .unset, .unset, .unset, .unset, .unset, .unset, .unset, .unset, .unset, .unset, .unset]) rfl (pc' := 61) rfl ?_
  obtain ⟨T184, h184, X184, e184, E184, EA184, D184, -, st184⟩ := newO X172 hx hZ hown (hw _ (List.mem_of_getElem? (i := 2) rfl)) (hw _ (List.mem_of_getElem? (i := 3) rfl)) (hw _ (List.mem_of_getElem? (i := 4) rfl)) rfl (g := (mkF m 61 #[.val (.int p0), .val (.int p1), .val (.int p2), .val (.double a114), .second, .val (.int (Int32.ofNat k115)), .val (.int (Int32.ofNat k118)), .val (.ref a122), .val (.double (own_B a114 k115)), .second, .val (.double (own_B a114 k118)), .second, .val (.double (own_B a114 k115)), .second, .unset, .unset, .unset, .unset, .unset, .unset, .unset, .unset, .unset, .unset, .unset, .unset, .unset, .unset, .unset, .unset] [])) rfl (hb hby at_61) (by decide) (by decide)
  obtain ⟨a185, ea185⟩ : ∃ z, z = T172.heap.size := ⟨_, rfl⟩
  rw [← ea185] at EA184 D184 st184
  have ne186 : a122 ≠ a185 := own_ne ea185 E180.lt
  have g187 : n0 ≤ a185 := by rw [ea185]; exact Z181
  have gh188 : h0.size ≤ a185 := by rw [ea185]; exact K182.1
  have K189 : Keep h0 h184 [] := K182.ext E184
  have E190 : Exa Z h184 a122 "com/example/retinue/retinue/ErlangB" := Exa.ext E184 E180
  have F191 : Fld Z h184 a122 "com/example/retinue/retinue/ErlangB" "servers" "I" (.int (Int32.ofNat k115)) := Fld.ext E184 F176
  have F192 : Fld Z h184 a122 "com/example/retinue/retinue/ErlangB" "blocking" "D" (.double (own_B a114 k115)) := Fld.ext E184 F177
  have F193 : Fld Z h184 a122 "com/example/retinue/retinue/ErlangB" "load" "D" (.double a114) := Fld.ext E184 F178
  have Z194 : n0 ≤ h184.size := Nat.le_trans Z181 E184.1
  have F195 : Fld Z h184 a185 "com/example/retinue/retinue/ErlangB" "blocking" "D" (.double (0 : UInt64)) := D184 (Or.inl (hw _ (List.mem_of_getElem? (i := 12) rfl))) (ty := .double) (by decide)
  have F196 : Fld Z h184 a185 "com/example/retinue/retinue/ErlangB" "load" "D" (.double (0 : UInt64)) := D184 (Or.inr (hw _ (List.mem_of_getElem? (i := 15) rfl))) (ty := .double) (by decide)
  have F197 : Fld Z h184 a185 "com/example/retinue/retinue/ErlangB" "servers" "I" (.int (0 : Int32)) := D184 (Or.inl (hw _ (List.mem_of_getElem? (i := 22) rfl))) (ty := .int) (by decide)
  refine Go.of (g' := (mkF m 64 #[.val (.int p0), .val (.int p1), .val (.int p2), .val (.double a114), .second, .val (.int (Int32.ofNat k115)), .val (.int (Int32.ofNat k118)), .val (.ref a122), .val (.double (own_B a114 k115)), .second, .val (.double (own_B a114 k118)), .second, .val (.double (own_B a114 k115)), .second, .unset, .unset, .unset, .unset, .unset, .unset, .unset, .unset, .unset, .unset, .unset, .unset, .unset, .unset, .unset, .unset] [(.ref a185)])) st184 ?_
  have A198 := (⟨X184, hx, hby⟩ : Ax _ _ _ _ _ _ _ _ _ _ _ _ _ _ _)
  refine g_dup A198 at_64 rfl (pc' := 65) rfl ?_
  refine g_dloadN A198 at_65 rfl (pc' := 66) rfl ?_
  obtain ⟨vv199, _, ⟨T199, L199, k199, n199⟩, -, X199, ⟨L199c, hQ199, l199, y199, z199⟩, st199⟩ := X184.specialBack hx (y := (⟨"com/example/retinue/retinue/ErlangB", "<init>", "(D)V"⟩ : MethodName)) rfl hown (mvT hZ (hw _ (List.mem_of_getElem? (i := 5) rfl))) (mvT hZ (hw _ (List.mem_of_getElem? (i := 6) rfl))) (mvT hZ (hw _ (List.mem_of_getElem? (i := 7) rfl))) (by decide) (backOf (W := 1) (rm1 l Z a0 hw [] a185 a114 (.double (0 : UInt64)) (.double (0 : UInt64)) (.int (0 : Int32)) h184 n0 Z194 EA184 F195 F196 F197 g187 hA) hZ (hw _ (List.mem_of_getElem? (i := 7) rfl)) (hw _ (List.mem_of_getElem? (i := 4) rfl)) (by decide) (by decide)) (g := (mkF m 66 #[.val (.int p0), .val (.int p1), .val (.int p2), .val (.double a114), .second, .val (.int (Int32.ofNat k115)), .val (.int (Int32.ofNat k118)), .val (.ref a122), .val (.double (own_B a114 k115)), .second, .val (.double (own_B a114 k118)), .second, .val (.double (own_B a114 k115)), .second, .unset, .unset, .unset, .unset, .unset, .unset, .unset, .unset, .unset, .unset, .unset, .unset, .unset, .unset, .unset, .unset] [(.double a114), (.ref a185), (.ref a185)])) rfl (by rw [hml]; rfl) (Steps.refl _) (a := a185) (argsL := [(.double a114)]) (rest := [(.ref a185)]) (lenOf pd_0 rfl) rfl (by show 2 * 0 + _ ≤ _; exact Nat.le_of_eq rfl) (hb hby at_66) (fun _ _ => ⟨rfl, e184, (by decide : 2 + 0 ≤ _), (by decide : 6 + 0 ≤ _)⟩)
  have hQ199b : Q1 Z a185 a114 (.double (0 : UInt64)) (.double (0 : UInt64)) (.int (0 : Int32)) h184 n0 vv199 T199.heap L199c := hQ199
  clear hQ199
  dsimp only [Pt.U, Pt.locs, Pt.cells, Pt.slots] at X199 l199 y199 z199 st199
  subst y199 z199
  obtain ⟨rfl, Nq200, Kq201, F202, F203, F204⟩ := hQ199b
  have N205 : Fr n0 L199 := by rw [l199]; exact Fr.app N179 Nq200
  refine Go.tr (g' := (mkF m 69 #[.val (.int p0), .val (.int p1), .val (.int p2), .val (.double a114), .second, .val (.int (Int32.ofNat k115)), .val (.int (Int32.ofNat k118)), .val (.ref a122), .val (.double (own_B a114 k115)), .second, .val (.double (own_B a114 k118)), .second, .val (.double (own_B a114 k115)), .second, .unset, .unset, .unset, .unset, .unset, .unset, .unset, .unset, .unset, .unset, .unset, .unset, .unset, .unset, .unset, .unset] [(.ref a185)])) st199 ?_
  have E206 : Exa Z T199.heap a122 "com/example/retinue/retinue/ErlangB" := Exa.keep E190 Kq201
  have F207 : Fld Z T199.heap a122 "com/example/retinue/retinue/ErlangB" "servers" "I" (.int (Int32.ofNat k115)) := Fld.keep F191 Kq201 (ninS ne186 nin0)
  have F208 : Fld Z T199.heap a122 "com/example/retinue/retinue/ErlangB" "blocking" "D" (.double (own_B a114 k115)) := Fld.keep F192 Kq201 (ninS ne186 nin0)
  have F209 : Fld Z T199.heap a122 "com/example/retinue/retinue/ErlangB" "load" "D" (.double a114) := Fld.keep F193 Kq201 (ninS ne186 nin0)
  have E210 : Exa Z T199.heap a185 "com/example/retinue/retinue/ErlangB" := Exa.keep EA184 Kq201
  have Z211 : n0 ≤ T199.heap.size := Nat.le_trans Z194 Kq201.1
  have K212 : Keep h0 T199.heap [] := K189.trans Kq201 (allS (Or.inr gh188) all0)
  have A213 := (⟨X199, hx, hby⟩ : Ax _ _ _ _ _ _ _ _ _ _ _ _ _ _ _)
  refine g_astore A213 at_69 rfl (ls' := #[.val (.int p0), .val (.int p1), .val (.int p2), .val (.double a114), .second, .val (.int (Int32.ofNat k115)), .val (.int (Int32.ofNat k118)), .val (.ref a122), .val (.double (own_B a114 k115)), .second, .val (.double (own_B a114 k118)), .second, .val (.double (own_B a114 k115)), .second, .val (.ref a185), .unset, .unset, .unset, .unset, .unset, .unset, .unset, .unset, .unset, .unset, .unset, .unset, .unset, .unset, .unset]) rfl (pc' := 71) rfl ?_
  refine g_aload A213 at_71 rfl rfl (pc' := 73) rfl ?_
  refine g_iload A213 at_73 rfl (pc' := 75) rfl ?_
  have hp214 : k118 ≤ 1000 := (by omega)
  have hp215 : 0 ≤ 1000 := (by decide)
  obtain ⟨cq217, kq217, q217a, q217b, q217c⟩ := isOf hZ rfl E210
  obtain ⟨vv216, _, ⟨T216, L216, k216, n216⟩, -, X216, ⟨L216c, hQ216, l216, y216, z216⟩, st216⟩ := X199.virtualBack hx (y := (⟨"com/example/retinue/retinue/ErlangB", "blocking", "(I)D"⟩ : MethodName)) (z := (⟨"com/example/retinue/retinue/ErlangB", "blocking", "(I)D"⟩ : MethodName)) hown (mvT hZ (hw _ (List.mem_of_getElem? (i := 16) rfl))) (mvT hZ (hw _ (List.mem_of_getElem? (i := 17) rfl))) (notFace_of_selects (args := #[]) (mvT hZ (hw _ (List.mem_of_getElem? (i := 19) rfl)))) (mvT hZ (hw _ (List.mem_of_getElem? (i := 19) rfl))) (mvT hZ (hw _ (List.mem_of_getElem? (i := 18) rfl))) (by decide) (backOf (W := 0) (rm3 l Z a0 hw [] a185 k118 0 a114 T199.heap n0 Z211 E210 F204 F202 F203 g187 hA hp214 hp215) hZ (hw _ (List.mem_of_getElem? (i := 20) rfl)) (hw _ (List.mem_of_getElem? (i := 4) rfl)) (by decide) (by decide)) q217a q217c (g := (mkF m 75 #[.val (.int p0), .val (.int p1), .val (.int p2), .val (.double a114), .second, .val (.int (Int32.ofNat k115)), .val (.int (Int32.ofNat k118)), .val (.ref a122), .val (.double (own_B a114 k115)), .second, .val (.double (own_B a114 k118)), .second, .val (.double (own_B a114 k115)), .second, .val (.ref a185), .unset, .unset, .unset, .unset, .unset, .unset, .unset, .unset, .unset, .unset, .unset, .unset, .unset, .unset, .unset] [(.int (Int32.ofNat k118)), (.ref a185)])) rfl (by rw [hml]; rfl) (Steps.refl _) (argsL := [(.int (Int32.ofNat k118))]) (rest := []) (lenOf pd_1 rfl) rfl (by show 2 * 0 + _ ≤ _; exact Nat.le_of_eq rfl) (hb hby at_75) (fun _ _ => ⟨rfl, rfl, (by decide : 2 + 0 ≤ _), (by decide : 6 + 0 ≤ _)⟩)
  have hQ216b : Q3 Z a185 k118 0 a114 T199.heap n0 vv216 T216.heap L216c := hQ216
  clear hQ216
  dsimp only [Pt.U, Pt.locs, Pt.cells, Pt.slots] at X216 l216 y216 z216 st216
  subst y216 z216
  obtain ⟨rfl, Nq218, Kq219, F220, F221, F222⟩ := hQ216b
  have N223 : Fr n0 L216 := by rw [l216]; exact Fr.app N205 Nq218
  refine Go.tr (g' := (mkF m 78 #[.val (.int p0), .val (.int p1), .val (.int p2), .val (.double a114), .second, .val (.int (Int32.ofNat k115)), .val (.int (Int32.ofNat k118)), .val (.ref a122), .val (.double (own_B a114 k115)), .second, .val (.double (own_B a114 k118)), .second, .val (.double (own_B a114 k115)), .second, .val (.ref a185), .unset, .unset, .unset, .unset, .unset, .unset, .unset, .unset, .unset, .unset, .unset, .unset, .unset, .unset, .unset] [(.double (own_B a114 k118))])) st216 ?_
  have E224 : Exa Z T216.heap a122 "com/example/retinue/retinue/ErlangB" := Exa.keep E206 Kq219
  have F225 : Fld Z T216.heap a122 "com/example/retinue/retinue/ErlangB" "servers" "I" (.int (Int32.ofNat k115)) := Fld.keep F207 Kq219 (ninS ne186 nin0)
  have F226 : Fld Z T216.heap a122 "com/example/retinue/retinue/ErlangB" "blocking" "D" (.double (own_B a114 k115)) := Fld.keep F208 Kq219 (ninS ne186 nin0)
  have F227 : Fld Z T216.heap a122 "com/example/retinue/retinue/ErlangB" "load" "D" (.double a114) := Fld.keep F209 Kq219 (ninS ne186 nin0)
  have E228 : Exa Z T216.heap a185 "com/example/retinue/retinue/ErlangB" := Exa.keep E210 Kq219
  have Z229 : n0 ≤ T216.heap.size := Nat.le_trans Z211 Kq219.1
  have K230 : Keep h0 T216.heap [] := K212.trans Kq219 (allS (Or.inr gh188) all0)
  have A231 := (⟨X216, hx, hby⟩ : Ax _ _ _ _ _ _ _ _ _ _ _ _ _ _ _)
  refine g_dstore A231 at_78 (ls' := #[.val (.int p0), .val (.int p1), .val (.int p2), .val (.double a114), .second, .val (.int (Int32.ofNat k115)), .val (.int (Int32.ofNat k118)), .val (.ref a122), .val (.double (own_B a114 k115)), .second, .val (.double (own_B a114 k118)), .second, .val (.double (own_B a114 k115)), .second, .val (.ref a185), .val (.double (own_B a114 k118)), .second, .unset, .unset, .unset, .unset, .unset, .unset, .unset, .unset, .unset, .unset, .unset, .unset, .unset]) rfl (pc' := 80) rfl ?_
  refine g_aload A231 at_80 rfl rfl (pc' := 82) rfl ?_
  refine g_iload A231 at_82 rfl (pc' := 84) rfl ?_
  refine g_iconst A231 at_84 (v := (1 : Int32)) rfl (pc' := 85) rfl ?_
  refine g_iadd A231 at_85 (pc' := 86) rfl ?_
  rw [own_succ]
  have hp232 : (k118 + 1) ≤ 1000 := (by omega)
  have hp233 : k118 ≤ 1000 := (by omega)
  obtain ⟨cq235, kq235, q235a, q235b, q235c⟩ := isOf hZ rfl E228
  obtain ⟨vv234, _, ⟨T234, L234, k234, n234⟩, -, X234, ⟨L234c, hQ234, l234, y234, z234⟩, st234⟩ := X216.virtualBack hx (y := (⟨"com/example/retinue/retinue/ErlangB", "blocking", "(I)D"⟩ : MethodName)) (z := (⟨"com/example/retinue/retinue/ErlangB", "blocking", "(I)D"⟩ : MethodName)) hown (mvT hZ (hw _ (List.mem_of_getElem? (i := 16) rfl))) (mvT hZ (hw _ (List.mem_of_getElem? (i := 17) rfl))) (notFace_of_selects (args := #[]) (mvT hZ (hw _ (List.mem_of_getElem? (i := 19) rfl)))) (mvT hZ (hw _ (List.mem_of_getElem? (i := 19) rfl))) (mvT hZ (hw _ (List.mem_of_getElem? (i := 18) rfl))) (by decide) (backOf (W := 0) (rm3 l Z a0 hw [] a185 (k118 + 1) k118 a114 T216.heap n0 Z229 E228 F220 F221 F222 g187 hA hp232 hp233) hZ (hw _ (List.mem_of_getElem? (i := 20) rfl)) (hw _ (List.mem_of_getElem? (i := 4) rfl)) (by decide) (by decide)) q235a q235c (g := (mkF m 86 #[.val (.int p0), .val (.int p1), .val (.int p2), .val (.double a114), .second, .val (.int (Int32.ofNat k115)), .val (.int (Int32.ofNat k118)), .val (.ref a122), .val (.double (own_B a114 k115)), .second, .val (.double (own_B a114 k118)), .second, .val (.double (own_B a114 k115)), .second, .val (.ref a185), .val (.double (own_B a114 k118)), .second, .unset, .unset, .unset, .unset, .unset, .unset, .unset, .unset, .unset, .unset, .unset, .unset, .unset] [(.int (Int32.ofNat (k118 + 1))), (.ref a185)])) rfl (by rw [hml]; rfl) (Steps.refl _) (argsL := [(.int (Int32.ofNat (k118 + 1)))]) (rest := []) (lenOf pd_1 rfl) rfl (by show 2 * 0 + _ ≤ _; exact Nat.le_of_eq rfl) (hb hby at_86) (fun _ _ => ⟨rfl, rfl, (by decide : 2 + 0 ≤ _), (by decide : 6 + 0 ≤ _)⟩)
  have hQ234b : Q3 Z a185 (k118 + 1) k118 a114 T216.heap n0 vv234 T234.heap L234c := hQ234
  clear hQ234
  dsimp only [Pt.U, Pt.locs, Pt.cells, Pt.slots] at X234 l234 y234 z234 st234
  subst y234 z234
  obtain ⟨rfl, Nq236, Kq237, F238, F239, F240⟩ := hQ234b
  have N241 : Fr n0 L234 := by rw [l234]; exact Fr.app N223 Nq236
  refine Go.tr (g' := (mkF m 89 #[.val (.int p0), .val (.int p1), .val (.int p2), .val (.double a114), .second, .val (.int (Int32.ofNat k115)), .val (.int (Int32.ofNat k118)), .val (.ref a122), .val (.double (own_B a114 k115)), .second, .val (.double (own_B a114 k118)), .second, .val (.double (own_B a114 k115)), .second, .val (.ref a185), .val (.double (own_B a114 k118)), .second, .unset, .unset, .unset, .unset, .unset, .unset, .unset, .unset, .unset, .unset, .unset, .unset, .unset] [(.double (own_B a114 (k118 + 1)))])) st234 ?_
  have E242 : Exa Z T234.heap a122 "com/example/retinue/retinue/ErlangB" := Exa.keep E224 Kq237
  have F243 : Fld Z T234.heap a122 "com/example/retinue/retinue/ErlangB" "servers" "I" (.int (Int32.ofNat k115)) := Fld.keep F225 Kq237 (ninS ne186 nin0)
  have F244 : Fld Z T234.heap a122 "com/example/retinue/retinue/ErlangB" "blocking" "D" (.double (own_B a114 k115)) := Fld.keep F226 Kq237 (ninS ne186 nin0)
  have F245 : Fld Z T234.heap a122 "com/example/retinue/retinue/ErlangB" "load" "D" (.double a114) := Fld.keep F227 Kq237 (ninS ne186 nin0)
  have E246 : Exa Z T234.heap a185 "com/example/retinue/retinue/ErlangB" := Exa.keep E228 Kq237
  have Z247 : n0 ≤ T234.heap.size := Nat.le_trans Z229 Kq237.1
  have K248 : Keep h0 T234.heap [] := K230.trans Kq237 (allS (Or.inr gh188) all0)
  have A249 := (⟨X234, hx, hby⟩ : Ax _ _ _ _ _ _ _ _ _ _ _ _ _ _ _)
  refine g_dstore A249 at_89 (ls' := #[.val (.int p0), .val (.int p1), .val (.int p2), .val (.double a114), .second, .val (.int (Int32.ofNat k115)), .val (.int (Int32.ofNat k118)), .val (.ref a122), .val (.double (own_B a114 k115)), .second, .val (.double (own_B a114 k118)), .second, .val (.double (own_B a114 k115)), .second, .val (.ref a185), .val (.double (own_B a114 k118)), .second, .val (.double (own_B a114 (k118 + 1))), .second, .unset, .unset, .unset, .unset, .unset, .unset, .unset, .unset, .unset, .unset, .unset]) rfl (pc' := 91) rfl ?_
  obtain ⟨T250, h250, X250, e250, E250, EA250, D250, -, st250⟩ := newO X234 hx hZ hown (hw _ (List.mem_of_getElem? (i := 2) rfl)) (hw _ (List.mem_of_getElem? (i := 3) rfl)) (hw _ (List.mem_of_getElem? (i := 4) rfl)) rfl (g := (mkF m 91 #[.val (.int p0), .val (.int p1), .val (.int p2), .val (.double a114), .second, .val (.int (Int32.ofNat k115)), .val (.int (Int32.ofNat k118)), .val (.ref a122), .val (.double (own_B a114 k115)), .second, .val (.double (own_B a114 k118)), .second, .val (.double (own_B a114 k115)), .second, .val (.ref a185), .val (.double (own_B a114 k118)), .second, .val (.double (own_B a114 (k118 + 1))), .second, .unset, .unset, .unset, .unset, .unset, .unset, .unset, .unset, .unset, .unset, .unset] [])) rfl (hb hby at_91) (by decide) (by decide)
  obtain ⟨a251, ea251⟩ : ∃ z, z = T234.heap.size := ⟨_, rfl⟩
  rw [← ea251] at EA250 D250 st250
  have ne252 : a122 ≠ a251 := own_ne ea251 E242.lt
  have ne253 : a185 ≠ a251 := own_ne ea251 E246.lt
  have g254 : n0 ≤ a251 := by rw [ea251]; exact Z247
  have gh255 : h0.size ≤ a251 := by rw [ea251]; exact K248.1
  have K256 : Keep h0 h250 [] := K248.ext E250
  have E257 : Exa Z h250 a122 "com/example/retinue/retinue/ErlangB" := Exa.ext E250 E242
  have F258 : Fld Z h250 a122 "com/example/retinue/retinue/ErlangB" "servers" "I" (.int (Int32.ofNat k115)) := Fld.ext E250 F243
  have F259 : Fld Z h250 a122 "com/example/retinue/retinue/ErlangB" "blocking" "D" (.double (own_B a114 k115)) := Fld.ext E250 F244
  have F260 : Fld Z h250 a122 "com/example/retinue/retinue/ErlangB" "load" "D" (.double a114) := Fld.ext E250 F245
  have E261 : Exa Z h250 a185 "com/example/retinue/retinue/ErlangB" := Exa.ext E250 E246
  have F262 : Fld Z h250 a185 "com/example/retinue/retinue/ErlangB" "servers" "I" (.int (Int32.ofNat (k118 + 1))) := Fld.ext E250 F238
  have F263 : Fld Z h250 a185 "com/example/retinue/retinue/ErlangB" "blocking" "D" (.double (own_B a114 (k118 + 1))) := Fld.ext E250 F239
  have F264 : Fld Z h250 a185 "com/example/retinue/retinue/ErlangB" "load" "D" (.double a114) := Fld.ext E250 F240
  have Z265 : n0 ≤ h250.size := Nat.le_trans Z247 E250.1
  have F266 : Fld Z h250 a251 "com/example/retinue/retinue/ErlangB" "blocking" "D" (.double (0 : UInt64)) := D250 (Or.inl (hw _ (List.mem_of_getElem? (i := 12) rfl))) (ty := .double) (by decide)
  have F267 : Fld Z h250 a251 "com/example/retinue/retinue/ErlangB" "load" "D" (.double (0 : UInt64)) := D250 (Or.inr (hw _ (List.mem_of_getElem? (i := 15) rfl))) (ty := .double) (by decide)
  have F268 : Fld Z h250 a251 "com/example/retinue/retinue/ErlangB" "servers" "I" (.int (0 : Int32)) := D250 (Or.inl (hw _ (List.mem_of_getElem? (i := 22) rfl))) (ty := .int) (by decide)
  refine Go.of (g' := (mkF m 94 #[.val (.int p0), .val (.int p1), .val (.int p2), .val (.double a114), .second, .val (.int (Int32.ofNat k115)), .val (.int (Int32.ofNat k118)), .val (.ref a122), .val (.double (own_B a114 k115)), .second, .val (.double (own_B a114 k118)), .second, .val (.double (own_B a114 k115)), .second, .val (.ref a185), .val (.double (own_B a114 k118)), .second, .val (.double (own_B a114 (k118 + 1))), .second, .unset, .unset, .unset, .unset, .unset, .unset, .unset, .unset, .unset, .unset, .unset] [(.ref a251)])) st250 ?_
  have A269 := (⟨X250, hx, hby⟩ : Ax _ _ _ _ _ _ _ _ _ _ _ _ _ _ _)
  refine g_dup A269 at_94 rfl (pc' := 95) rfl ?_
  refine g_dloadN A269 at_95 rfl (pc' := 96) rfl ?_
  obtain ⟨vv270, _, ⟨T270, L270, k270, n270⟩, -, X270, ⟨L270c, hQ270, l270, y270, z270⟩, st270⟩ := X250.specialBack hx (y := (⟨"com/example/retinue/retinue/ErlangB", "<init>", "(D)V"⟩ : MethodName)) rfl hown (mvT hZ (hw _ (List.mem_of_getElem? (i := 5) rfl))) (mvT hZ (hw _ (List.mem_of_getElem? (i := 6) rfl))) (mvT hZ (hw _ (List.mem_of_getElem? (i := 7) rfl))) (by decide) (backOf (W := 1) (rm1 l Z a0 hw [] a251 a114 (.double (0 : UInt64)) (.double (0 : UInt64)) (.int (0 : Int32)) h250 n0 Z265 EA250 F266 F267 F268 g254 hA) hZ (hw _ (List.mem_of_getElem? (i := 7) rfl)) (hw _ (List.mem_of_getElem? (i := 4) rfl)) (by decide) (by decide)) (g := (mkF m 96 #[.val (.int p0), .val (.int p1), .val (.int p2), .val (.double a114), .second, .val (.int (Int32.ofNat k115)), .val (.int (Int32.ofNat k118)), .val (.ref a122), .val (.double (own_B a114 k115)), .second, .val (.double (own_B a114 k118)), .second, .val (.double (own_B a114 k115)), .second, .val (.ref a185), .val (.double (own_B a114 k118)), .second, .val (.double (own_B a114 (k118 + 1))), .second, .unset, .unset, .unset, .unset, .unset, .unset, .unset, .unset, .unset, .unset, .unset] [(.double a114), (.ref a251), (.ref a251)])) rfl (by rw [hml]; rfl) (Steps.refl _) (a := a251) (argsL := [(.double a114)]) (rest := [(.ref a251)]) (lenOf pd_0 rfl) rfl (by show 2 * 0 + _ ≤ _; exact Nat.le_of_eq rfl) (hb hby at_96) (fun _ _ => ⟨rfl, e250, (by decide : 3 + 0 ≤ _), (by decide : 9 + 0 ≤ _)⟩)
  have hQ270b : Q1 Z a251 a114 (.double (0 : UInt64)) (.double (0 : UInt64)) (.int (0 : Int32)) h250 n0 vv270 T270.heap L270c := hQ270
  clear hQ270
  dsimp only [Pt.U, Pt.locs, Pt.cells, Pt.slots] at X270 l270 y270 z270 st270
  subst y270 z270
  obtain ⟨rfl, Nq271, Kq272, F273, F274, F275⟩ := hQ270b
  have N276 : Fr n0 L270 := by rw [l270]; exact Fr.app N241 Nq271
  refine Go.tr (g' := (mkF m 99 #[.val (.int p0), .val (.int p1), .val (.int p2), .val (.double a114), .second, .val (.int (Int32.ofNat k115)), .val (.int (Int32.ofNat k118)), .val (.ref a122), .val (.double (own_B a114 k115)), .second, .val (.double (own_B a114 k118)), .second, .val (.double (own_B a114 k115)), .second, .val (.ref a185), .val (.double (own_B a114 k118)), .second, .val (.double (own_B a114 (k118 + 1))), .second, .unset, .unset, .unset, .unset, .unset, .unset, .unset, .unset, .unset, .unset, .unset] [(.ref a251)])) st270 ?_
  have E277 : Exa Z T270.heap a122 "com/example/retinue/retinue/ErlangB" := Exa.keep E257 Kq272
  have F278 : Fld Z T270.heap a122 "com/example/retinue/retinue/ErlangB" "servers" "I" (.int (Int32.ofNat k115)) := Fld.keep F258 Kq272 (ninS ne252 nin0)
  have F279 : Fld Z T270.heap a122 "com/example/retinue/retinue/ErlangB" "blocking" "D" (.double (own_B a114 k115)) := Fld.keep F259 Kq272 (ninS ne252 nin0)
  have F280 : Fld Z T270.heap a122 "com/example/retinue/retinue/ErlangB" "load" "D" (.double a114) := Fld.keep F260 Kq272 (ninS ne252 nin0)
  have E281 : Exa Z T270.heap a185 "com/example/retinue/retinue/ErlangB" := Exa.keep E261 Kq272
  have F282 : Fld Z T270.heap a185 "com/example/retinue/retinue/ErlangB" "servers" "I" (.int (Int32.ofNat (k118 + 1))) := Fld.keep F262 Kq272 (ninS ne253 nin0)
  have F283 : Fld Z T270.heap a185 "com/example/retinue/retinue/ErlangB" "blocking" "D" (.double (own_B a114 (k118 + 1))) := Fld.keep F263 Kq272 (ninS ne253 nin0)
  have F284 : Fld Z T270.heap a185 "com/example/retinue/retinue/ErlangB" "load" "D" (.double a114) := Fld.keep F264 Kq272 (ninS ne253 nin0)
  have E285 : Exa Z T270.heap a251 "com/example/retinue/retinue/ErlangB" := Exa.keep EA250 Kq272
  have Z286 : n0 ≤ T270.heap.size := Nat.le_trans Z265 Kq272.1
  have K287 : Keep h0 T270.heap [] := K256.trans Kq272 (allS (Or.inr gh255) all0)
  have A288 := (⟨X270, hx, hby⟩ : Ax _ _ _ _ _ _ _ _ _ _ _ _ _ _ _)
  refine g_astore A288 at_99 rfl (ls' := #[.val (.int p0), .val (.int p1), .val (.int p2), .val (.double a114), .second, .val (.int (Int32.ofNat k115)), .val (.int (Int32.ofNat k118)), .val (.ref a122), .val (.double (own_B a114 k115)), .second, .val (.double (own_B a114 k118)), .second, .val (.double (own_B a114 k115)), .second, .val (.ref a185), .val (.double (own_B a114 k118)), .second, .val (.double (own_B a114 (k118 + 1))), .second, .val (.ref a251), .unset, .unset, .unset, .unset, .unset, .unset, .unset, .unset, .unset, .unset]) rfl (pc' := 101) rfl ?_
  refine g_aload A288 at_101 rfl rfl (pc' := 103) rfl ?_
  refine g_iconst A288 at_103 (v := (0 : Int32)) rfl (pc' := 104) rfl ?_
  have hp289 : 0 ≤ 1000 := (by decide)
  have hp290 : 0 ≤ 1000 := (by decide)
  obtain ⟨cq292, kq292, q292a, q292b, q292c⟩ := isOf hZ rfl E285
  obtain ⟨vv291, _, ⟨T291, L291, k291, n291⟩, -, X291, ⟨L291c, hQ291, l291, y291, z291⟩, st291⟩ := X270.virtualBack hx (y := (⟨"com/example/retinue/retinue/ErlangB", "blocking", "(I)D"⟩ : MethodName)) (z := (⟨"com/example/retinue/retinue/ErlangB", "blocking", "(I)D"⟩ : MethodName)) hown (mvT hZ (hw _ (List.mem_of_getElem? (i := 16) rfl))) (mvT hZ (hw _ (List.mem_of_getElem? (i := 17) rfl))) (notFace_of_selects (args := #[]) (mvT hZ (hw _ (List.mem_of_getElem? (i := 19) rfl)))) (mvT hZ (hw _ (List.mem_of_getElem? (i := 19) rfl))) (mvT hZ (hw _ (List.mem_of_getElem? (i := 18) rfl))) (by decide) (backOf (W := 0) (rm3 l Z a0 hw [] a251 0 0 a114 T270.heap n0 Z286 E285 F275 F273 F274 g254 hA hp289 hp290) hZ (hw _ (List.mem_of_getElem? (i := 20) rfl)) (hw _ (List.mem_of_getElem? (i := 4) rfl)) (by decide) (by decide)) q292a q292c (g := (mkF m 104 #[.val (.int p0), .val (.int p1), .val (.int p2), .val (.double a114), .second, .val (.int (Int32.ofNat k115)), .val (.int (Int32.ofNat k118)), .val (.ref a122), .val (.double (own_B a114 k115)), .second, .val (.double (own_B a114 k118)), .second, .val (.double (own_B a114 k115)), .second, .val (.ref a185), .val (.double (own_B a114 k118)), .second, .val (.double (own_B a114 (k118 + 1))), .second, .val (.ref a251), .unset, .unset, .unset, .unset, .unset, .unset, .unset, .unset, .unset, .unset] [(.int (0 : Int32)), (.ref a251)])) rfl (by rw [hml]; rfl) (Steps.refl _) (argsL := [(.int (0 : Int32))]) (rest := []) (lenOf pd_1 rfl) rfl (by show 2 * 0 + _ ≤ _; exact Nat.le_of_eq rfl) (hb hby at_104) (fun _ _ => ⟨rfl, rfl, (by decide : 3 + 0 ≤ _), (by decide : 9 + 0 ≤ _)⟩)
  have hQ291b : Q3 Z a251 0 0 a114 T270.heap n0 vv291 T291.heap L291c := hQ291
  clear hQ291
  dsimp only [Pt.U, Pt.locs, Pt.cells, Pt.slots] at X291 l291 y291 z291 st291
  subst y291 z291
  obtain ⟨rfl, Nq293, Kq294, F295, F296, F297⟩ := hQ291b
  have N298 : Fr n0 L291 := by rw [l291]; exact Fr.app N276 Nq293
  refine Go.tr (g' := (mkF m 107 #[.val (.int p0), .val (.int p1), .val (.int p2), .val (.double a114), .second, .val (.int (Int32.ofNat k115)), .val (.int (Int32.ofNat k118)), .val (.ref a122), .val (.double (own_B a114 k115)), .second, .val (.double (own_B a114 k118)), .second, .val (.double (own_B a114 k115)), .second, .val (.ref a185), .val (.double (own_B a114 k118)), .second, .val (.double (own_B a114 (k118 + 1))), .second, .val (.ref a251), .unset, .unset, .unset, .unset, .unset, .unset, .unset, .unset, .unset, .unset] [(.double (own_B a114 0))])) st291 ?_
  have E299 : Exa Z T291.heap a122 "com/example/retinue/retinue/ErlangB" := Exa.keep E277 Kq294
  have F300 : Fld Z T291.heap a122 "com/example/retinue/retinue/ErlangB" "servers" "I" (.int (Int32.ofNat k115)) := Fld.keep F278 Kq294 (ninS ne252 nin0)
  have F301 : Fld Z T291.heap a122 "com/example/retinue/retinue/ErlangB" "blocking" "D" (.double (own_B a114 k115)) := Fld.keep F279 Kq294 (ninS ne252 nin0)
  have F302 : Fld Z T291.heap a122 "com/example/retinue/retinue/ErlangB" "load" "D" (.double a114) := Fld.keep F280 Kq294 (ninS ne252 nin0)
  have E303 : Exa Z T291.heap a185 "com/example/retinue/retinue/ErlangB" := Exa.keep E281 Kq294
  have F304 : Fld Z T291.heap a185 "com/example/retinue/retinue/ErlangB" "servers" "I" (.int (Int32.ofNat (k118 + 1))) := Fld.keep F282 Kq294 (ninS ne253 nin0)
  have F305 : Fld Z T291.heap a185 "com/example/retinue/retinue/ErlangB" "blocking" "D" (.double (own_B a114 (k118 + 1))) := Fld.keep F283 Kq294 (ninS ne253 nin0)
  have F306 : Fld Z T291.heap a185 "com/example/retinue/retinue/ErlangB" "load" "D" (.double a114) := Fld.keep F284 Kq294 (ninS ne253 nin0)
  have E307 : Exa Z T291.heap a251 "com/example/retinue/retinue/ErlangB" := Exa.keep E285 Kq294
  have Z308 : n0 ≤ T291.heap.size := Nat.le_trans Z286 Kq294.1
  have K309 : Keep h0 T291.heap [] := K287.trans Kq294 (allS (Or.inr gh255) all0)
  have A310 := (⟨X291, hx, hby⟩ : Ax _ _ _ _ _ _ _ _ _ _ _ _ _ _ _)
  refine g_dstore A310 at_107 (ls' := #[.val (.int p0), .val (.int p1), .val (.int p2), .val (.double a114), .second, .val (.int (Int32.ofNat k115)), .val (.int (Int32.ofNat k118)), .val (.ref a122), .val (.double (own_B a114 k115)), .second, .val (.double (own_B a114 k118)), .second, .val (.double (own_B a114 k115)), .second, .val (.ref a185), .val (.double (own_B a114 k118)), .second, .val (.double (own_B a114 (k118 + 1))), .second, .val (.ref a251), .val (.double (own_B a114 0)), .second, .unset, .unset, .unset, .unset, .unset, .unset, .unset, .unset]) rfl (pc' := 109) rfl ?_
  refine g_aload A310 at_109 rfl rfl (pc' := 111) rfl ?_
  refine g_iconst A310 at_111 (v := (1 : Int32)) rfl (pc' := 112) rfl ?_
  have hp311 : 1 ≤ 1000 := (by decide)
  have hp312 : 0 ≤ 1000 := (by decide)
  obtain ⟨cq314, kq314, q314a, q314b, q314c⟩ := isOf hZ rfl E307
  obtain ⟨vv313, _, ⟨T313, L313, k313, n313⟩, -, X313, ⟨L313c, hQ313, l313, y313, z313⟩, st313⟩ := X291.virtualBack hx (y := (⟨"com/example/retinue/retinue/ErlangB", "blocking", "(I)D"⟩ : MethodName)) (z := (⟨"com/example/retinue/retinue/ErlangB", "blocking", "(I)D"⟩ : MethodName)) hown (mvT hZ (hw _ (List.mem_of_getElem? (i := 16) rfl))) (mvT hZ (hw _ (List.mem_of_getElem? (i := 17) rfl))) (notFace_of_selects (args := #[]) (mvT hZ (hw _ (List.mem_of_getElem? (i := 19) rfl)))) (mvT hZ (hw _ (List.mem_of_getElem? (i := 19) rfl))) (mvT hZ (hw _ (List.mem_of_getElem? (i := 18) rfl))) (by decide) (backOf (W := 0) (rm3 l Z a0 hw [] a251 1 0 a114 T291.heap n0 Z308 E307 F295 F296 F297 g254 hA hp311 hp312) hZ (hw _ (List.mem_of_getElem? (i := 20) rfl)) (hw _ (List.mem_of_getElem? (i := 4) rfl)) (by decide) (by decide)) q314a q314c (g := (mkF m 112 #[.val (.int p0), .val (.int p1), .val (.int p2), .val (.double a114), .second, .val (.int (Int32.ofNat k115)), .val (.int (Int32.ofNat k118)), .val (.ref a122), .val (.double (own_B a114 k115)), .second, .val (.double (own_B a114 k118)), .second, .val (.double (own_B a114 k115)), .second, .val (.ref a185), .val (.double (own_B a114 k118)), .second, .val (.double (own_B a114 (k118 + 1))), .second, .val (.ref a251), .val (.double (own_B a114 0)), .second, .unset, .unset, .unset, .unset, .unset, .unset, .unset, .unset] [(.int (1 : Int32)), (.ref a251)])) rfl (by rw [hml]; rfl) (Steps.refl _) (argsL := [(.int (1 : Int32))]) (rest := []) (lenOf pd_1 rfl) rfl (by show 2 * 0 + _ ≤ _; exact Nat.le_of_eq rfl) (hb hby at_112) (fun _ _ => ⟨rfl, rfl, (by decide : 3 + 0 ≤ _), (by decide : 9 + 0 ≤ _)⟩)
  have hQ313b : Q3 Z a251 1 0 a114 T291.heap n0 vv313 T313.heap L313c := hQ313
  clear hQ313
  dsimp only [Pt.U, Pt.locs, Pt.cells, Pt.slots] at X313 l313 y313 z313 st313
  subst y313 z313
  obtain ⟨rfl, Nq315, Kq316, F317, F318, F319⟩ := hQ313b
  have N320 : Fr n0 L313 := by rw [l313]; exact Fr.app N298 Nq315
  refine Go.tr (g' := (mkF m 115 #[.val (.int p0), .val (.int p1), .val (.int p2), .val (.double a114), .second, .val (.int (Int32.ofNat k115)), .val (.int (Int32.ofNat k118)), .val (.ref a122), .val (.double (own_B a114 k115)), .second, .val (.double (own_B a114 k118)), .second, .val (.double (own_B a114 k115)), .second, .val (.ref a185), .val (.double (own_B a114 k118)), .second, .val (.double (own_B a114 (k118 + 1))), .second, .val (.ref a251), .val (.double (own_B a114 0)), .second, .unset, .unset, .unset, .unset, .unset, .unset, .unset, .unset] [(.double (own_B a114 1))])) st313 ?_
  have E321 : Exa Z T313.heap a122 "com/example/retinue/retinue/ErlangB" := Exa.keep E299 Kq316
  have F322 : Fld Z T313.heap a122 "com/example/retinue/retinue/ErlangB" "servers" "I" (.int (Int32.ofNat k115)) := Fld.keep F300 Kq316 (ninS ne252 nin0)
  have F323 : Fld Z T313.heap a122 "com/example/retinue/retinue/ErlangB" "blocking" "D" (.double (own_B a114 k115)) := Fld.keep F301 Kq316 (ninS ne252 nin0)
  have F324 : Fld Z T313.heap a122 "com/example/retinue/retinue/ErlangB" "load" "D" (.double a114) := Fld.keep F302 Kq316 (ninS ne252 nin0)
  have E325 : Exa Z T313.heap a185 "com/example/retinue/retinue/ErlangB" := Exa.keep E303 Kq316
  have F326 : Fld Z T313.heap a185 "com/example/retinue/retinue/ErlangB" "servers" "I" (.int (Int32.ofNat (k118 + 1))) := Fld.keep F304 Kq316 (ninS ne253 nin0)
  have F327 : Fld Z T313.heap a185 "com/example/retinue/retinue/ErlangB" "blocking" "D" (.double (own_B a114 (k118 + 1))) := Fld.keep F305 Kq316 (ninS ne253 nin0)
  have F328 : Fld Z T313.heap a185 "com/example/retinue/retinue/ErlangB" "load" "D" (.double a114) := Fld.keep F306 Kq316 (ninS ne253 nin0)
  have E329 : Exa Z T313.heap a251 "com/example/retinue/retinue/ErlangB" := Exa.keep E307 Kq316
  have Z330 : n0 ≤ T313.heap.size := Nat.le_trans Z308 Kq316.1
  have K331 : Keep h0 T313.heap [] := K309.trans Kq316 (allS (Or.inr gh255) all0)
  have A332 := (⟨X313, hx, hby⟩ : Ax _ _ _ _ _ _ _ _ _ _ _ _ _ _ _)
  refine g_dstore A332 at_115 (ls' := #[.val (.int p0), .val (.int p1), .val (.int p2), .val (.double a114), .second, .val (.int (Int32.ofNat k115)), .val (.int (Int32.ofNat k118)), .val (.ref a122), .val (.double (own_B a114 k115)), .second, .val (.double (own_B a114 k118)), .second, .val (.double (own_B a114 k115)), .second, .val (.ref a185), .val (.double (own_B a114 k118)), .second, .val (.double (own_B a114 (k118 + 1))), .second, .val (.ref a251), .val (.double (own_B a114 0)), .second, .val (.double (own_B a114 1)), .second, .unset, .unset, .unset, .unset, .unset, .unset]) rfl (pc' := 117) rfl ?_
  refine g_dloadN A332 at_117 rfl (pc' := 118) rfl ?_
  refine g_dload A332 at_118 rfl (pc' := 120) rfl ?_
  refine g_dmul A332 at_120 (own_n1 hA (own_BU hA k118 (by omega))) (pc' := 121) rfl ?_
  refine g_dstore A332 at_121 (ls' := #[.val (.int p0), .val (.int p1), .val (.int p2), .val (.double a114), .second, .val (.int (Int32.ofNat k115)), .val (.int (Int32.ofNat k118)), .val (.ref a122), .val (.double (own_B a114 k115)), .second, .val (.double (own_B a114 k118)), .second, .val (.double (own_B a114 k115)), .second, .val (.ref a185), .val (.double (own_B a114 k118)), .second, .val (.double (own_B a114 (k118 + 1))), .second, .val (.ref a251), .val (.double (own_B a114 0)), .second, .val (.double (own_B a114 1)), .second, .val (.double (FP.dmul a114 (own_B a114 k118))), .second, .unset, .unset, .unset, .unset]) rfl (pc' := 123) rfl ?_
  refine g_dload A332 at_123 rfl (pc' := 125) rfl ?_
  refine g_dload A332 at_125 rfl (pc' := 127) rfl ?_
  refine g_iload A332 at_127 rfl (pc' := 129) rfl ?_
  refine g_iconst A332 at_129 (v := (1 : Int32)) rfl (pc' := 130) rfl ?_
  refine g_iadd A332 at_130 (pc' := 131) rfl ?_
  rw [own_succ]
  refine g_i2d A332 at_131 (pc' := 132) rfl ?_
  refine g_dload A332 at_132 rfl (pc' := 134) rfl ?_
  refine g_dadd A332 at_134 (own_n2 hA (own_BU hA k118 (by omega)) (by omega) (by omega)) (pc' := 135) rfl ?_
  refine g_ddiv A332 at_135 (own_n3 hA (own_BU hA k118 (by omega)) (by omega) (by omega)) (pc' := 136) rfl ?_
  refine g_dcmp A332 at_136 (pc' := 137) rfl ?_
  refine g_ifN A332 at_137 (d_l_ne_f (own_self (own_Uf (own_BU hA (k118 + 1) (by omega))))) (pc' := 140) rfl ?_
  refine g_iconst A332 at_140 (v := (1 : Int32)) rfl (pc' := 141) rfl ?_
  refine g_goto A332 at_141 (pc' := 145) rfl ?_
  refine g_istore A332 at_145 (ls' := #[.val (.int p0), .val (.int p1), .val (.int p2), .val (.double a114), .second, .val (.int (Int32.ofNat k115)), .val (.int (Int32.ofNat k118)), .val (.ref a122), .val (.double (own_B a114 k115)), .second, .val (.double (own_B a114 k118)), .second, .val (.double (own_B a114 k115)), .second, .val (.ref a185), .val (.double (own_B a114 k118)), .second, .val (.double (own_B a114 (k118 + 1))), .second, .val (.ref a251), .val (.double (own_B a114 0)), .second, .val (.double (own_B a114 1)), .second, .val (.double (FP.dmul a114 (own_B a114 k118))), .second, .val (.int (1 : Int32)), .unset, .unset, .unset]) rfl (pc' := 147) rfl ?_
  refine g_dload A332 at_147 rfl (pc' := 149) rfl ?_
  refine g_dconst1 A332 at_149 (pc' := 150) rfl ?_
  refine g_dcmp A332 at_150 (pc' := 151) rfl ?_
  refine g_ifN A332 at_151 (d_l_ne_f (own_self (own_Uf own_one))) (pc' := 154) rfl ?_
  refine g_dload A332 at_154 rfl (pc' := 156) rfl ?_
  refine g_dloadN A332 at_156 rfl (pc' := 157) rfl ?_
  refine g_dconst1 A332 at_157 (pc' := 158) rfl ?_
  refine g_dloadN A332 at_158 rfl (pc' := 159) rfl ?_
  refine g_dadd A332 at_159 (own_nb hA).1 (pc' := 160) rfl ?_
  refine g_ddiv A332 at_160 (own_nb hA).2 (pc' := 161) rfl ?_
  refine g_dcmp A332 at_161 (pc' := 162) rfl ?_
  refine g_ifN A332 at_162 (d_l_ne_f (by rw [← own_b1 hA]; exact own_self (own_Uf (own_BU hA 1 (by decide))))) (pc' := 165) rfl ?_
  refine g_iconst A332 at_165 (v := (1 : Int32)) rfl (pc' := 166) rfl ?_
  refine g_goto A332 at_166 (pc' := 170) rfl ?_
  refine g_istore A332 at_170 (ls' := #[.val (.int p0), .val (.int p1), .val (.int p2), .val (.double a114), .second, .val (.int (Int32.ofNat k115)), .val (.int (Int32.ofNat k118)), .val (.ref a122), .val (.double (own_B a114 k115)), .second, .val (.double (own_B a114 k118)), .second, .val (.double (own_B a114 k115)), .second, .val (.ref a185), .val (.double (own_B a114 k118)), .second, .val (.double (own_B a114 (k118 + 1))), .second, .val (.ref a251), .val (.double (own_B a114 0)), .second, .val (.double (own_B a114 1)), .second, .val (.double (FP.dmul a114 (own_B a114 k118))), .second, .val (.int (1 : Int32)), .val (.int (1 : Int32)), .unset, .unset]) rfl (pc' := 172) rfl ?_
  refine g_dload A332 at_172 rfl (pc' := 174) rfl ?_
  refine g_dload A332 at_174 rfl (pc' := 176) rfl ?_
  refine g_dcmp A332 at_176 (pc' := 177) rfl ?_
  refine g_ifN A332 at_177 (d_l_ne_f (own_self (own_Uf (own_BU hA k118 (by omega))))) (pc' := 180) rfl ?_
  refine g_dload A332 at_180 rfl (pc' := 182) rfl ?_
  refine g_dload A332 at_182 rfl (pc' := 184) rfl ?_
  refine g_dcmp A332 at_184 (pc' := 185) rfl ?_
  refine g_ifN A332 at_185 (d_l_ne_f (own_self (own_Uf (own_BU hA k115 (by omega))))) (pc' := 188) rfl ?_
  refine g_iconst A332 at_188 (v := (1 : Int32)) rfl (pc' := 189) rfl ?_
  refine g_goto A332 at_189 (pc' := 193) rfl ?_
  refine g_istore A332 at_193 (ls' := #[.val (.int p0), .val (.int p1), .val (.int p2), .val (.double a114), .second, .val (.int (Int32.ofNat k115)), .val (.int (Int32.ofNat k118)), .val (.ref a122), .val (.double (own_B a114 k115)), .second, .val (.double (own_B a114 k118)), .second, .val (.double (own_B a114 k115)), .second, .val (.ref a185), .val (.double (own_B a114 k118)), .second, .val (.double (own_B a114 (k118 + 1))), .second, .val (.ref a251), .val (.double (own_B a114 0)), .second, .val (.double (own_B a114 1)), .second, .val (.double (FP.dmul a114 (own_B a114 k118))), .second, .val (.int (1 : Int32)), .val (.int (1 : Int32)), .val (.int (1 : Int32)), .unset]) rfl (pc' := 195) rfl ?_
  refine g_dconst0 A332 at_195 (pc' := 196) rfl ?_
  refine g_dload A332 at_196 rfl (pc' := 198) rfl ?_
  refine g_dcmp A332 at_198 (pc' := 199) rfl ?_
  refine g_ifN A332 at_199 (d_g_gt_f (own_le0 (own_BU hA k115 (by omega)))) (pc' := 202) rfl ?_
  refine g_dload A332 at_202 rfl (pc' := 204) rfl ?_
  refine g_dconst1 A332 at_204 (pc' := 205) rfl ?_
  refine g_dcmp A332 at_205 (pc' := 206) rfl ?_
  refine g_ifN A332 at_206 (d_g_gt_f (own_le1 (own_BU hA k115 (by omega)))) (pc' := 209) rfl ?_
  refine g_dconst0 A332 at_209 (pc' := 210) rfl ?_
  refine g_dload A332 at_210 rfl (pc' := 212) rfl ?_
  refine g_dcmp A332 at_212 (pc' := 213) rfl ?_
  refine g_ifN A332 at_213 (d_g_gt_f (own_le0 (own_BU hA (k118 + 1) (by omega)))) (pc' := 216) rfl ?_
  refine g_dload A332 at_216 rfl (pc' := 218) rfl ?_
  refine g_dconst1 A332 at_218 (pc' := 219) rfl ?_
  refine g_dcmp A332 at_219 (pc' := 220) rfl ?_
  refine g_ifN A332 at_220 (d_g_gt_f (own_le1 (own_BU hA (k118 + 1) (by omega)))) (pc' := 223) rfl ?_
  refine g_iconst A332 at_223 (v := (1 : Int32)) rfl (pc' := 224) rfl ?_
  refine g_goto A332 at_224 (pc' := 228) rfl ?_
  refine g_istore A332 at_228 (ls' := #[.val (.int p0), .val (.int p1), .val (.int p2), .val (.double a114), .second, .val (.int (Int32.ofNat k115)), .val (.int (Int32.ofNat k118)), .val (.ref a122), .val (.double (own_B a114 k115)), .second, .val (.double (own_B a114 k118)), .second, .val (.double (own_B a114 k115)), .second, .val (.ref a185), .val (.double (own_B a114 k118)), .second, .val (.double (own_B a114 (k118 + 1))), .second, .val (.ref a251), .val (.double (own_B a114 0)), .second, .val (.double (own_B a114 1)), .second, .val (.double (FP.dmul a114 (own_B a114 k118))), .second, .val (.int (1 : Int32)), .val (.int (1 : Int32)), .val (.int (1 : Int32)), .val (.int (1 : Int32))]) rfl (pc' := 230) rfl ?_
  refine g_iload A332 at_230 rfl (pc' := 232) rfl ?_
  refine g_ifN A332 at_232 (c0_eq_f (by decide)) (pc' := 235) rfl ?_
  refine g_iload A332 at_235 rfl (pc' := 237) rfl ?_
  refine g_ifN A332 at_237 (c0_eq_f (by decide)) (pc' := 240) rfl ?_
  refine g_iload A332 at_240 rfl (pc' := 242) rfl ?_
  refine g_ifN A332 at_242 (c0_eq_f (by decide)) (pc' := 245) rfl ?_
  refine g_iload A332 at_245 rfl (pc' := 247) rfl ?_
  refine g_ifN A332 at_247 (c0_eq_f (by decide)) (pc' := 250) rfl ?_
  refine g_iconst A332 at_250 (v := (1 : Int32)) rfl (pc' := 251) rfl ?_
  refine g_goto A332 at_251 (pc' := 255) rfl ?_
  exact g_ret (Q := Q0 Z p0 p1 p2 h0 n0) A332 at_255 Bd.notSynchronized Bd.returns rfl (Or.inl ⟨rfl, by simp, _, rfl⟩) (by decide) (by decide) ⟨rfl, N320⟩
set_option maxRecDepth 65536 in
set_option maxHeartbeats 40000000 in
theorem comes_1 {Post : Tables → Env → Array Value → State → Outcome → State → Prop} (hpost : ∀ tb e args s v u, (limb_1_1.after args s (.returned v) u = true ∧ limb_1_2.after args s (.returned v) u = true ∧ True) → FrameEnd s (.returned v) u (Jvm.fieldLocs frame_1_writes args s ++ Jvm.arrayLocs frame_1_arrays args s ++ Jvm.staticLocs frame_1_statics s) 16 128 → Post tb e args s (.returned v) u) :
    ArmFor flags0 classFile x code maxLocals ret World_1 tables_1 room_1 Calls_1 rest_1 Pre_1 Post := by
  intro l hfl _ _ p e ha hc hk s m args below hf hA hF happ hP
  obtain ⟨hcalls, hrest, hpre⟩ := hP
  obtain ⟨-, -, -, hnamed, -, -, -, hat⟩ := (Spec.applies_iff hf).mp happ
  obtain ⟨hg, hn⟩ := and_e (Cond.before_iff.mp (show (Jvm.Cond.and given_1 narrow_1).before args s = true from hpre))
  obtain ⟨g0, hg1⟩ := and_e hg
  obtain ⟨w0, w1, w2, rfl⟩ : ∃ w0 w1 w2 : Value, args = #[w0, w1, w2] := by
    have hs : args.size = 3 := by simpa [Cond.value, given_1] using g0
    obtain ⟨L⟩ := args
    match L, hs with
    | [w0, w1, w2], _ => exact ⟨w0, w1, w2, rfl⟩
  have hw := fun d (hd : d ∈ tables_1) => atoms_spec (ws := Jvm.Cond.code x code maxLocals ret :: tables_1) hat d (List.mem_cons_of_mem _ hd)
  have hfit : Fit s := fun {y c} hc i hi => by
    obtain ⟨ha, rfl⟩ := Array.getElem?_eq_some_iff.mp hc
    have q := List.all_eq_true.mp ((Array.all_eq_true_iff_forall_mem.mp hF) _ (Array.getElem_mem ha)) i (List.mem_range.mpr hi)
    simpa [Array.getElem?_eq_getElem hi] using q
  obtain ⟨k0, hg2⟩ := and_e hg1
  obtain ⟨i0, j0⟩ := is_v k0
  obtain rfl : w0 = (.int i0) := Option.some.inj j0
  obtain ⟨k1, hg3⟩ := and_e hg2
  obtain ⟨i1, j1⟩ := is_v k1
  obtain rfl : w1 = (.int i1) := Option.some.inj j1
  obtain ⟨i2, j2⟩ := is_v hg3
  obtain rfl : w2 = (.int i2) := Option.some.inj j2
  obtain ⟨n, o, h1, h2, h3, _, L, rfl, ⟨rfl, N⟩, hq⟩ := rm0 l s _ hw tables_1 i0 i1 i2 s.heap s.heap.size (Nat.le_refl _)  p e ha hc hk s m _ below hf ((Spec.applies_iff_loose hf).mp happ).1 ⟨rfl, State.Warmed39.refl s, rfl⟩ trivial
  refine ⟨n, _, h1, h2, h3, hpost _ _ _ _ _ _ ⟨Cond.after_iff.mpr rfl, Cond.after_iff.mpr (eq_i res_at (Term.int_eval (1)) rfl), trivial⟩ ⟨hq.1, hq.2.1, (hq.2.2.sift fun y hy => Or.inr (N y hy)).mono (by decide) (by decide)⟩⟩
theorem main_1_1 : Claimed_1_1 := comes_1 fun _ _ _ _ _ _ h hF => ⟨h.1, hF⟩
theorem main_1_2 : Claimed_1_2 := comes_1 fun _ _ _ _ _ _ h hF => ⟨h.2.1, hF⟩
end Jvm.Pilot.@@N@@
namespace Jvm.Pilot.@@N@@
open Jvm Jvm.ClassFile Sem Op Lib Jvm.Free Jvm.Stand Jvm.Pilot.@@N@@.Jvm.D
/-! MADE BY PROGRAM (witnessworld.py) out of the Statement's table words and the real class files: 9 classes; the members and pool entries that the words name. The judged class is class 1, her method 1. -/
namespace start1
open Jvm.ClassFile
def u (s : String) : CpInfo := .utf8 (stringToUtf16 s)
/-- a pool by its gaps: so many unusable entries, then the entry; so many at the end -/
def gap : Nat → List CpInfo → List CpInfo
  | 0, r => r
  | n + 1, r => .unusable :: gap n r
def poolList (es : List (Nat × CpInfo)) (last : Nat) : List CpInfo := es.foldr (fun e r => gap e.1 (e.2 :: r)) (gap last [])
def pool (es : List (Nat × CpInfo)) (last : Nat) : Array CpInfo := ⟨poolList es last⟩
def fileOf (pool : Array CpInfo) (this : Nat) (attrs : Array Attribute := #[]) (ms : Array MethodInfo := #[]) (fl : Nat := 33) (sup : Nat := 0) (ifs : Array Nat := #[]) (fds : Array FieldInfo := #[]) : ClassFile where
  minorVersion := 0
  majorVersion := 65
  constantPool := pool
  accessFlags := fl
  thisClass := this
  superClass := sup
  interfaces := ifs
  fields := fds
  methods := ms
  attributes := attrs
def plain (name : String) (sup : Option ClassId) : Class where
  name := name
  kind := .ordinary
  loader := none
  accessFlags := 33
  super := sup
  interfaces := #[]
  cf := none
  fields := #[]
  methods := #[]
  instanceTypes := #[]
  staticTypes := #[]
  resolved := #[]
  callSites := []
  init := .initialized
  statics := none
  mirror := none

def pool0 : Array CpInfo := pool [(5, u "<init>"), (0, u "()V"), (1, .class_ 10), (1, u "java/lang/Object")] 113

def k0c0 : Code := { maxStack := 0, maxLocals := 1, code := object_method_1_code, exceptionTable := #[], attributes := #[] }
def k0m0 : Method := { name := "<init>", desc := "()V", sig := { parameters := [], returnType := none }, accessFlags := 1, code := some k0c0 }
/-- java/lang/Object -/
def k0 : Class := { plain "java/lang/Object" none with
  accessFlags := 33
  interfaces := #[]
  cf := some (fileOf pool0 8 #[] #[{ accessFlags := 1, nameIndex := 5, descriptorIndex := 6, attributes := #[] }] 33 0 #[] #[])
  fields := #[]
  methods := #[k0m0]
  instanceTypes := #[]
  staticTypes := #[]
  resolved := Array.replicate 124 none
  statics := none }

def pool1 : Array CpInfo := pool [(2, .class_ 4), (1, u "java/lang/Object"), (0, u "<init>"), (0, u "()V"), (0, .integer 1048575), (0, .double 4625196817309499392), (1, .class_ 11), (0, u "com/example/retinue/retinue/ErlangB"), (0, .methodref 10 13), (0, .nameAndType 5 14), (0, u "(D)V"), (0, .methodref 10 16), (0, .nameAndType 17 18), (0, u "blocking"), (0, u "(I)D"), (0, .class_ 20), (0, u "com/example/retinue/retinue/ErlangBBlockingPinLaw"), (2, u "law"), (0, u "(III)Z")] 3

def k1m0 : Method := { name := "<init>", desc := "()V", sig := { parameters := [], returnType := none }, accessFlags := 1, code := none }
def k1c1 : Code := { maxStack := 8, maxLocals := 30, code := code, exceptionTable := #[], attributes := #[] }
def k1m1 : Method := { name := "law", desc := "(III)Z", sig := { parameters := [.int, .int, .int], returnType := some .boolean }, accessFlags := 9, code := some k1c1 }
/-- com/example/retinue/retinue/ErlangBBlockingPinLaw -/
def k1 : Class := { plain "com/example/retinue/retinue/ErlangBBlockingPinLaw" (some 0) with
  accessFlags := 49
  interfaces := #[]
  cf := some (fileOf pool1 19 #[] #[{ accessFlags := 1, nameIndex := 5, descriptorIndex := 6, attributes := #[] }, { accessFlags := 9, nameIndex := 23, descriptorIndex := 24, attributes := #[] }] 49 2 #[] #[])
  fields := #[]
  methods := #[k1m0, k1m1]
  instanceTypes := #[]
  staticTypes := #[]
  resolved := Array.replicate 28 none
  statics := none }

def pool2 : Array CpInfo := pool [(1, .methodref 2 3), (0, .class_ 4), (0, .nameAndType 5 6), (0, u "java/lang/Object"), (0, u "<init>"), (0, u "()V"), (0, .fieldref 8 9), (0, .class_ 10), (0, .nameAndType 11 12), (0, u "com/example/retinue/retinue/ErlangB"), (0, u "blocking"), (0, u "D"), (2, .double 9218868437227405312), (10, .fieldref 8 27), (0, .nameAndType 28 12), (0, u "load"), (3, .fieldref 8 33), (0, .nameAndType 34 35), (0, u "servers"), (0, u "I"), (0, u "(D)V"), (4, u "(I)D")] 19

def k2c0 : Code := { maxStack := 4, maxLocals := 3, code := prog_6_method_1_code, exceptionTable := #[], attributes := #[] }
def k2m0 : Method := { name := "<init>", desc := "(D)V", sig := { parameters := [.double], returnType := none }, accessFlags := 0, code := some k2c0 }
def k2c1 : Code := { maxStack := 7, maxLocals := 4, code := prog_6_method_3_code, exceptionTable := #[], attributes := #[] }
def k2m1 : Method := { name := "blocking", desc := "(I)D", sig := { parameters := [.int], returnType := some .double }, accessFlags := 0, code := some k2c1 }
/-- com/example/retinue/retinue/ErlangB -/
def k2 : Class := { plain "com/example/retinue/retinue/ErlangB" (some 0) with
  accessFlags := 48
  interfaces := #[]
  cf := some (fileOf pool2 8 #[] #[{ accessFlags := 0, nameIndex := 5, descriptorIndex := 36, attributes := #[] }, { accessFlags := 0, nameIndex := 11, descriptorIndex := 41, attributes := #[] }] 48 2 #[] #[{ accessFlags := 18, nameIndex := 28, descriptorIndex := 12, attributes := #[] }, { accessFlags := 2, nameIndex := 34, descriptorIndex := 35, attributes := #[] }, { accessFlags := 2, nameIndex := 11, descriptorIndex := 12, attributes := #[] }])
  fields := #[{ name := "load", type := .double, accessFlags := 18, slot := 0, constantValue := 0 }, { name := "servers", type := .int, accessFlags := 2, slot := 1, constantValue := 0 }, { name := "blocking", type := .double, accessFlags := 2, slot := 2, constantValue := 0 }]
  methods := #[k2m0, k2m1]
  instanceTypes := #[.double, .int, .double]
  staticTypes := #[]
  resolved := Array.replicate 61 none
  statics := none }

def pool3 : Array CpInfo := pool [(1, u "java/lang/Cloneable"), (0, .class_ 1), (0, u "java/lang/Object"), (0, .class_ 3)] 3

/-- java/lang/Cloneable -/
def k3 : Class := { plain "java/lang/Cloneable" (some 0) with
  accessFlags := 1537
  interfaces := #[]
  cf := some (fileOf pool3 2 #[] #[] 1537 4 #[] #[])
  fields := #[]
  methods := #[]
  instanceTypes := #[]
  staticTypes := #[]
  resolved := Array.replicate 8 none
  statics := none }

def pool4 : Array CpInfo := pool [(1, u "java/io/Serializable"), (0, .class_ 1), (0, u "java/lang/Object"), (0, .class_ 3)] 3

/-- java/io/Serializable -/
def k4 : Class := { plain "java/io/Serializable" (some 0) with
  accessFlags := 1537
  interfaces := #[]
  cf := some (fileOf pool4 2 #[] #[] 1537 4 #[] #[])
  fields := #[]
  methods := #[]
  instanceTypes := #[]
  staticTypes := #[]
  resolved := Array.replicate 8 none
  statics := none }

/-- the primitive byte -/
def k5 : Class := { plain "byte" none with kind := .primitive 'B', accessFlags := 0x411 }
/-- [B -/
def k6 : Class := { plain "[B" (some 0) with kind := .array 5 .byte, interfaces := #[3, 4], accessFlags := 1041 }

/-- the primitive int -/
def k7 : Class := { plain "int" none with kind := .primitive 'I', accessFlags := 0x411 }
/-- [I -/
def k8 : Class := { plain "[I" (some 0) with kind := .array 7 .int, interfaces := #[3, 4], accessFlags := 1041 }

def heap : Heap := #[]
def classes : Array Class := #[k0, k1, k2, k3, k4, k5, k6, k7, k8]
def interned : List (Array UInt16 × Addr) := []
def slotsUsed : Nat := 0
def theMethod : MethodId := ⟨1, 1⟩
def args0 : Array Value := #[.int 5, .int 3, .int 1]
def aboutOver (below : List Frame) : State where
  vm := { classes := classes, interned := interned.toArray }
  heap := heap
  slotsUsed := slotsUsed
  threads := #[{ frames := .invoking theMethod args0 :: below }]
def below0 : List Frame := [.native { method := ⟨0, 0⟩, args := #[] }]
def about1 : State := aboutOver below0
def p0 : Program := .bare "" "" ""
def e0 : Env := launch0.env 0 0 0
theorem w_frames : about1.frames = Frame.invoking theMethod args0 :: below0 := rfl
set_option maxRecDepth 65536 in
theorem w_args : argsFit about1.vm theMethod args0 = true := by decide +kernel
set_option maxRecDepth 65536 in
theorem w_heap : heapFits about1 = true := by decide +kernel
set_option maxRecDepth 65536 in
theorem w_runnable : about1.curStatus? = some .runnable := by decide +kernel
set_option maxRecDepth 65536 in
theorem w_alone : about1.alone = true := by decide +kernel
set_option maxRecDepth 65536 in
theorem w_named : about1.methodNamed? x = some theMethod := by decide +kernel
set_option maxRecDepth 65536 in
theorem w_hears : about1.hears theMethod below0 = true := by decide +kernel
set_option maxRecDepth 65536 in
theorem w_ripe : about1.ripe theMethod args0 below0 = true := by decide +kernel
theorem w_running : about1.status = .running := rfl
set_option maxRecDepth 65536 in
theorem w_room : about1.hasRoom e0.platform room_1 = true :=
  launch0.hasRoom_least _ room_1 (by decide +kernel) (by decide +kernel) (by decide +kernel) (by decide +kernel) (by decide +kernel) (by decide +kernel)
theorem allAtoms_all (ts : List Jvm.Cond) (a : Array Jvm.Value) (st : Jvm.State) : (allAtoms ts).before a st = ts.all (fun c => c.before a st) := by
  induction ts with
  | nil => rfl
  | cons c t ih =>
    show (Jvm.Cond.and c (allAtoms t)).before a st = _
    rw [Jvm.Cond.before_and, ih, List.all_cons]
def words1 : List Jvm.Cond := Jvm.Cond.code x code maxLocals ret :: tables_1
/-- a 'code' word, met by the world's own term for the bytes: nothing is compared byte by byte -/
theorem code_word {y : MethodName} {bytes : ByteArray} {mx : Nat} {rt : Option FieldType} {a : Array Value} {s : State} {m : MethodId} {meth : Method} {c : Code} (h1 : s.methodNamed? y = some m) (h2 : s.vm.method? m = some meth) (h3 : meth.code = some c) (h4 : c.code = bytes)
    (h5 : (c.maxLocals == mx && c.exceptionTable.isEmpty && decide (c.maxStack ≤ mostOperands) && decide (meth.sig.returnType = rt) && !meth.locks && decide (parseMethodDescriptor y.desc = some meth.sig)) = true) : (Jvm.Cond.code y bytes mx rt).before a s = true := by
  simp only [Bool.and_eq_true, beq_iff_eq, Bool.not_eq_true', decide_eq_true_eq] at h5
  obtain ⟨⟨⟨⟨⟨g1, g2⟩, g3⟩, g4⟩, g5⟩, g6⟩ := h5
  simp [Cond.before, Cond.holds, Cond.value, h1, h2, h3, h4, g1, g2, g3, g4, g5, g6]
def isCode : Jvm.Cond → Bool
  | .code _ _ _ _ => true
  | _ => false
theorem all_split {L : List Jvm.Cond} {P : Jvm.Cond → Bool} (h1 : L.all (fun c => isCode c || P c) = true) (h2 : ∀ c ∈ L.filter isCode, P c = true) : L.all P = true := by
  refine List.all_eq_true.mpr fun c hc => ?_
  have h := List.all_eq_true.mp h1 c hc
  rcases Bool.eq_false_or_eq_true (isCode c) with hi | hi
  · exact h2 c (List.mem_filter.mpr ⟨hc, hi⟩)
  · simpa [hi] using h
set_option maxRecDepth 65536 in
theorem w_c0 : (Jvm.Cond.code x code maxLocals ret).before args0 about1 = true := code_word (m := ⟨1, 1⟩) (meth := k1m1) (c := k1c1) (by decide +kernel) rfl rfl rfl (by decide +kernel)
set_option maxRecDepth 65536 in
theorem w_c1 : (Jvm.Cond.code ({ cls := "com/example/retinue/retinue/ErlangB", name := "<init>", desc := "(D)V" } : Jvm.MethodName) prog_6_method_1_code (3 : Nat) (Option.none : Option Jvm.ClassFile.FieldType)).before args0 about1 = true := code_word (m := ⟨2, 0⟩) (meth := k2m0) (c := k2c0) (by decide +kernel) rfl rfl rfl (by decide +kernel)
set_option maxRecDepth 65536 in
theorem w_c2 : (Jvm.Cond.code ({ cls := "java/lang/Object", name := "<init>", desc := "()V" } : Jvm.MethodName) object_method_1_code (1 : Nat) (Option.none : Option Jvm.ClassFile.FieldType)).before args0 about1 = true := code_word (m := ⟨0, 0⟩) (meth := k0m0) (c := k0c0) (by decide +kernel) rfl rfl rfl (by decide +kernel)
set_option maxRecDepth 65536 in
theorem w_c3 : (Jvm.Cond.code ({ cls := "com/example/retinue/retinue/ErlangB", name := "blocking", desc := "(I)D" } : Jvm.MethodName) prog_6_method_3_code (4 : Nat) (Option.some Jvm.ClassFile.FieldType.double)).before args0 about1 = true := code_word (m := ⟨2, 1⟩) (meth := k2m1) (c := k2c1) (by decide +kernel) rfl rfl rfl (by decide +kernel)
def codes1 : List Jvm.Cond := [Jvm.Cond.code x code maxLocals ret, Jvm.Cond.code ({ cls := "com/example/retinue/retinue/ErlangB", name := "<init>", desc := "(D)V" } : Jvm.MethodName) prog_6_method_1_code (3 : Nat) (Option.none : Option Jvm.ClassFile.FieldType), Jvm.Cond.code ({ cls := "java/lang/Object", name := "<init>", desc := "()V" } : Jvm.MethodName) object_method_1_code (1 : Nat) (Option.none : Option Jvm.ClassFile.FieldType), Jvm.Cond.code ({ cls := "com/example/retinue/retinue/ErlangB", name := "blocking", desc := "(I)D" } : Jvm.MethodName) prog_6_method_3_code (4 : Nat) (Option.some Jvm.ClassFile.FieldType.double)]
set_option maxRecDepth 65536 in
theorem codes_eq : words1.filter isCode = codes1 := rfl
theorem w_codes : ∀ c ∈ words1.filter isCode, c.before args0 about1 = true := by
  rw [codes_eq]
  intro c hc
  simp only [codes1, List.mem_cons, List.not_mem_nil, or_false] at hc
  rcases hc with rfl | rfl | rfl | rfl
  · exact w_c0
  · exact w_c1
  · exact w_c2
  · exact w_c3
set_option maxRecDepth 65536 in
theorem w_t1 : words1.all (fun c => isCode c || c.before args0 about1) = true := by decide +kernel
theorem w_tables : (allAtoms (Jvm.Cond.code x code maxLocals ret :: tables_1)).before args0 about1 = true := by
  rw [allAtoms_all]
  show words1.all (fun c => c.before args0 about1) = true
  refine all_split ?_ w_codes
  rw [w_t1]
set_option maxRecDepth 65536 in
theorem w_case : (Jvm.Cond.and given_1 narrow_1).before args0 about1 = true := by decide +kernel
theorem w_applies : (headSpec (Jvm.Cond.code x code maxLocals ret :: tables_1) room_1).applies x e0.platform about1 = true :=
  (Spec.applies_iff w_frames).mpr ⟨w_running, w_runnable, w_alone, w_named, w_hears, w_ripe, w_room, w_tables⟩
theorem atStart : AtStart classFile x code maxLocals ret World_1 tables_1 room_1 Calls_1 rest_1 Pre_1 launch0 p0 e0 about1 theMethod args0 below0 :=
  ⟨lists_1, trivial, launch0.admits_env _ _ _, launch0.least_env, fairChoices_fair.cas, fairChoices_fair.clock, w_frames, w_args, w_heap, w_applies, trivial, trivial, w_case⟩
end start1
theorem witness_1 : WitnessClaimed_1 := ⟨start1.p0, start1.e0, start1.about1, start1.theMethod, start1.args0, start1.below0, start1.atStart⟩
end Jvm.Pilot.@@N@@
