import JvmDerived
import JvmDerived.Pilot.@@N@@Statement
import JvmDerived.Pilot.@@N@@Code
set_option linter.unusedVariables false
set_option linter.unusedSimpArgs false
namespace Jvm.Pilot.@@N@@
open Jvm Jvm.ClassFile Sem Op Lib Jvm.Free Jvm.Free.Fl Jvm.Stand Jvm.LawKit Jvm.RoadKit Bundle Jvm.Pilot.@@N@@.Jvm.D
section own_go
/-- where the walk stands, with the two facts that every step asks -/
def Ax (p : Program) (l : Launch) (e : Env) (R : Room) (s : State) (m : MethodId) (args : Array Value) (below : List Frame) (meth : Method) (c : Code) (T : State) (locs : List Loc) (cells slots : Nat) (B : ByteArray) : Prop := Stand p l e R s m args below meth c T locs cells slots ∧ p.tables.exec = Jvm.exec ∧ c.code = B
/-- from this frame the run ends, and P holds of its end -/
def Go (p : Program) (e : Env) (below : List Frame) (P : State → Outcome → Prop) (T : State) (g : JFrame) : Prop := ∃ U o, Steps p.tables e below (T.setTop g) U ∧ U.status = .running ∧ Ended U below o ∧ P U o
variable {p : Program} {l : Launch} {e : Env} {R : Room} {s : State} {m : MethodId} {args : Array Value} {below : List Frame} {meth : Method} {c : Code} {T : State} {locs : List Loc} {cells slots : Nat} {P : State → Outcome → Prop} {B : ByteArray} {pc pc' : Nat} {ls ls' : Array Slot} {st : List Value}
theorem Go.of {T' : State} {g g' : JFrame} (k : ∀ t, Steps p.tables e below (T'.setTop g') t → Steps p.tables e below (T.setTop g) t) (h : Go p e below P T' g') : Go p e below P T g := by
  obtain ⟨U, o, h1, h2⟩ := h
  exact ⟨U, o, k _ h1, h2⟩
theorem Go.tr {T' : State} {g g' : JFrame} (k : Steps p.tables e below (T.setTop g) (T'.setTop g')) (h : Go p e below P T' g') : Go p e below P T g := Go.of (fun _ h => k.trans h) h
theorem Go.cast {g g' : JFrame} (q : g = g') (h : Go p e below P T g') : Go p e below P T g := q ▸ h

theorem g_iadd (A : Ax p l e R s m args below meth c T locs cells slots B) {x : Int32} {y : Int32} (hd : decode B pc = .ok (.iadd, 1)) (hp : pc + 1 = pc') (k : Go p e below P T (mkF m pc' ls (.int (x + y) :: st))) : Go p e below P T (mkF m pc ls (.int y :: .int x :: st)) := by
  subst hp; exact Go.of (fun _ k' => XS.iadd A.1.here A.2.1 rfl (hb A.2.2 hd) rfl k') k
theorem g_isub (A : Ax p l e R s m args below meth c T locs cells slots B) {x : Int32} {y : Int32} (hd : decode B pc = .ok (.isub, 1)) (hp : pc + 1 = pc') (k : Go p e below P T (mkF m pc' ls (.int (x - y) :: st))) : Go p e below P T (mkF m pc ls (.int y :: .int x :: st)) := by
  subst hp; exact Go.of (fun _ k' => XS.isub A.1.here A.2.1 rfl (hb A.2.2 hd) rfl k') k
theorem g_iand (A : Ax p l e R s m args below meth c T locs cells slots B) {x : Int32} {y : Int32} (hd : decode B pc = .ok (.iand, 1)) (hp : pc + 1 = pc') (k : Go p e below P T (mkF m pc' ls (.int (x &&& y) :: st))) : Go p e below P T (mkF m pc ls (.int y :: .int x :: st)) := by
  subst hp; exact Go.of (fun _ k' => XS.iand A.1.here A.2.1 rfl (hb A.2.2 hd) rfl k') k
theorem g_imul (A : Ax p l e R s m args below meth c T locs cells slots B) {x : Int32} {y : Int32} (hd : decode B pc = .ok (.imul, 1)) (hp : pc + 1 = pc') (k : Go p e below P T (mkF m pc' ls (.int (x * y) :: st))) : Go p e below P T (mkF m pc ls (.int y :: .int x :: st)) := by
  subst hp; exact Go.of (fun _ k' => XS.imul A.1.here A.2.1 rfl (hb A.2.2 hd) rfl k') k
theorem g_iaddL (A : Ax p l e R s m args below meth c T locs cells slots B) {x y z : Int32} (hd : decode B pc = .ok (.iadd, 1)) (hz : x + y = z) (hp : pc + 1 = pc') (k : Go p e below P T (mkF m pc' ls (.int z :: st))) : Go p e below P T (mkF m pc ls (.int y :: .int x :: st)) := g_iadd A hd hp (hz.symm ▸ k)
theorem g_isubL (A : Ax p l e R s m args below meth c T locs cells slots B) {x y z : Int32} (hd : decode B pc = .ok (.isub, 1)) (hz : x - y = z) (hp : pc + 1 = pc') (k : Go p e below P T (mkF m pc' ls (.int z :: st))) : Go p e below P T (mkF m pc ls (.int y :: .int x :: st)) := g_isub A hd hp (hz.symm ▸ k)
theorem g_imulL (A : Ax p l e R s m args below meth c T locs cells slots B) {x y z : Int32} (hd : decode B pc = .ok (.imul, 1)) (hz : x * y = z) (hp : pc + 1 = pc') (k : Go p e below P T (mkF m pc' ls (.int z :: st))) : Go p e below P T (mkF m pc ls (.int y :: .int x :: st)) := g_imul A hd hp (hz.symm ▸ k)
theorem g_iandL (A : Ax p l e R s m args below meth c T locs cells slots B) {x y z : Int32} (hd : decode B pc = .ok (.iand, 1)) (hz : x &&& y = z) (hp : pc + 1 = pc') (k : Go p e below P T (mkF m pc' ls (.int z :: st))) : Go p e below P T (mkF m pc ls (.int y :: .int x :: st)) := g_iand A hd hp (hz.symm ▸ k)
theorem g_ixor (A : Ax p l e R s m args below meth c T locs cells slots B) {x : Int32} {y : Int32} (hd : decode B pc = .ok (.ixor, 1)) (hp : pc + 1 = pc') (k : Go p e below P T (mkF m pc' ls (.int (x ^^^ y) :: st))) : Go p e below P T (mkF m pc ls (.int y :: .int x :: st)) := by
  subst hp; exact Go.of (fun _ k' => XT.ixor A.1.here A.2.1 rfl (hb A.2.2 hd) rfl k') k
theorem g_ior (A : Ax p l e R s m args below meth c T locs cells slots B) {x : Int32} {y : Int32} (hd : decode B pc = .ok (.ior, 1)) (hp : pc + 1 = pc') (k : Go p e below P T (mkF m pc' ls (.int (x ||| y) :: st))) : Go p e below P T (mkF m pc ls (.int y :: .int x :: st)) := by
  subst hp; exact Go.of (fun _ k' => XT.ior A.1.here A.2.1 rfl (hb A.2.2 hd) rfl k') k
theorem g_ishl (A : Ax p l e R s m args below meth c T locs cells slots B) {x : Int32} {y : Int32} (hd : decode B pc = .ok (.ishl, 1)) (hp : pc + 1 = pc') (k : Go p e below P T (mkF m pc' ls (.int (x <<< (y &&& 31)) :: st))) : Go p e below P T (mkF m pc ls (.int y :: .int x :: st)) := by
  subst hp; exact Go.of (fun _ k' => XT.ishl A.1.here A.2.1 rfl (hb A.2.2 hd) rfl k') k
theorem g_ishr (A : Ax p l e R s m args below meth c T locs cells slots B) {x : Int32} {y : Int32} (hd : decode B pc = .ok (.ishr, 1)) (hp : pc + 1 = pc') (k : Go p e below P T (mkF m pc' ls (.int (x >>> (y &&& 31)) :: st))) : Go p e below P T (mkF m pc ls (.int y :: .int x :: st)) := by
  subst hp; exact Go.of (fun _ k' => XT.ishr A.1.here A.2.1 rfl (hb A.2.2 hd) rfl k') k
theorem g_iushr (A : Ax p l e R s m args below meth c T locs cells slots B) {x : Int32} {y : Int32} (hd : decode B pc = .ok (.iushr, 1)) (hp : pc + 1 = pc') (k : Go p e below P T (mkF m pc' ls (.int (XT.ushr x y) :: st))) : Go p e below P T (mkF m pc ls (.int y :: .int x :: st)) := by
  subst hp; exact Go.of (fun _ k' => XT.iushr A.1.here A.2.1 rfl (hb A.2.2 hd) rfl k') k
theorem g_idiv (A : Ax p l e R s m args below meth c T locs cells slots B) {x : Int32} {y : Int32} (hd : decode B pc = .ok (.idiv, 1)) (hy : y ≠ 0) (hp : pc + 1 = pc') (k : Go p e below P T (mkF m pc' ls (.int (x / y) :: st))) : Go p e below P T (mkF m pc ls (.int y :: .int x :: st)) := by
  subst hp; exact Go.of (fun _ k' => XS.idiv A.1.here A.2.1 rfl (hb A.2.2 hd) rfl hy k') k
theorem g_ladd (A : Ax p l e R s m args below meth c T locs cells slots B) {x : Int64} {y : Int64} (hd : decode B pc = .ok (.ladd, 1)) (hp : pc + 1 = pc') (k : Go p e below P T (mkF m pc' ls (.long (x + y) :: st))) : Go p e below P T (mkF m pc ls (.long y :: .long x :: st)) := by
  subst hp; exact Go.of (fun _ k' => XT.ladd A.1.here A.2.1 rfl (hb A.2.2 hd) rfl k') k
theorem g_lsub (A : Ax p l e R s m args below meth c T locs cells slots B) {x : Int64} {y : Int64} (hd : decode B pc = .ok (.lsub, 1)) (hp : pc + 1 = pc') (k : Go p e below P T (mkF m pc' ls (.long (x - y) :: st))) : Go p e below P T (mkF m pc ls (.long y :: .long x :: st)) := by
  subst hp; exact Go.of (fun _ k' => XT.lsub A.1.here A.2.1 rfl (hb A.2.2 hd) rfl k') k
theorem g_lmul (A : Ax p l e R s m args below meth c T locs cells slots B) {x : Int64} {y : Int64} (hd : decode B pc = .ok (.lmul, 1)) (hp : pc + 1 = pc') (k : Go p e below P T (mkF m pc' ls (.long (x * y) :: st))) : Go p e below P T (mkF m pc ls (.long y :: .long x :: st)) := by
  subst hp; exact Go.of (fun _ k' => XT.lmul A.1.here A.2.1 rfl (hb A.2.2 hd) rfl k') k
theorem g_land (A : Ax p l e R s m args below meth c T locs cells slots B) {x : Int64} {y : Int64} (hd : decode B pc = .ok (.land, 1)) (hp : pc + 1 = pc') (k : Go p e below P T (mkF m pc' ls (.long (x &&& y) :: st))) : Go p e below P T (mkF m pc ls (.long y :: .long x :: st)) := by
  subst hp; exact Go.of (fun _ k' => XT.land A.1.here A.2.1 rfl (hb A.2.2 hd) rfl k') k
theorem g_lor (A : Ax p l e R s m args below meth c T locs cells slots B) {x : Int64} {y : Int64} (hd : decode B pc = .ok (.lor, 1)) (hp : pc + 1 = pc') (k : Go p e below P T (mkF m pc' ls (.long (x ||| y) :: st))) : Go p e below P T (mkF m pc ls (.long y :: .long x :: st)) := by
  subst hp; exact Go.of (fun _ k' => XT.lor A.1.here A.2.1 rfl (hb A.2.2 hd) rfl k') k
theorem g_lxor (A : Ax p l e R s m args below meth c T locs cells slots B) {x : Int64} {y : Int64} (hd : decode B pc = .ok (.lxor, 1)) (hp : pc + 1 = pc') (k : Go p e below P T (mkF m pc' ls (.long (x ^^^ y) :: st))) : Go p e below P T (mkF m pc ls (.long y :: .long x :: st)) := by
  subst hp; exact Go.of (fun _ k' => XT.lxor A.1.here A.2.1 rfl (hb A.2.2 hd) rfl k') k
theorem g_lshl (A : Ax p l e R s m args below meth c T locs cells slots B) {x : Int64} {y : Int32} (hd : decode B pc = .ok (.lshl, 1)) (hp : pc + 1 = pc') (k : Go p e below P T (mkF m pc' ls (.long (x <<< (y.toInt64 &&& 63)) :: st))) : Go p e below P T (mkF m pc ls (.int y :: .long x :: st)) := by
  subst hp; exact Go.of (fun _ k' => XT.lshl A.1.here A.2.1 rfl (hb A.2.2 hd) rfl k') k
theorem g_lshr (A : Ax p l e R s m args below meth c T locs cells slots B) {x : Int64} {y : Int32} (hd : decode B pc = .ok (.lshr, 1)) (hp : pc + 1 = pc') (k : Go p e below P T (mkF m pc' ls (.long (x >>> (y.toInt64 &&& 63)) :: st))) : Go p e below P T (mkF m pc ls (.int y :: .long x :: st)) := by
  subst hp; exact Go.of (fun _ k' => XT.lshr A.1.here A.2.1 rfl (hb A.2.2 hd) rfl k') k
theorem g_lushr (A : Ax p l e R s m args below meth c T locs cells slots B) {x : Int64} {y : Int32} (hd : decode B pc = .ok (.lushr, 1)) (hp : pc + 1 = pc') (k : Go p e below P T (mkF m pc' ls (.long (XT.ushrL x y) :: st))) : Go p e below P T (mkF m pc ls (.int y :: .long x :: st)) := by
  subst hp; exact Go.of (fun _ k' => XT.lushr A.1.here A.2.1 rfl (hb A.2.2 hd) rfl k') k
theorem g_ldiv (A : Ax p l e R s m args below meth c T locs cells slots B) {x : Int64} {y : Int64} (hd : decode B pc = .ok (.ldiv, 1)) (hy : y ≠ 0) (hp : pc + 1 = pc') (k : Go p e below P T (mkF m pc' ls (.long (x / y) :: st))) : Go p e below P T (mkF m pc ls (.long y :: .long x :: st)) := by
  subst hp; exact Go.of (fun _ k' => XT.ldiv A.1.here A.2.1 rfl (hb A.2.2 hd) rfl hy k') k
theorem g_lrem (A : Ax p l e R s m args below meth c T locs cells slots B) {x y : Int64} (hd : decode B pc = .ok (.lrem, 1)) (hy : y ≠ 0) (hp : pc + 1 = pc') (k : Go p e below P T (mkF m pc' ls (.long (x % y) :: st))) : Go p e below P T (mkF m pc ls (.long y :: .long x :: st)) := by
  subst hp; rw [← lrem_mod] at k; exact Go.of (fun _ k' => XT.lrem A.1.here A.2.1 rfl (hb A.2.2 hd) rfl hy k') k
theorem g_i2s (A : Ax p l e R s m args below meth c T locs cells slots B) {x : Int32} (hd : decode B pc = .ok (.i2s, 1)) (hp : pc + 1 = pc') (k : Go p e below P T (mkF m pc' ls (.int (x.toInt16.toInt32) :: st))) : Go p e below P T (mkF m pc ls (.int x :: st)) := by
  subst hp; exact Go.of (fun _ k' => XT.i2s A.1.here A.2.1 rfl (hb A.2.2 hd) rfl k') k
theorem g_i2b (A : Ax p l e R s m args below meth c T locs cells slots B) {x : Int32} (hd : decode B pc = .ok (.i2b, 1)) (hp : pc + 1 = pc') (k : Go p e below P T (mkF m pc' ls (.int (x.toInt8.toInt32) :: st))) : Go p e below P T (mkF m pc ls (.int x :: st)) := by
  subst hp; exact Go.of (fun _ k' => XT.i2b A.1.here A.2.1 rfl (hb A.2.2 hd) rfl k') k
theorem g_i2c (A : Ax p l e R s m args below meth c T locs cells slots B) {x : Int32} (hd : decode B pc = .ok (.i2c, 1)) (hp : pc + 1 = pc') (k : Go p e below P T (mkF m pc' ls (.int (x.toUInt32.toUInt16.toUInt32.toInt32) :: st))) : Go p e below P T (mkF m pc ls (.int x :: st)) := by
  subst hp; exact Go.of (fun _ k' => XT.i2c A.1.here A.2.1 rfl (hb A.2.2 hd) rfl k') k
theorem g_ineg (A : Ax p l e R s m args below meth c T locs cells slots B) {x : Int32} (hd : decode B pc = .ok (.ineg, 1)) (hp : pc + 1 = pc') (k : Go p e below P T (mkF m pc' ls (.int (-x) :: st))) : Go p e below P T (mkF m pc ls (.int x :: st)) := by
  subst hp; exact Go.of (fun _ k' => XS.ineg A.1.here A.2.1 rfl (hb A.2.2 hd) rfl k') k
theorem g_lneg (A : Ax p l e R s m args below meth c T locs cells slots B) {x : Int64} (hd : decode B pc = .ok (.lneg, 1)) (hp : pc + 1 = pc') (k : Go p e below P T (mkF m pc' ls (.long (-x) :: st))) : Go p e below P T (mkF m pc ls (.long x :: st)) := by
  subst hp; exact Go.of (fun _ k' => XT.lneg A.1.here A.2.1 rfl (hb A.2.2 hd) rfl k') k
theorem g_i2l (A : Ax p l e R s m args below meth c T locs cells slots B) {x : Int32} (hd : decode B pc = .ok (.i2l, 1)) (hp : pc + 1 = pc') (k : Go p e below P T (mkF m pc' ls (.long (x.toInt64) :: st))) : Go p e below P T (mkF m pc ls (.int x :: st)) := by
  subst hp; exact Go.of (fun _ k' => XT.i2l A.1.here A.2.1 rfl (hb A.2.2 hd) rfl k') k
theorem g_l2i (A : Ax p l e R s m args below meth c T locs cells slots B) {x : Int64} (hd : decode B pc = .ok (.l2i, 1)) (hp : pc + 1 = pc') (k : Go p e below P T (mkF m pc' ls (.int (x.toInt32) :: st))) : Go p e below P T (mkF m pc ls (.long x :: st)) := by
  subst hp; exact Go.of (fun _ k' => XT.l2i A.1.here A.2.1 rfl (hb A.2.2 hd) rfl k') k
theorem g_irem (A : Ax p l e R s m args below meth c T locs cells slots B) {x y : Int32} (hd : decode B pc = .ok (.irem, 1)) (hy : y ≠ 0) (hp : pc + 1 = pc') (k : Go p e below P T (mkF m pc' ls (.int (x % y) :: st))) : Go p e below P T (mkF m pc ls (.int y :: .int x :: st)) := by
  subst hp; exact Go.of (fun _ k' => iremM A.1 A.2.1 rfl (hb A.2.2 hd) rfl hy k') k
theorem g_iloadN (A : Ax p l e R s m args below meth c T locs cells slots B) {k : Fin 4} {v : Int32} (hd : decode B pc = .ok (.iload_n k, 1)) (hl : ls[k.val]? = some (.val (.int v))) (hp : pc + 1 = pc') (k : Go p e below P T (mkF m pc' ls (.int v :: st))) : Go p e below P T (mkF m pc ls st) := by
  subst hp; exact Go.of (fun _ k' => XS.iloadN A.1.here A.2.1 rfl (hb A.2.2 hd) hl k') k
theorem g_iload (A : Ax p l e R s m args below meth c T locs cells slots B) {k : Nat} {v : Int32} (hd : decode B pc = .ok (.iload k, 2)) (hl : ls[k]? = some (.val (.int v))) (hp : pc + 2 = pc') (k : Go p e below P T (mkF m pc' ls (.int v :: st))) : Go p e below P T (mkF m pc ls st) := by
  subst hp; exact Go.of (fun _ k' => XS.iload A.1.here A.2.1 rfl (hb A.2.2 hd) hl k') k
theorem g_lloadN (A : Ax p l e R s m args below meth c T locs cells slots B) {k : Fin 4} {v : Int64} (hd : decode B pc = .ok (.lload_n k, 1)) (hl : ls[k.val]? = some (.val (.long v))) (hp : pc + 1 = pc') (k : Go p e below P T (mkF m pc' ls (.long v :: st))) : Go p e below P T (mkF m pc ls st) := by
  subst hp; exact Go.of (fun _ k' => XT.lloadN A.1.here A.2.1 rfl (hb A.2.2 hd) hl k') k
theorem g_lload (A : Ax p l e R s m args below meth c T locs cells slots B) {k : Nat} {v : Int64} (hd : decode B pc = .ok (.lload k, 2)) (hl : ls[k]? = some (.val (.long v))) (hp : pc + 2 = pc') (k : Go p e below P T (mkF m pc' ls (.long v :: st))) : Go p e below P T (mkF m pc ls st) := by
  subst hp; exact Go.of (fun _ k' => XT.lload A.1.here A.2.1 rfl (hb A.2.2 hd) hl k') k
theorem g_aloadN (A : Ax p l e R s m args below meth c T locs cells slots B) {k : Fin 4} {v : Value} (hd : decode B pc = .ok (.aload_n k, 1)) (hl : ls[k.val]? = some (.val v)) (hv : v.isRef = true) (hp : pc + 1 = pc') (k : Go p e below P T (mkF m pc' ls (v :: st))) : Go p e below P T (mkF m pc ls st) := by
  subst hp; exact Go.of (fun _ k' => XS.aloadN A.1.here A.2.1 rfl (hb A.2.2 hd) hl hv k') k
theorem g_aload (A : Ax p l e R s m args below meth c T locs cells slots B) {k : Nat} {v : Value} (hd : decode B pc = .ok (.aload k, 2)) (hl : ls[k]? = some (.val v)) (hv : v.isRef = true) (hp : pc + 2 = pc') (k : Go p e below P T (mkF m pc' ls (v :: st))) : Go p e below P T (mkF m pc ls st) := by
  subst hp; exact Go.of (fun _ k' => XS.aload A.1.here A.2.1 rfl (hb A.2.2 hd) hl hv k') k
theorem g_dloadN (A : Ax p l e R s m args below meth c T locs cells slots B) {k : Fin 4} {v : UInt64} (hd : decode B pc = .ok (.dload_n k, 1)) (hl : ls[k.val]? = some (.val (.double v))) (hp : pc + 1 = pc') (k : Go p e below P T (mkF m pc' ls (.double v :: st))) : Go p e below P T (mkF m pc ls st) := by
  subst hp
  refine Go.of (fun t k' => ?_) k
  have h := A.1.here
  have hx := A.2.1
  have hd' := hb A.2.2 hd
  show Steps p.tables e below (T.setTop { method := m, pc := pc, locals := ls, stack := st, locked := none }) _
  jvm_step h [h.top, hx, hd', hl]
  exact k'
theorem g_dload (A : Ax p l e R s m args below meth c T locs cells slots B) {k : Nat} {v : UInt64} (hd : decode B pc = .ok (.dload k, 2)) (hl : ls[k]? = some (.val (.double v))) (hp : pc + 2 = pc') (k : Go p e below P T (mkF m pc' ls (.double v :: st))) : Go p e below P T (mkF m pc ls st) := by
  subst hp
  refine Go.of (fun t k' => ?_) k
  have h := A.1.here
  have hx := A.2.1
  have hd' := hb A.2.2 hd
  show Steps p.tables e below (T.setTop { method := m, pc := pc, locals := ls, stack := st, locked := none }) _
  jvm_step h [h.top, hx, hd', hl]
  exact k'
theorem g_istoreN (A : Ax p l e R s m args below meth c T locs cells slots B) {k : Fin 4} {x : Int32} (hd : decode B pc = .ok (.istore_n k, 1)) (hl : storeLocals ls k.val (.int x) = some ls') (hp : pc + 1 = pc') (k : Go p e below P T (mkF m pc' ls' st)) : Go p e below P T (mkF m pc ls (.int x :: st)) := by
  subst hp; exact Go.of (fun _ k' => XS.istoreN A.1.here A.2.1 rfl (hb A.2.2 hd) rfl hl k') k
theorem g_istore (A : Ax p l e R s m args below meth c T locs cells slots B) {k : Nat} {x : Int32} (hd : decode B pc = .ok (.istore k, 2)) (hl : storeLocals ls k (.int x) = some ls') (hp : pc + 2 = pc') (k : Go p e below P T (mkF m pc' ls' st)) : Go p e below P T (mkF m pc ls (.int x :: st)) := by
  subst hp; exact Go.of (fun _ k' => XS.istore A.1.here A.2.1 rfl (hb A.2.2 hd) rfl hl k') k
theorem g_lstoreN (A : Ax p l e R s m args below meth c T locs cells slots B) {k : Fin 4} {x : Int64} (hd : decode B pc = .ok (.lstore_n k, 1)) (hl : storeLocals ls k.val (.long x) = some ls') (hp : pc + 1 = pc') (k : Go p e below P T (mkF m pc' ls' st)) : Go p e below P T (mkF m pc ls (.long x :: st)) := by
  subst hp; exact Go.of (fun _ k' => XT.lstoreN A.1.here A.2.1 rfl (hb A.2.2 hd) rfl hl k') k
theorem g_lstore (A : Ax p l e R s m args below meth c T locs cells slots B) {k : Nat} {x : Int64} (hd : decode B pc = .ok (.lstore k, 2)) (hl : storeLocals ls k (.long x) = some ls') (hp : pc + 2 = pc') (k : Go p e below P T (mkF m pc' ls' st)) : Go p e below P T (mkF m pc ls (.long x :: st)) := by
  subst hp; exact Go.of (fun _ k' => XT.lstore A.1.here A.2.1 rfl (hb A.2.2 hd) rfl hl k') k
theorem g_astoreN (A : Ax p l e R s m args below meth c T locs cells slots B) {k : Fin 4} {x : Value} (hd : decode B pc = .ok (.astore_n k, 1)) (hv : x.isRef = true) (hl : storeLocals ls k.val x = some ls') (hp : pc + 1 = pc') (k : Go p e below P T (mkF m pc' ls' st)) : Go p e below P T (mkF m pc ls (x :: st)) := by
  subst hp; exact Go.of (fun _ k' => XS.astoreN A.1.here A.2.1 rfl (hb A.2.2 hd) rfl hv hl k') k
theorem g_astore (A : Ax p l e R s m args below meth c T locs cells slots B) {k : Nat} {x : Value} (hd : decode B pc = .ok (.astore k, 2)) (hv : x.isRef = true) (hl : storeLocals ls k x = some ls') (hp : pc + 2 = pc') (k : Go p e below P T (mkF m pc' ls' st)) : Go p e below P T (mkF m pc ls (x :: st)) := by
  subst hp; exact Go.of (fun _ k' => XS.astore A.1.here A.2.1 rfl (hb A.2.2 hd) rfl hv hl k') k
theorem g_dstoreN (A : Ax p l e R s m args below meth c T locs cells slots B) {k : Fin 4} {x : UInt64} (hd : decode B pc = .ok (.dstore_n k, 1)) (hl : storeLocals ls k.val (.double x) = some ls') (hp : pc + 1 = pc') (k : Go p e below P T (mkF m pc' ls' st)) : Go p e below P T (mkF m pc ls (.double x :: st)) := by
  subst hp
  refine Go.of (fun t k' => ?_) k
  have h := A.1.here
  have hx := A.2.1
  have hd' := hb A.2.2 hd
  show Steps p.tables e below (T.setTop { method := m, pc := pc, locals := ls, stack := .double x :: st, locked := none }) _
  jvm_step h [h.top, hx, hd']
  exact ⟨ls', hl, k'⟩
theorem g_dstore (A : Ax p l e R s m args below meth c T locs cells slots B) {k : Nat} {x : UInt64} (hd : decode B pc = .ok (.dstore k, 2)) (hl : storeLocals ls k (.double x) = some ls') (hp : pc + 2 = pc') (k : Go p e below P T (mkF m pc' ls' st)) : Go p e below P T (mkF m pc ls (.double x :: st)) := by
  subst hp
  refine Go.of (fun t k' => ?_) k
  have h := A.1.here
  have hx := A.2.1
  have hd' := hb A.2.2 hd
  show Steps p.tables e below (T.setTop { method := m, pc := pc, locals := ls, stack := .double x :: st, locked := none }) _
  jvm_step h [h.top, hx, hd']
  exact ⟨ls', hl, k'⟩
theorem g_iconst (A : Ax p l e R s m args below meth c T locs cells slots B) {i : Int} {v : Int32} (hd : decode B pc = .ok (.iconst i, 1)) (hv : Int32.ofInt i = v) (hp : pc + 1 = pc') (k : Go p e below P T (mkF m pc' ls (.int v :: st))) : Go p e below P T (mkF m pc ls st) := by
  subst hp hv; exact Go.of (fun _ k' => XS.iconst A.1.here A.2.1 rfl (hb A.2.2 hd) k') k
theorem g_bipush (A : Ax p l e R s m args below meth c T locs cells slots B) {i : Int} {v : Int32} (hd : decode B pc = .ok (.bipush i, 2)) (hv : (Int8.ofInt i).toInt32 = v) (hp : pc + 2 = pc') (k : Go p e below P T (mkF m pc' ls (.int v :: st))) : Go p e below P T (mkF m pc ls st) := by
  subst hp hv; exact Go.of (fun _ k' => XS.bipush A.1.here A.2.1 rfl (hb A.2.2 hd) k') k
theorem g_sipush (A : Ax p l e R s m args below meth c T locs cells slots B) {i : Int} {v : Int32} (hd : decode B pc = .ok (.sipush i, 3)) (hv : (Int16.ofInt i).toInt32 = v) (hp : pc + 3 = pc') (k : Go p e below P T (mkF m pc' ls (.int v :: st))) : Go p e below P T (mkF m pc ls st) := by
  subst hp hv; exact Go.of (fun _ k' => XS.sipush A.1.here A.2.1 rfl (hb A.2.2 hd) k') k
theorem g_aconst (A : Ax p l e R s m args below meth c T locs cells slots B) (hd : decode B pc = .ok (.aconst_null, 1)) (hp : pc + 1 = pc') (k : Go p e below P T (mkF m pc' ls (.null :: st))) : Go p e below P T (mkF m pc ls st) := by
  subst hp; exact Go.of (fun _ k' => XS.aconstNull A.1.here A.2.1 rfl (hb A.2.2 hd) k') k
theorem g_lconst (A : Ax p l e R s m args below meth c T locs cells slots B) {i : Fin 2} {v : Int64} (hd : decode B pc = .ok (.lconst i, 1)) (hv : Int64.ofNat i = v) (hp : pc + 1 = pc') (k : Go p e below P T (mkF m pc' ls (.long v :: st))) : Go p e below P T (mkF m pc ls st) := by
  subst hp hv; exact Go.of (fun _ k' => XT.lconst A.1.here A.2.1 rfl (hb A.2.2 hd) k') k
theorem g_dconst0 (A : Ax p l e R s m args below meth c T locs cells slots B) (hd : decode B pc = .ok (.dconst 0, 1)) (hp : pc + 1 = pc') (k : Go p e below P T (mkF m pc' ls (.double (0 : UInt64) :: st))) : Go p e below P T (mkF m pc ls st) := by
  subst hp
  refine Go.of (fun t k' => ?_) k
  have h := A.1.here
  have hx := A.2.1
  have hd' := hb A.2.2 hd
  show Steps p.tables e below (T.setTop { method := m, pc := pc, locals := ls, stack := st, locked := none }) _
  jvm_step h [h.top, hx, hd']
  exact k'
theorem g_dconst1 (A : Ax p l e R s m args below meth c T locs cells slots B) (hd : decode B pc = .ok (.dconst 1, 1)) (hp : pc + 1 = pc') (k : Go p e below P T (mkF m pc' ls (.double (4607182418800017408 : UInt64) :: st))) : Go p e below P T (mkF m pc ls st) := by
  subst hp
  refine Go.of (fun t k' => ?_) k
  have h := A.1.here
  have hx := A.2.1
  have hd' := hb A.2.2 hd
  show Steps p.tables e below (T.setTop { method := m, pc := pc, locals := ls, stack := st, locked := none }) _
  jvm_step h [h.top, hx, hd']
  exact k'
theorem g_dadd (A : Ax p l e R s m args below meth c T locs cells slots B) {x y : UInt64} (hd : decode B pc = .ok (.dadd, 1)) (hn : NoNaN64 (FP.dadd x y)) (hp : pc + 1 = pc') (k : Go p e below P T (mkF m pc' ls (.double (FP.dadd x y) :: st))) : Go p e below P T (mkF m pc ls (.double y :: .double x :: st)) := by
  subst hp
  refine Go.of (fun t k' => ?_) k
  have h := A.1.here
  have hx := A.2.1
  have hd' := hb A.2.2 hd
  show Steps p.tables e below (T.setTop { method := m, pc := pc, locals := ls, stack := .double y :: .double x :: st, locked := none }) _
  jvm_step h [h.top, hx, hd', Op.dadd.at_number h.top hn]
  exact k'
theorem g_dsub (A : Ax p l e R s m args below meth c T locs cells slots B) {x y : UInt64} (hd : decode B pc = .ok (.dsub, 1)) (hn : NoNaN64 (FP.dsub x y)) (hp : pc + 1 = pc') (k : Go p e below P T (mkF m pc' ls (.double (FP.dsub x y) :: st))) : Go p e below P T (mkF m pc ls (.double y :: .double x :: st)) := by
  subst hp
  refine Go.of (fun t k' => ?_) k
  have h := A.1.here
  have hx := A.2.1
  have hd' := hb A.2.2 hd
  show Steps p.tables e below (T.setTop { method := m, pc := pc, locals := ls, stack := .double y :: .double x :: st, locked := none }) _
  jvm_step h [h.top, hx, hd', Op.dsub.at_number h.top hn]
  exact k'
theorem g_dmul (A : Ax p l e R s m args below meth c T locs cells slots B) {x y : UInt64} (hd : decode B pc = .ok (.dmul, 1)) (hn : NoNaN64 (FP.dmul x y)) (hp : pc + 1 = pc') (k : Go p e below P T (mkF m pc' ls (.double (FP.dmul x y) :: st))) : Go p e below P T (mkF m pc ls (.double y :: .double x :: st)) := by
  subst hp
  refine Go.of (fun t k' => ?_) k
  have h := A.1.here
  have hx := A.2.1
  have hd' := hb A.2.2 hd
  show Steps p.tables e below (T.setTop { method := m, pc := pc, locals := ls, stack := .double y :: .double x :: st, locked := none }) _
  jvm_step h [h.top, hx, hd', Op.dmul.at_number h.top hn]
  exact k'
theorem g_ddiv (A : Ax p l e R s m args below meth c T locs cells slots B) {x y : UInt64} (hd : decode B pc = .ok (.ddiv, 1)) (hn : NoNaN64 (FP.ddiv x y)) (hp : pc + 1 = pc') (k : Go p e below P T (mkF m pc' ls (.double (FP.ddiv x y) :: st))) : Go p e below P T (mkF m pc ls (.double y :: .double x :: st)) := by
  subst hp
  refine Go.of (fun t k' => ?_) k
  have h := A.1.here
  have hx := A.2.1
  have hd' := hb A.2.2 hd
  show Steps p.tables e below (T.setTop { method := m, pc := pc, locals := ls, stack := .double y :: .double x :: st, locked := none }) _
  jvm_step h [h.top, hx, hd', Op.ddiv.at_number h.top hn]
  exact k'
theorem g_daddL (A : Ax p l e R s m args below meth c T locs cells slots B) {x y z : UInt64} (hd : decode B pc = .ok (.dadd, 1)) (hz : FP.dadd x y = z) (hn : NoNaN64 z) (hp : pc + 1 = pc') (k : Go p e below P T (mkF m pc' ls (.double z :: st))) : Go p e below P T (mkF m pc ls (.double y :: .double x :: st)) := g_dadd A hd (hz.symm ▸ hn) hp (hz.symm ▸ k)
theorem g_dsubL (A : Ax p l e R s m args below meth c T locs cells slots B) {x y z : UInt64} (hd : decode B pc = .ok (.dsub, 1)) (hz : FP.dsub x y = z) (hn : NoNaN64 z) (hp : pc + 1 = pc') (k : Go p e below P T (mkF m pc' ls (.double z :: st))) : Go p e below P T (mkF m pc ls (.double y :: .double x :: st)) := g_dsub A hd (hz.symm ▸ hn) hp (hz.symm ▸ k)
theorem g_dmulL (A : Ax p l e R s m args below meth c T locs cells slots B) {x y z : UInt64} (hd : decode B pc = .ok (.dmul, 1)) (hz : FP.dmul x y = z) (hn : NoNaN64 z) (hp : pc + 1 = pc') (k : Go p e below P T (mkF m pc' ls (.double z :: st))) : Go p e below P T (mkF m pc ls (.double y :: .double x :: st)) := g_dmul A hd (hz.symm ▸ hn) hp (hz.symm ▸ k)
theorem g_ddivL (A : Ax p l e R s m args below meth c T locs cells slots B) {x y z : UInt64} (hd : decode B pc = .ok (.ddiv, 1)) (hz : FP.ddiv x y = z) (hn : NoNaN64 z) (hp : pc + 1 = pc') (k : Go p e below P T (mkF m pc' ls (.double z :: st))) : Go p e below P T (mkF m pc ls (.double y :: .double x :: st)) := g_ddiv A hd (hz.symm ▸ hn) hp (hz.symm ▸ k)
theorem g_dneg (A : Ax p l e R s m args below meth c T locs cells slots B) {x : UInt64} (hd : decode B pc = .ok (.dneg, 1)) (hp : pc + 1 = pc') (k : Go p e below P T (mkF m pc' ls (.double (FP.dneg x) :: st))) : Go p e below P T (mkF m pc ls (.double x :: st)) := by
  subst hp
  refine Go.of (fun t k' => ?_) k
  have h := A.1.here
  have hx := A.2.1
  have hd' := hb A.2.2 hd
  show Steps p.tables e below (T.setTop { method := m, pc := pc, locals := ls, stack := .double x :: st, locked := none }) _
  jvm_step h [h.top, hx, hd']
  exact k'
theorem g_i2d (A : Ax p l e R s m args below meth c T locs cells slots B) {x : Int32} (hd : decode B pc = .ok (.i2d, 1)) (hp : pc + 1 = pc') (k : Go p e below P T (mkF m pc' ls (.double (FP.i2d x) :: st))) : Go p e below P T (mkF m pc ls (.int x :: st)) := by
  subst hp
  refine Go.of (fun t k' => ?_) k
  have h := A.1.here
  have hx := A.2.1
  have hd' := hb A.2.2 hd
  show Steps p.tables e below (T.setTop { method := m, pc := pc, locals := ls, stack := .int x :: st, locked := none }) _
  jvm_step h [h.top, hx, hd']
  exact k'
theorem g_l2d (A : Ax p l e R s m args below meth c T locs cells slots B) {x : Int64} (hd : decode B pc = .ok (.l2d, 1)) (hp : pc + 1 = pc') (k : Go p e below P T (mkF m pc' ls (.double (FP.l2d x) :: st))) : Go p e below P T (mkF m pc ls (.long x :: st)) := by
  subst hp
  refine Go.of (fun t k' => ?_) k
  have h := A.1.here
  have hx := A.2.1
  have hd' := hb A.2.2 hd
  show Steps p.tables e below (T.setTop { method := m, pc := pc, locals := ls, stack := .long x :: st, locked := none }) _
  jvm_step h [h.top, hx, hd']
  exact k'
theorem g_dcmp (A : Ax p l e R s m args below meth c T locs cells slots B) {x y : UInt64} {op : CmpOp} (hd : decode B pc = .ok (.dcmp op, 1)) (hp : pc + 1 = pc') (k : Go p e below P T (mkF m pc' ls (.int (cmpValue (FP.dcmp x y) op) :: st))) : Go p e below P T (mkF m pc ls (.double y :: .double x :: st)) := by
  subst hp
  refine Go.of (fun t k' => ?_) k
  have h := A.1.here
  have hx := A.2.1
  have hd' := hb A.2.2 hd
  show Steps p.tables e below (T.setTop { method := m, pc := pc, locals := ls, stack := .double y :: .double x :: st, locked := none }) _
  jvm_step h [h.top, hx, hd']
  exact k'
theorem g_lcmp (A : Ax p l e R s m args below meth c T locs cells slots B) {x y : Int64} (hd : decode B pc = .ok (.lcmp, 1)) (hp : pc + 1 = pc') (k : Go p e below P T (mkF m pc' ls (.int (XT.cmpL x y) :: st))) : Go p e below P T (mkF m pc ls (.long y :: .long x :: st)) := by
  subst hp; exact Go.of (fun _ k' => XT.lcmp A.1.here A.2.1 rfl (hb A.2.2 hd) rfl k') k
theorem g_dup (A : Ax p l e R s m args below meth c T locs cells slots B) {x : Value} (hd : decode B pc = .ok (.dup, 1)) (hc : x.category = 1) (hp : pc + 1 = pc') (k : Go p e below P T (mkF m pc' ls (x :: x :: st))) : Go p e below P T (mkF m pc ls (x :: st)) := by
  subst hp; exact Go.of (fun _ k' => XS.dup A.1.here A.2.1 rfl (hb A.2.2 hd) rfl hc k') k
theorem g_pop (A : Ax p l e R s m args below meth c T locs cells slots B) {x : Value} (hd : decode B pc = .ok (.pop, 1)) (hc : x.category = 1) (hp : pc + 1 = pc') (k : Go p e below P T (mkF m pc' ls st)) : Go p e below P T (mkF m pc ls (x :: st)) := by
  subst hp; exact Go.of (fun _ k' => XT.pop A.1.here A.2.1 rfl (hb A.2.2 hd) rfl hc k') k
theorem g_iinc (A : Ax p l e R s m args below meth c T locs cells slots B) {k : Nat} {i : Int} {x y : Int32} (hd : decode B pc = .ok (.iinc k i, 3)) (hl : ls[k]? = some (.val (.int x))) (hy : x + Int32.ofInt i = y) (hl' : storeLocals ls k (.int y) = some ls') (hp : pc + 3 = pc') (k : Go p e below P T (mkF m pc' ls' st)) : Go p e below P T (mkF m pc ls st) := by
  subst hp hy; exact Go.of (fun _ k' => XS.iinc A.1.here A.2.1 rfl (hb A.2.2 hd) hl hl' k') k
theorem own_off {pc pc' : Nat} {o : Int} (h : (pc : Int) + o = (pc' : Int)) : 0 ≤ (pc : Int) + o ∧ ((pc : Int) + o).toNat = pc' := by omega
theorem g_goto (A : Ax p l e R s m args below meth c T locs cells slots B) {o : Int} (hd : decode B pc = .ok (.goto o, 3)) (hp : (pc : Int) + o = (pc' : Int)) (k : Go p e below P T (mkF m pc' ls st)) : Go p e below P T (mkF m pc ls st) := Go.of (fun _ k' => XS.goto A.1.here A.2.1 rfl rfl (hb A.2.2 hd) (own_off hp).1 (own_off hp).2 k') k
theorem g_ifY (A : Ax p l e R s m args below meth c T locs cells slots B) {o : Int} {cd : ClassFile.Cond} {x : Int32} (hd : decode B pc = .ok (.ifCond cd o, 3)) (hc : ifCond.holds cd x = true) (hp : (pc : Int) + o = (pc' : Int)) (k : Go p e below P T (mkF m pc' ls st)) : Go p e below P T (mkF m pc ls (.int x :: st)) := Go.of (fun _ k' => XS.ifYes A.1.here A.2.1 rfl rfl (hb A.2.2 hd) rfl hc (own_off hp).1 (own_off hp).2 k') k
theorem g_ifN (A : Ax p l e R s m args below meth c T locs cells slots B) {o : Int} {cd : ClassFile.Cond} {x : Int32} (hd : decode B pc = .ok (.ifCond cd o, 3)) (hc : ifCond.holds cd x = false) (hp : pc + 3 = pc') (k : Go p e below P T (mkF m pc' ls st)) : Go p e below P T (mkF m pc ls (.int x :: st)) := by
  subst hp; exact Go.of (fun _ k' => XS.ifNo A.1.here A.2.1 rfl (hb A.2.2 hd) rfl hc k') k
theorem g_icY (A : Ax p l e R s m args below meth c T locs cells slots B) {o : Int} {cd : ClassFile.Cond} {x y : Int32} (hd : decode B pc = .ok (.if_icmp cd o, 3)) (hc : if_icmp.holds cd x y = true) (hp : (pc : Int) + o = (pc' : Int)) (k : Go p e below P T (mkF m pc' ls st)) : Go p e below P T (mkF m pc ls (.int y :: .int x :: st)) := Go.of (fun _ k' => XS.icmpYes A.1.here A.2.1 rfl rfl (hb A.2.2 hd) rfl hc (own_off hp).1 (own_off hp).2 k') k
theorem g_icN (A : Ax p l e R s m args below meth c T locs cells slots B) {o : Int} {cd : ClassFile.Cond} {x y : Int32} (hd : decode B pc = .ok (.if_icmp cd o, 3)) (hc : if_icmp.holds cd x y = false) (hp : pc + 3 = pc') (k : Go p e below P T (mkF m pc' ls st)) : Go p e below P T (mkF m pc ls (.int y :: .int x :: st)) := by
  subst hp; exact Go.of (fun _ k' => XS.icmpNo A.1.here A.2.1 rfl (hb A.2.2 hd) rfl hc k') k
theorem c0_eq_t {x : Int32} (h : x = 0) : ifCond.holds .eq x = true := (if0 _ _).trans (teq h).1
theorem c0_eq_f {x : Int32} (h : ¬ x = 0) : ifCond.holds .eq x = false := (if0 _ _).trans (feq h).1
theorem c0_ne_t {x : Int32} (h : ¬ x = 0) : ifCond.holds .ne x = true := (if0 _ _).trans (feq h).2
theorem c0_ne_f {x : Int32} (h : x = 0) : ifCond.holds .ne x = false := (if0 _ _).trans (teq h).2
theorem c0_lt_t {x : Int32} (h : x < 0) : ifCond.holds .lt x = true := (if0 _ _).trans (tlt h).1
theorem c0_lt_f {x : Int32} (h : ¬ x < 0) : ifCond.holds .lt x = false := (if0 _ _).trans (flt h).1
theorem c0_ge_t {x : Int32} (h : ¬ x < 0) : ifCond.holds .ge x = true := (if0 _ _).trans (flt h).2.1
theorem c0_ge_f {x : Int32} (h : x < 0) : ifCond.holds .ge x = false := (if0 _ _).trans (tlt h).2.1
theorem c0_gt_t {x : Int32} (h : 0 < x) : ifCond.holds .gt x = true := (if0 _ _).trans (tlt h).2.2.1
theorem c0_gt_f {x : Int32} (h : ¬ 0 < x) : ifCond.holds .gt x = false := (if0 _ _).trans (flt h).2.2.1
theorem c0_le_t {x : Int32} (h : ¬ 0 < x) : ifCond.holds .le x = true := (if0 _ _).trans (flt h).2.2.2
theorem c0_le_f {x : Int32} (h : 0 < x) : ifCond.holds .le x = false := (if0 _ _).trans (tlt h).2.2.2
theorem c2_eq_t {x y : Int32} (h : x = y) : if_icmp.holds .eq x y = true := (teq h).1
theorem c2_eq_f {x y : Int32} (h : ¬ x = y) : if_icmp.holds .eq x y = false := (feq h).1
theorem c2_ne_t {x y : Int32} (h : ¬ x = y) : if_icmp.holds .ne x y = true := (feq h).2
theorem c2_ne_f {x y : Int32} (h : x = y) : if_icmp.holds .ne x y = false := (teq h).2
theorem c2_lt_t {x y : Int32} (h : x < y) : if_icmp.holds .lt x y = true := (tlt h).1
theorem c2_lt_f {x y : Int32} (h : ¬ x < y) : if_icmp.holds .lt x y = false := (flt h).1
theorem c2_ge_t {x y : Int32} (h : ¬ x < y) : if_icmp.holds .ge x y = true := (flt h).2.1
theorem c2_ge_f {x y : Int32} (h : x < y) : if_icmp.holds .ge x y = false := (tlt h).2.1
theorem c2_gt_t {x y : Int32} (h : y < x) : if_icmp.holds .gt x y = true := (tlt h).2.2.1
theorem c2_gt_f {x y : Int32} (h : ¬ y < x) : if_icmp.holds .gt x y = false := (flt h).2.2.1
theorem c2_le_t {x y : Int32} (h : ¬ y < x) : if_icmp.holds .le x y = true := (flt h).2.2.2
theorem c2_le_f {x y : Int32} (h : y < x) : if_icmp.holds .le x y = false := (tlt h).2.2.2
theorem b0_eq_t {C : Prop} [Decidable C] {v : Int32} (e : v = if C then 1 else 0) (h : ¬ C) : ifCond.holds .eq v = true := c0_eq_t (by rw [e, if_neg h])
theorem b0_eq_f {C : Prop} [Decidable C] {v : Int32} (e : v = if C then 1 else 0) (h : C) : ifCond.holds .eq v = false := c0_eq_f (by rw [e, if_pos h]; decide)
theorem b0_ne_t {C : Prop} [Decidable C] {v : Int32} (e : v = if C then 1 else 0) (h : C) : ifCond.holds .ne v = true := c0_ne_t (by rw [e, if_pos h]; decide)
theorem b0_ne_f {C : Prop} [Decidable C] {v : Int32} (e : v = if C then 1 else 0) (h : ¬ C) : ifCond.holds .ne v = false := c0_ne_f (by rw [e, if_neg h])
theorem own_b01 {C : Prop} [Decidable C] {v : Int32} (e : v = if C then 1 else 0) : narrow .boolean (.int v) = .int v := by
  subst e; by_cases h : C
  · rw [if_pos h]; rfl
  · rw [if_neg h]; rfl
theorem own_fb {C : Prop} [Decidable C] {v : Int32} (e : v = if C then 1 else 0) : fits .boolean (.int v) = true := by
  subst e; by_cases h : C
  · rw [if_pos h]; rfl
  · rw [if_neg h]; rfl
theorem own_ndadd {x y : UInt64} (h1 : Fin64 x) (h2 : Fin64 y) : NoNaN64 (FP.dadd x y) := dadd_out h1.noNaN h2
theorem own_ndsub {x y : UInt64} (h1 : Fin64 x) (h2 : Fin64 y) : NoNaN64 (FP.dsub x y) := dsub_out h1.noNaN h2
theorem own_ndmul {x y : UInt64} (h1 : Fin64 x) (h2 : Fin64 y) : NoNaN64 (FP.dmul x y) := dmul_out h1 h2
theorem own_fin {x : UInt64} : Fin64 x ↔ FP.Core.DFin x := fin64_core
theorem own_fneg {x : UInt64} (h : Fin64 x) : Fin64 (FP.dneg x) := by
  obtain ⟨s, c, q, e⟩ := fin64_core.mp h
  exact fin64_core.mpr ⟨!s, c, q, (FP.val64_dneg x).trans (by rw [e]; rfl)⟩
theorem own_self {x : UInt64} (h : Fin64 x) : FP.dcmp x x = some .eq := FP.Core.dcmp_self (fin64_core.mp h).ne_nan
theorem own_sgt {x : UInt64} (h : Fin64 x) : ¬ FP.dcmp x x = some .gt := by rw [own_self h]; decide
theorem own_slt {x : UInt64} (h : Fin64 x) : ¬ FP.dcmp x x = some .lt := by rw [own_self h]; decide
theorem own_and {c d : Jvm.Cond} {a : Array Value} {s : State} (h1 : c.before a s = true) (h2 : d.before a s = true) : (Jvm.Cond.and c d).before a s = true := by rw [Cond.before_and, h1, h2]; rfl
theorem own_isfin {x : UInt64} (h : Fin64 x) : some (Value.int (if Jvm.Free.Fl.relLe (FP.dcmp (x &&& 0x7fffffffffffffff) Jvm.Free.Fl.maxD) = true then (1 : Int32) else 0)) = some (.int (1 : Int32)) := by rw [if_pos ((le_max_iff h.noNaN).mpr h)]
theorem own_isinf {x : UInt64} (h : Fin64 x) : some (Value.int (if Jvm.Free.Fl.relGt (FP.dcmp (x &&& 0x7fffffffffffffff) Jvm.Free.Fl.maxD) = true then (1 : Int32) else 0)) = some (.int (0 : Int32)) := by rw [if_neg (fun h4 => (gt_max_iff h.noNaN).mp h4 h)]
theorem own_dfin {i : Int} {x : UInt64} (h : FP.Core.DInt i x) : Fin64 x := by
  refine fin64_core.mpr ?_
  have q : FP.Core.Whole i (FP.Core.val64 x) := h
  cases e : FP.Core.val64 x with
  | nan => rw [e] at q; exact q.elim
  | inf s => rw [e] at q; exact q.elim
  | fin s c q => exact ⟨s, c, q, e⟩
theorem own_fn {v : Int32} (h : narrow .boolean (.int v) = .int v) : fits .boolean (.int v) = true := by
  have q : v &&& 1 = v := Value.int.inj h
  rcases and_one v with z | z <;> rw [z] at q <;> subst q <;> rfl
/-- a double less than, equal to .. another, as the code asks it -/
abbrev oGe (o : Option Ordering) : Prop := o = some .gt ∨ o = some .eq
abbrev oLe (o : Option Ordering) : Prop := o = some .lt ∨ o = some .eq
theorem d_l_eq_t {o : Option Ordering} (h : o = some .eq) : ifCond.holds .eq (cmpValue o .l) = true := by
  rcases o with _ | _ | _ | _ <;> first | rfl | decide | (exfalso; revert h; decide)
theorem d_l_eq_f {o : Option Ordering} (h : ¬ o = some .eq) : ifCond.holds .eq (cmpValue o .l) = false := by
  rcases o with _ | _ | _ | _ <;> first | rfl | decide | (exfalso; revert h; decide)
theorem d_l_ne_t {o : Option Ordering} (h : ¬ o = some .eq) : ifCond.holds .ne (cmpValue o .l) = true := by
  rcases o with _ | _ | _ | _ <;> first | rfl | decide | (exfalso; revert h; decide)
theorem d_l_ne_f {o : Option Ordering} (h : o = some .eq) : ifCond.holds .ne (cmpValue o .l) = false := by
  rcases o with _ | _ | _ | _ <;> first | rfl | decide | (exfalso; revert h; decide)
theorem d_g_eq_t {o : Option Ordering} (h : o = some .eq) : ifCond.holds .eq (cmpValue o .g) = true := by
  rcases o with _ | _ | _ | _ <;> first | rfl | decide | (exfalso; revert h; decide)
theorem d_g_eq_f {o : Option Ordering} (h : ¬ o = some .eq) : ifCond.holds .eq (cmpValue o .g) = false := by
  rcases o with _ | _ | _ | _ <;> first | rfl | decide | (exfalso; revert h; decide)
theorem d_g_ne_t {o : Option Ordering} (h : ¬ o = some .eq) : ifCond.holds .ne (cmpValue o .g) = true := by
  rcases o with _ | _ | _ | _ <;> first | rfl | decide | (exfalso; revert h; decide)
theorem d_g_ne_f {o : Option Ordering} (h : o = some .eq) : ifCond.holds .ne (cmpValue o .g) = false := by
  rcases o with _ | _ | _ | _ <;> first | rfl | decide | (exfalso; revert h; decide)
theorem d_l_lt_t {o : Option Ordering} (h : ¬ oGe o) : ifCond.holds .lt (cmpValue o .l) = true := by
  rcases o with _ | _ | _ | _ <;> first | rfl | decide | (exfalso; revert h; decide)
theorem d_l_lt_f {o : Option Ordering} (h : oGe o) : ifCond.holds .lt (cmpValue o .l) = false := by
  rcases o with _ | _ | _ | _ <;> first | rfl | decide | (exfalso; revert h; decide)
theorem d_l_ge_t {o : Option Ordering} (h : oGe o) : ifCond.holds .ge (cmpValue o .l) = true := by
  rcases o with _ | _ | _ | _ <;> first | rfl | decide | (exfalso; revert h; decide)
theorem d_l_ge_f {o : Option Ordering} (h : ¬ oGe o) : ifCond.holds .ge (cmpValue o .l) = false := by
  rcases o with _ | _ | _ | _ <;> first | rfl | decide | (exfalso; revert h; decide)
theorem d_l_gt_t {o : Option Ordering} (h : o = some .gt) : ifCond.holds .gt (cmpValue o .l) = true := by
  rcases o with _ | _ | _ | _ <;> first | rfl | decide | (exfalso; revert h; decide)
theorem d_l_gt_f {o : Option Ordering} (h : ¬ o = some .gt) : ifCond.holds .gt (cmpValue o .l) = false := by
  rcases o with _ | _ | _ | _ <;> first | rfl | decide | (exfalso; revert h; decide)
theorem d_l_le_t {o : Option Ordering} (h : ¬ o = some .gt) : ifCond.holds .le (cmpValue o .l) = true := by
  rcases o with _ | _ | _ | _ <;> first | rfl | decide | (exfalso; revert h; decide)
theorem d_l_le_f {o : Option Ordering} (h : o = some .gt) : ifCond.holds .le (cmpValue o .l) = false := by
  rcases o with _ | _ | _ | _ <;> first | rfl | decide | (exfalso; revert h; decide)
theorem d_g_lt_t {o : Option Ordering} (h : o = some .lt) : ifCond.holds .lt (cmpValue o .g) = true := by
  rcases o with _ | _ | _ | _ <;> first | rfl | decide | (exfalso; revert h; decide)
theorem d_g_lt_f {o : Option Ordering} (h : ¬ o = some .lt) : ifCond.holds .lt (cmpValue o .g) = false := by
  rcases o with _ | _ | _ | _ <;> first | rfl | decide | (exfalso; revert h; decide)
theorem d_g_ge_t {o : Option Ordering} (h : ¬ o = some .lt) : ifCond.holds .ge (cmpValue o .g) = true := by
  rcases o with _ | _ | _ | _ <;> first | rfl | decide | (exfalso; revert h; decide)
theorem d_g_ge_f {o : Option Ordering} (h : o = some .lt) : ifCond.holds .ge (cmpValue o .g) = false := by
  rcases o with _ | _ | _ | _ <;> first | rfl | decide | (exfalso; revert h; decide)
theorem d_g_gt_t {o : Option Ordering} (h : ¬ oLe o) : ifCond.holds .gt (cmpValue o .g) = true := by
  rcases o with _ | _ | _ | _ <;> first | rfl | decide | (exfalso; revert h; decide)
theorem d_g_gt_f {o : Option Ordering} (h : oLe o) : ifCond.holds .gt (cmpValue o .g) = false := by
  rcases o with _ | _ | _ | _ <;> first | rfl | decide | (exfalso; revert h; decide)
theorem d_g_le_t {o : Option Ordering} (h : oLe o) : ifCond.holds .le (cmpValue o .g) = true := by
  rcases o with _ | _ | _ | _ <;> first | rfl | decide | (exfalso; revert h; decide)
theorem d_g_le_f {o : Option Ordering} (h : ¬ oLe o) : ifCond.holds .le (cmpValue o .g) = false := by
  rcases o with _ | _ | _ | _ <;> first | rfl | decide | (exfalso; revert h; decide)
theorem l_eq (x y : Int64) : XT.cmpL x y = 0 ↔ x = y := lw_eq x y
theorem l_lt (x y : Int64) : XT.cmpL x y < 0 ↔ x < y := lw_lt x y
theorem l_gt (x y : Int64) : 0 < XT.cmpL x y ↔ y < x := lw_gt x y
theorem g_ret (A : Ax p l e R s m args below meth c T locs cells slots B) {w : Value} {t : FieldType} {i : Instr} {Q : Option Value → Heap → List Loc → Prop} {K S : Nat} (hd : decode B pc = .ok (i, 1)) (hlk : meth.locks = false) (hret : meth.sig.returnType = some t) (hn : narrow t w = w)
    (hi : (i = .ireturn ∧ (t = .int ∨ t = .boolean ∨ t = .byte ∨ t = .char ∨ t = .short) ∧ ∃ z, w = .int z) ∨ (i = .lreturn ∧ t = .long ∧ ∃ z, w = .long z) ∨ (i = .dreturn ∧ t = .double ∧ ∃ z, w = .double z) ∨ (i = .freturn ∧ t = .float ∧ ∃ z, w = .float z) ∨ (i = .areturn ∧ t.isReference = true ∧ w.isRef = true))
    (hK : cells ≤ K) (hS : slots ≤ S) (hQ : Q (some w) T.heap locs) : Go p e below (fun U o => ∃ v L, o = .returned v ∧ Q v U.heap L ∧ FrameEnd s o U L K S) T (mkF m pc ls (w :: st)) := by
  obtain ⟨fs, hr, hrun, hended, hW, hsame⟩ := A.1.leave (v := some w) (fun h => by rw [hret] at h; cases h) hlk
  exact ⟨_, _, retOut A.1 A.2.1 hret hn hi (hb A.2.2 hd) hr, hrun, hended, _, _, rfl, hQ, ⟨_, rfl⟩, hW, hsame.mono hK hS⟩
theorem g_retW {vm1 : Vm} (A : Ax p l e R (s.setVm vm1) m args below meth c T locs cells slots B) {w : Value} {t : FieldType} {i : Instr} {Q : Option Value → Heap → List Loc → Prop} {K S n : Nat} (hSi : s.Since vm1 n) (hN : n ≤ T.heap.size) (hd : decode B pc = .ok (i, 1)) (hlk : meth.locks = false) (hret : meth.sig.returnType = some t) (hn : narrow t w = w)
    (hi : (i = .ireturn ∧ (t = .int ∨ t = .boolean ∨ t = .byte ∨ t = .char ∨ t = .short) ∧ ∃ z, w = .int z) ∨ (i = .lreturn ∧ t = .long ∧ ∃ z, w = .long z) ∨ (i = .dreturn ∧ t = .double ∧ ∃ z, w = .double z) ∨ (i = .freturn ∧ t = .float ∧ ∃ z, w = .float z) ∨ (i = .areturn ∧ t.isReference = true ∧ w.isRef = true))
    (hK : cells ≤ K) (hS : slots ≤ S) (hQ : Q (some w) T.heap locs) : Go p e below (fun U o => ∃ v L, o = .returned v ∧ Q v U.heap L ∧ ReturnedEndW s o U L K S) T (mkF m pc ls (w :: st)) := by
  obtain ⟨fs, hr, hrun, hended, hv, h1, h2, hsame⟩ := A.1.leaveW hSi hN (v := some w) (fun h => by rw [hret] at h; cases h) hlk
  exact ⟨_, _, retOut A.1 A.2.1 hret hn hi (hb A.2.2 hd) hr, hrun, hended, _, _, rfl, hQ, hv, h1, h2, hsame.mono hK hS⟩
theorem g_retV (A : Ax p l e R s m args below meth c T locs cells slots B) {Q : Option Value → Heap → List Loc → Prop} {K S : Nat} (hd : decode B pc = .ok (.return_, 1)) (hlk : meth.locks = false) (hret : meth.sig.returnType = none)
    (hK : cells ≤ K) (hS : slots ≤ S) (hQ : Q none T.heap locs) : Go p e below (fun U o => ∃ v L, o = .returned v ∧ Q v U.heap L ∧ FrameEnd s o U L K S) T (mkF m pc ls []) := by
  obtain ⟨fs, hr, hrun, hended, hW, hsame⟩ := A.1.leave (v := none) (fun _ => rfl) hlk
  exact ⟨_, _, A.1.returnOut A.2.1 hret (hb A.2.2 hd) hr, hrun, hended, _, _, rfl, hQ, ⟨_, rfl⟩, hW, hsame.mono hK hS⟩
theorem g_ldcI (A : Ax p l e R s m args below meth c T locs cells slots B) {Z : State} {a0 : Array Value} {own : String} {i : Nat} {v : Int32} (hZ : Z.Warmed39 s.vm) (hown : s.vm.findClass own = some m.cls) (w : (Jvm.Cond.constant own i v).before a0 Z = true) (hd : decode B pc = .ok (.ldc i, 2)) (hp : pc + 2 = pc') (k : Go p e below P T (mkF m pc' ls (.int v :: st))) : Go p e below P T (mkF m pc ls st) := by
  subst hp; exact Go.of (A.1.ldcInt A.2.1 hown (mvT hZ w) (g := mkF m pc ls st) rfl (hb A.2.2 hd)) k
theorem g_ldcD (A : Ax p l e R s m args below meth c T locs cells slots B) {Z : State} {a0 : Array Value} {own : String} {i : Nat} {v : UInt64} (hZ : Z.Warmed39 s.vm) (hown : s.vm.findClass own = some m.cls) (w : (Jvm.Cond.constantDouble own i v).before a0 Z = true) (hd : decode B pc = .ok (.ldc2_w i, 3)) (hp : pc + 3 = pc') (k : Go p e below P T (mkF m pc' ls (.double v :: st))) : Go p e below P T (mkF m pc ls st) := by
  subst hp; exact Go.of (A.1.ldc2DoubleC A.2.1 hown (mvT hZ w) (g := mkF m pc ls st) rfl (hb A.2.2 hd)) k
theorem g_ldcL (A : Ax p l e R s m args below meth c T locs cells slots B) {Z : State} {a0 : Array Value} {own : String} {i : Nat} {v : Int64} (hZ : Z.Warmed39 s.vm) (hown : s.vm.findClass own = some m.cls) (w : (Jvm.Cond.constantLong own i v).before a0 Z = true) (hd : decode B pc = .ok (.ldc2_w i, 3)) (hp : pc + 3 = pc') (k : Go p e below P T (mkF m pc' ls (.long v :: st))) : Go p e below P T (mkF m pc ls st) := by
  subst hp; exact Go.of (A.1.ldc2Long A.2.1 hown (mvT hZ w) (g := mkF m pc ls st) rfl (hb A.2.2 hd)) k
theorem g_nnY (A : Ax p l e R s m args below meth c T locs cells slots B) {o : Int} {b : Addr} (hd : decode B pc = .ok (.ifnonnull o, 3)) (hp : (pc : Int) + o = (pc' : Int)) (k : Go p e below P T (mkF m pc' ls st)) : Go p e below P T (mkF m pc ls (.ref b :: st)) := Go.of (fun _ k' => XT.ifnonnullYes A.1.here A.2.1 rfl rfl (hb A.2.2 hd) rfl (own_off hp).1 (own_off hp).2 k') k
theorem g_nnN (A : Ax p l e R s m args below meth c T locs cells slots B) {o : Int} (hd : decode B pc = .ok (.ifnonnull o, 3)) (hp : pc + 3 = pc') (k : Go p e below P T (mkF m pc' ls st)) : Go p e below P T (mkF m pc ls (.null :: st)) := by
  subst hp; exact Go.of (fun _ k' => XT.ifnonnullNo A.1.here A.2.1 rfl (hb A.2.2 hd) rfl k') k
theorem g_nuY (A : Ax p l e R s m args below meth c T locs cells slots B) {o : Int} (hd : decode B pc = .ok (.ifnull o, 3)) (hp : (pc : Int) + o = (pc' : Int)) (k : Go p e below P T (mkF m pc' ls st)) : Go p e below P T (mkF m pc ls (.null :: st)) := Go.of (fun _ k' => XS.ifnullYes A.1.here A.2.1 rfl rfl (hb A.2.2 hd) rfl (own_off hp).1 (own_off hp).2 k') k
theorem g_nuN (A : Ax p l e R s m args below meth c T locs cells slots B) {o : Int} {b : Addr} (hd : decode B pc = .ok (.ifnull o, 3)) (hp : pc + 3 = pc') (k : Go p e below P T (mkF m pc' ls st)) : Go p e below P T (mkF m pc ls (.ref b :: st)) := by
  subst hp; exact Go.of (fun _ k' => XS.ifnullNo A.1.here A.2.1 rfl (hb A.2.2 hd) rfl k') k
theorem g_acY (A : Ax p l e R s m args below meth c T locs cells slots B) {o : Int} {cd : ClassFile.ACond} {x y : Value} (hd : decode B pc = .ok (.if_acmp cd o, 3)) (h1 : x.isRef = true) (h2 : y.isRef = true) (hc : XT.acmp cd x y = true) (hp : (pc : Int) + o = (pc' : Int)) (k : Go p e below P T (mkF m pc' ls st)) : Go p e below P T (mkF m pc ls (y :: x :: st)) := Go.of (fun _ k' => XT.acmpYes A.1.here A.2.1 rfl rfl (hb A.2.2 hd) rfl h1 h2 hc (own_off hp).1 (own_off hp).2 k') k
theorem g_acN (A : Ax p l e R s m args below meth c T locs cells slots B) {o : Int} {cd : ClassFile.ACond} {x y : Value} (hd : decode B pc = .ok (.if_acmp cd o, 3)) (h1 : x.isRef = true) (h2 : y.isRef = true) (hc : XT.acmp cd x y = false) (hp : pc + 3 = pc') (k : Go p e below P T (mkF m pc' ls st)) : Go p e below P T (mkF m pc ls (y :: x :: st)) := by
  subst hp; exact Go.of (fun _ k' => XT.acmpNo A.1.here A.2.1 rfl (hb A.2.2 hd) rfl h1 h2 hc k') k
/-- an array of n places: its i-th holds f i -/
def Dar (Z : State) (h : Heap) (a : Addr) (ty : FieldType) (n : Nat) (f : Nat → Value) : Prop := ∃ cl : Cell, RoadKit.Arr Z h a cl ty ∧ cl.slots.size = n ∧ n < 2147483648 ∧ ∀ i, i < n → cl.slots[i]? = some (f i)
variable {Z : State} {h h' : Heap} {a b : Addr} {ty : FieldType} {n : Nat} {f g : Nat → Value} {sl : Nat} {v : Value} {ws : List Addr}
theorem Dar.lt (F : Dar Z h a ty n f) : a < h.size := by obtain ⟨cl, A, -⟩ := F; exact A.lt
theorem Dar.ext (E : Ext h h') (F : Dar Z h a ty n f) : Dar Z h' a ty n f := by obtain ⟨cl, A, r⟩ := F; exact ⟨cl, A.ext E, r⟩
theorem Dar.other (W : Wr h h' b sl v) (F : Dar Z h a ty n f) (q : a ≠ b) : Dar Z h' a ty n f := by obtain ⟨cl, A, r⟩ := F; exact ⟨cl, A.other W q, r⟩
theorem Dar.keep (F : Dar Z h a ty n f) (K : Keep h h' ws) (q : a ∉ ws) : Dar Z h' a ty n f := by obtain ⟨cl, A, r⟩ := F; exact ⟨cl, ⟨K.2.1 a cl A.1 q, A.2⟩, r⟩
theorem Dar.congr (F : Dar Z h a ty n f) (q : ∀ i, i < n → f i = g i) : Dar Z h a ty n g := by obtain ⟨cl, A, r1, r2, r3⟩ := F; exact ⟨cl, A, r1, r2, fun i hi => by rw [← q i hi]; exact r3 i hi⟩
theorem Dar.new {cA : ClassId} {z : Int32} (A : RoadKit.Arr Z h a (newA cA ty z) ty) (hz : z.toNatClampNeg = n) : Dar Z h a ty n (fun _ => defaultValue ty) := by
  refine ⟨_, A, (sz_new _ _ _).trans hz, ?_, fun i hi => by subst hz; simp [newA, hi]⟩
  have := z.toInt_lt
  rw [← hz, Int32.toNatClampNeg]; omega
theorem Dar.ne_exa {a0 : Array Value} {k : Nat} {C : String} (F : Dar Z h a ty n f) (E : Exa Z h b C) (wi : (Jvm.Cond.instantiable C k).before a0 Z = true) : a ≠ b := by obtain ⟨cl, A, -⟩ := F; exact fun q => ne_arr E wi A q.symm
theorem own_ne {a b : Nat} {h : Heap} (g : a = h.size) (q : b < h.size) : b ≠ a := by rw [g]; exact Nat.ne_of_lt q
theorem own_clamp {i : Nat} (hi : i < 2147483648) : (Int32.ofNat i).toNatClampNeg = i ∧ ¬ Int32.ofNat i < 0 := by
  have e : (Int32.ofNat i).toInt = i := Int32.toInt_ofNat_of_lt hi
  refine ⟨by rw [Int32.toNatClampNeg, e]; omega, fun q => ?_⟩
  rw [Int32.lt_iff_toInt_lt, e] at q
  have : (0 : Int32).toInt = 0 := rfl
  omega
theorem Dar.set {i : Nat} (F : Dar Z h a ty n f) (W : Wr h h' a i v) (q : ∀ j, j < n → g j = if j = i then v else f j) : Dar Z h' a ty n g := by
  obtain ⟨cl, A, r1, r2, r3⟩ := F
  refine ⟨_, A.same W, (sz_set _ _ _).trans r1, r2, fun j hj => ?_⟩
  rw [q j hj]
  by_cases e : j = i
  · subst e; rw [if_pos rfl]; simp [Cell.setSlot, r1, hj]
  · rw [if_neg e]; exact (Array.getElem?_setIfInBounds_ne (Ne.symm e)).trans (r3 j hj)
theorem own_in {cl : Cell} {i : Nat} (S : cl.slots.size = n) (hn : n < 2147483648) (hi : i < n) : ¬ (Int32.ofNat i < 0 ∨ cl.slots.size ≤ (Int32.ofNat i).toNatClampNeg) := by
  obtain ⟨q1, q2⟩ := own_clamp (i := i) (by omega)
  rw [q1, S]; exact fun z => z.elim q2 (by omega)
theorem g_daload (A : Ax p l e R s m args below meth c T locs cells slots B) (hZ : Z.Warmed39 s.vm) (eT : T.heap = h) {j : Int32} {i : Nat} {x : UInt64} (F : Dar Z h a .double n f) (hi : i < n) (hj : j = Int32.ofNat i) (hv : f i = .double x) (hd : decode B pc = .ok (.daload, 1)) (hp : pc + 1 = pc') (k : Go p e below P T (mkF m pc' ls (.double x :: st))) : Go p e below P T (mkF m pc ls (.int j :: .ref a :: st)) := by
  subst hp hj
  obtain ⟨cl, A2, r1, r2, r3⟩ := F
  have q := (own_clamp (i := i) (by omega)).1
  exact Go.of (fun t k' => A.1.daload A.2.1 (j := Int32.ofNat i) (v := .double x) (by rw [eT]; exact A2.1) (State.isArrayOf_alike hZ.alike A2.2.1) A2.2.2 (own_in r1 r2 hi) (by rw [q, ← hv]; exact r3 i hi) (g := mkF m pc ls (.int (Int32.ofNat i) :: .ref a :: st)) rfl rfl (hb A.2.2 hd) t k') k
theorem g_iaload (A : Ax p l e R s m args below meth c T locs cells slots B) (hZ : Z.Warmed39 s.vm) (eT : T.heap = h) {j : Int32} {i : Nat} {x : Int32} (F : Dar Z h a .int n f) (hi : i < n) (hj : j = Int32.ofNat i) (hv : f i = .int x) (hd : decode B pc = .ok (.iaload, 1)) (hp : pc + 1 = pc') (k : Go p e below P T (mkF m pc' ls (.int x :: st))) : Go p e below P T (mkF m pc ls (.int j :: .ref a :: st)) := by
  subst hp hj
  obtain ⟨cl, A2, r1, r2, r3⟩ := F
  have q := (own_clamp (i := i) (by omega)).1
  exact Go.of (fun t k' => A.1.iaload A.2.1 (j := Int32.ofNat i) (v := .int x) (by rw [eT]; exact A2.1) (State.isArrayOf_alike hZ.alike A2.2.1) A2.2.2 (own_in r1 r2 hi) (by rw [q, ← hv]; exact r3 i hi) (g := mkF m pc ls (.int (Int32.ofNat i) :: .ref a :: st)) rfl rfl (hb A.2.2 hd) t k') k
theorem g_baload (A : Ax p l e R s m args below meth c T locs cells slots B) (hZ : Z.Warmed39 s.vm) (eT : T.heap = h) {j : Int32} {i : Nat} {x : Int32} (F : Dar Z h a .boolean n f) (hi : i < n) (hj : j = Int32.ofNat i) (hv : f i = .int x) (hd : decode B pc = .ok (.baload, 1)) (hp : pc + 1 = pc') (k : Go p e below P T (mkF m pc' ls (.int x :: st))) : Go p e below P T (mkF m pc ls (.int j :: .ref a :: st)) := by
  subst hp hj
  obtain ⟨cl, A2, r1, r2, r3⟩ := F
  have q := (own_clamp (i := i) (by omega)).1
  exact Go.of (fun t k' => A.1.baloadBooleans A.2.1 (j := Int32.ofNat i) (v := .int x) (by rw [eT]; exact A2.1) (State.isArrayOf_alike hZ.alike A2.2.1) A2.2.2 (own_in r1 r2 hi) (by rw [q, ← hv]; exact r3 i hi) (g := mkF m pc ls (.int (Int32.ofNat i) :: .ref a :: st)) rfl rfl (hb A.2.2 hd) t k') k
theorem g_baloadB (A : Ax p l e R s m args below meth c T locs cells slots B) (hZ : Z.Warmed39 s.vm) (eT : T.heap = h) {j : Int32} {i : Nat} {x : Int32} (F : Dar Z h a .byte n f) (hi : i < n) (hj : j = Int32.ofNat i) (hv : f i = .int x) (hd : decode B pc = .ok (.baload, 1)) (hp : pc + 1 = pc') (k : Go p e below P T (mkF m pc' ls (.int x :: st))) : Go p e below P T (mkF m pc ls (.int j :: .ref a :: st)) := by
  subst hp hj
  obtain ⟨cl, A2, r1, r2, r3⟩ := F
  have q := (own_clamp (i := i) (by omega)).1
  exact Go.of (fun t k' => A.1.baloadBytes A.2.1 (j := Int32.ofNat i) (v := .int x) (by rw [eT]; exact A2.1) (State.isArrayOf_alike hZ.alike A2.2.1) A2.2.2 (own_in r1 r2 hi) (by rw [q, ← hv]; exact r3 i hi) (g := mkF m pc ls (.int (Int32.ofNat i) :: .ref a :: st)) rfl rfl (hb A.2.2 hd) t k') k
theorem g_alen (A : Ax p l e R s m args below meth c T locs cells slots B) (hZ : Z.Warmed39 s.vm) (eT : T.heap = h) (F : Dar Z h a ty n f) (hd : decode B pc = .ok (.arraylength, 1)) {z : Int32} (hz : Int32.ofNat n = z) (hp : pc + 1 = pc') (k : Go p e below P T (mkF m pc' ls (.int z :: st))) : Go p e below P T (mkF m pc ls (.ref a :: st)) := by
  subst hp hz
  obtain ⟨cl, A2, r1, r2, r3⟩ := F
  exact Go.of (fun t k' => A.1.arraylength A.2.1 (cell := cl) (by rw [eT]; exact A2.1) (State.isArrayOf_alike hZ.alike A2.2.1) (g := mkF m pc ls (.ref a :: st)) rfl (rest := st) rfl (hb A.2.2 hd) t (by rw [r1]; exact k')) k
theorem s_dastore (A : Ax p l e R s m args below meth c T locs cells slots B) (hZ : Z.Warmed39 s.vm) (eT : T.heap = h) {j : Int32} {i : Nat} {x : UInt64} (F : Dar Z h a .double n f) (hi : i < n) (hj : j = Int32.ofNat i) (hd : decode B pc = .ok (.dastore, 1)) (hp : pc + 1 = pc') :
    ∃ T' h', Ax p l e R s m args below meth c T' (locs ++ [⟨a, i⟩]) cells slots B ∧ T'.heap = h' ∧ Wr h h' a i (.double x) ∧ ∀ {P : State → Outcome → Prop}, Go p e below P T' (mkF m pc' ls st) → Go p e below P T (mkF m pc ls (.double x :: .int j :: .ref a :: st)) := by
  subst hp hj
  obtain ⟨cl, A2, r1, r2, r3⟩ := F
  have q := (own_clamp (i := i) (by omega)).1
  obtain ⟨X', st'⟩ := A.1.dastore A.2.1 (by rw [eT]; exact A2.1) (State.isArrayOf_alike hZ.alike A2.2.1) A2.2.2 (own_in r1 r2 hi) (x := x) (g := mkF m pc ls (.double x :: .int (Int32.ofNat i) :: .ref a :: st)) rfl rfl (hb A.2.2 hd)
  rw [q] at X' st'
  exact ⟨_, _, ⟨X', A.2⟩, rfl, ⟨cl, A2.1, A2.plain, by rw [r1]; exact hi, by rw [← eT]; rfl⟩, fun k => Go.of st' k⟩
theorem s_iastore (A : Ax p l e R s m args below meth c T locs cells slots B) (hZ : Z.Warmed39 s.vm) (eT : T.heap = h) {j : Int32} {i : Nat} {x : Int32} (F : Dar Z h a .int n f) (hi : i < n) (hj : j = Int32.ofNat i) (hd : decode B pc = .ok (.iastore, 1)) (hp : pc + 1 = pc') :
    ∃ T' h', Ax p l e R s m args below meth c T' (locs ++ [⟨a, i⟩]) cells slots B ∧ T'.heap = h' ∧ Wr h h' a i (.int x) ∧ ∀ {P : State → Outcome → Prop}, Go p e below P T' (mkF m pc' ls st) → Go p e below P T (mkF m pc ls (.int x :: .int j :: .ref a :: st)) := by
  subst hp hj
  obtain ⟨cl, A2, r1, r2, r3⟩ := F
  have q := (own_clamp (i := i) (by omega)).1
  obtain ⟨T', h', X', e', W, st'⟩ := stI A.1 A.2.1 hZ eT A2 (own_in r1 r2 hi) (x := x) (g := mkF m pc ls (.int x :: .int (Int32.ofNat i) :: .ref a :: st)) rfl rfl (hb A.2.2 hd)
  rw [q] at X' W
  exact ⟨_, _, ⟨X', A.2⟩, e', W, fun k => Go.of st' k⟩
theorem s_zastore (A : Ax p l e R s m args below meth c T locs cells slots B) (hZ : Z.Warmed39 s.vm) (eT : T.heap = h) {j : Int32} {i : Nat} {x : Int32} (F : Dar Z h a .boolean n f) (hi : i < n) (hj : j = Int32.ofNat i) (hx1 : narrow .boolean (.int x) = .int x) (hd : decode B pc = .ok (.bastore, 1)) (hp : pc + 1 = pc') :
    ∃ T' h', Ax p l e R s m args below meth c T' (locs ++ [⟨a, i⟩]) cells slots B ∧ T'.heap = h' ∧ Wr h h' a i (.int x) ∧ ∀ {P : State → Outcome → Prop}, Go p e below P T' (mkF m pc' ls st) → Go p e below P T (mkF m pc ls (.int x :: .int j :: .ref a :: st)) := by
  subst hp hj
  obtain ⟨cl, A2, r1, r2, r3⟩ := F
  have q := (own_clamp (i := i) (by omega)).1
  obtain ⟨T', h', X', e', W, st'⟩ := stZ A.1 A.2.1 hZ eT A2 (own_in r1 r2 hi) (x := x) (g := mkF m pc ls (.int x :: .int (Int32.ofNat i) :: .ref a :: st)) rfl rfl (hb A.2.2 hd)
  have q2 : nar .boolean x = x := Value.int.inj hx1
  rw [q] at X' W; rw [q2] at W
  exact ⟨_, _, ⟨X', A.2⟩, e', W, fun k => Go.of st' k⟩
theorem s_bastoreB (A : Ax p l e R s m args below meth c T locs cells slots B) (hZ : Z.Warmed39 s.vm) (eT : T.heap = h) {j : Int32} {i : Nat} {x : Int32} (F : Dar Z h a .byte n f) (hi : i < n) (hj : j = Int32.ofNat i) (hd : decode B pc = .ok (.bastore, 1)) (hp : pc + 1 = pc') :
    ∃ T' h', Ax p l e R s m args below meth c T' (locs ++ [⟨a, i⟩]) cells slots B ∧ T'.heap = h' ∧ Wr h h' a i (.int (nar .byte x)) ∧ ∀ {P : State → Outcome → Prop}, Go p e below P T' (mkF m pc' ls st) → Go p e below P T (mkF m pc ls (.int x :: .int j :: .ref a :: st)) := by
  subst hp hj
  obtain ⟨cl, A2, r1, r2, r3⟩ := F
  have q := (own_clamp (i := i) (by omega)).1
  obtain ⟨T', h', X', e', W, st'⟩ := stB A.1 A.2.1 hZ eT A2 (own_in r1 r2 hi) (x := x) (g := mkF m pc ls (.int x :: .int (Int32.ofNat i) :: .ref a :: st)) rfl rfl (hb A.2.2 hd)
  rw [q] at X' W
  exact ⟨_, _, ⟨X', A.2⟩, e', W, fun k => Go.of st' k⟩
end own_go
section own_arr
variable {p : Program} {l : Launch} {e : Env} {R : Room} {s : State} {m : MethodId} {args : Array Value} {below : List Frame} {meth : Method} {c : Code} {T : State} {locs : List Loc} {cells slots : Nat} {P : State → Outcome → Prop} {B : ByteArray} {pc pc' : Nat} {ls ls' : Array Slot} {st : List Value} {Z : State} {h h' : Heap} {a b : Addr}
/-- the array's class is that of arrays of double[] -/
def Ovd (Z : State) (h : Heap) (a : Addr) : Prop := ∃ cl : Cell, h[a]? = some cl ∧ OvrA Z cl.cls .double "[D"
theorem Ovd.lt (F : Ovd Z h a) : a < h.size := by obtain ⟨cl, h1, -⟩ := F; exact (Array.getElem?_eq_some_iff.mp h1).1
theorem Ovd.ext (E : Ext h h') (F : Ovd Z h a) : Ovd Z h' a := by obtain ⟨cl, h1, h2⟩ := F; exact ⟨cl, E.2 _ _ h1, h2⟩
theorem Ovd.wr {sl : Nat} {v : Value} (W : Wr h h' b sl v) (F : Ovd Z h a) : Ovd Z h' a := by
  obtain ⟨cl, h1, h2⟩ := F
  obtain ⟨c', e1, e2, -⟩ := wr_at W h1
  exact ⟨c', e1, by rw [e2]; exact h2⟩
theorem Ovd.keep {ws : List Addr} (F : Ovd Z h a) (K : Keep h h' ws) : Ovd Z h' a := by
  obtain ⟨cl, h1, h2⟩ := F
  obtain ⟨c', e1, e2, -⟩ := K.2.2 a cl h1
  exact ⟨c', e1, by rw [e2]; exact h2⟩
theorem s_aastore (A : Ax p l e R s m args below meth c T locs cells slots B) (hZ : Z.Warmed39 s.vm) (eT : T.heap = h) {n : Nat} {f : Nat → Value} {j : Int32} {i : Nat} {y : Addr} (F : Dar Z h a (.array .double) n f) (O : Ovd Z h a) (I : Exa Z h y "[D") (hi : i < n) (hj : j = Int32.ofNat i) (hd : decode B pc = .ok (.aastore, 1)) (hp : pc + 1 = pc') :
    ∃ T' h', Ax p l e R s m args below meth c T' (locs ++ [⟨a, i⟩]) cells slots B ∧ T'.heap = h' ∧ Wr h h' a i (.ref y) ∧ ∀ {P : State → Outcome → Prop}, Go p e below P T' (mkF m pc' ls st) → Go p e below P T (mkF m pc ls (.ref y :: .int j :: .ref a :: st)) := by
  subst hp hj
  obtain ⟨cl, A2, r1, r2, r3⟩ := F
  obtain ⟨cl', o1, o2⟩ := O
  cases A2.1.symm.trans o1
  have q := (own_clamp (i := i) (by omega)).1
  obtain ⟨T', h', X', e', W, st'⟩ := stR A.1 A.2.1 hZ eT A2 (own_in r1 r2 hi) rfl (Sto.ofVA A2 rfl o2 (Ins.self I)) (g := mkF m pc ls (.ref y :: .int (Int32.ofNat i) :: .ref a :: st)) rfl rfl (hb A.2.2 hd)
  rw [q] at X' W
  exact ⟨_, _, ⟨X', A.2⟩, e', W, fun k => Go.of st' k⟩
theorem g_aaload (A : Ax p l e R s m args below meth c T locs cells slots B) (hZ : Z.Warmed39 s.vm) (eT : T.heap = h) {n : Nat} {f : Nat → Value} {j : Int32} {i : Nat} {v : Value} (F : Dar Z h a (.array .double) n f) (hi : i < n) (hj : j = Int32.ofNat i) (hv : f i = v) (hd : decode B pc = .ok (.aaload, 1)) (hp : pc + 1 = pc') (k : Go p e below P T (mkF m pc' ls (v :: st))) : Go p e below P T (mkF m pc ls (.int j :: .ref a :: st)) := by
  subst hp hj
  obtain ⟨cl, A2, r1, r2, r3⟩ := F
  have q := (own_clamp (i := i) (by omega)).1
  exact Go.of (fun t k' => A.1.aaload A.2.1 (j := Int32.ofNat i) (v := v) (by rw [eT]; exact A2.1) (State.isArrayOf_alike hZ.alike A2.2.1) rfl A2.2.2 (own_in r1 r2 hi) (by rw [q, ← hv]; exact r3 i hi) (g := mkF m pc ls (.int (Int32.ofNat i) :: .ref a :: st)) rfl rfl (hb A.2.2 hd) t k') k
theorem own_rg (x : Nat → UInt64) (n i : Nat) (hi : i < n) : ((List.range n).map fun j => Value.double (x j)).getD i (.double 0) = .double (x i) := by
  simp [hi]
theorem own_splice (x y : Nat → UInt64) (n n' sp nn i : Nat) (h4 : sp + nn ≤ n) (h5 : nn ≤ n') (hi : i < n') :
    (((List.range n').map (fun j => Value.double (y j))).take 0 ++ (List.range nn).map (fun i => ((List.range n).map fun j => Value.double (x j)).getD (sp + i) (.double 0)) ++ ((List.range n').map (fun j => Value.double (y j))).drop (0 + nn)).getD i (.double 0) = .double (if i < nn then x (sp + i) else y i) := by
  rw [List.getD_eq_getElem?_getD, List.take_zero, List.nil_append, List.getElem?_append]
  by_cases q : i < nn
  · rw [if_pos (by simpa using q), if_pos q]
    simp [q, show sp + i < n by omega]
  · rw [if_neg (by simpa using q), if_neg q]
    simp only [List.length_map, List.length_range, Nat.zero_add, List.getElem?_drop]
    rw [show nn + (i - nn) = i by omega]
    simp [hi]
theorem own_arv {n : Nat} {x : Nat → UInt64} (F : Dar Z h a .double n (fun j => .double (x j))) : ∃ k, Arv Z h a k .double (Int32.ofNat n) ((List.range n).map fun j => Value.double (x j)) (.double 0) := by
  obtain ⟨ca, A1, r1, r2, r3⟩ := F
  obtain ⟨c1, c2⟩ := own_clamp (i := n) r2
  refine ⟨ca.cls, ca, A1, rfl, by rw [c1]; exact r1, c2, fun k hk => ?_, fun i hi => ?_⟩
  · rw [own_rg x n k (by omega)]; exact r3 k (by omega)
  · rw [own_rg x n i (by omega)]; rfl
theorem s_acopy (A : Ax p l e R s m args below meth c T locs cells slots B) (hZ : Z.Warmed39 s.vm) (eT : T.heap = h) {a0 : Array Value} {own : String} {index : Nat} (hown : s.vm.findClass own = some m.cls) (w1 : (Jvm.Cond.methodLink own index Jvm.Stand.acN).before a0 Z = true) (w2 : (Jvm.Cond.native Jvm.Stand.acN).before a0 Z = true) (w3 : (Jvm.Cond.static Jvm.Stand.acN).before a0 Z = true) (w4 : (Jvm.Cond.initialized "java/lang/System").before a0 Z = true)
    {n n' sp nn n0 : Nat} {x y : Nat → UInt64} (F : Dar Z h a .double n (fun j => .double (x j))) (G : Dar Z h b .double n' (fun j => .double (y j))) (h4 : sp + nn ≤ n) (h5 : nn ≤ n') (N : Fr n0 locs) (ge : n0 ≤ b) {j1 j2 : Int32} (e1 : j1 = Int32.ofNat sp) (e2 : j2 = Int32.ofNat nn) (hsize : ls.size = c.maxLocals) (hd : decode B pc = .ok (.invokestatic index, 3)) (hp : pc + 3 = pc') (hf : 1 ≤ R.frames) {W : Nat} (hW : 2 * 0 + (st.map fun v => v.category).sum ≤ W) (hlo : W + (nativeFrameWords "java/lang/System" "arraycopy" 5 + 11) ≤ R.locals) :
    ∃ T' h' L, Ax p l e R s m args below meth c T' L cells slots B ∧ T'.heap = h' ∧ Fr n0 L ∧ Keep h h' [b] ∧ Dar Z h' b .double n' (fun j => .double (if j < nn then x (sp + j) else y j)) ∧ ∀ {P : State → Outcome → Prop}, Go p e below P T' (mkF m pc' ls st) → Go p e below P T (mkF m pc ls (.int j2 :: .int (0 : Int32) :: .ref b :: .int j1 :: .ref a :: st)) := by
  subst hp e1 e2
  have hn : n < 2147483648 := by obtain ⟨_, _, _, r, _⟩ := F; exact r
  have hn' : n' < 2147483648 := by obtain ⟨_, _, _, r, _⟩ := G; exact r
  obtain ⟨ka, FA⟩ := own_arv F
  obtain ⟨kb, GB⟩ := own_arv G
  obtain ⟨c1, c1'⟩ := own_clamp (i := sp) (by omega)
  obtain ⟨c2, c2'⟩ := own_clamp (i := nn) (by omega)
  obtain ⟨c3, c3'⟩ := own_clamp (i := n) (by omega)
  obtain ⟨c4, c4'⟩ := own_clamp (i := n') (by omega)
  have c0 : (0 : Int32).toNatClampNeg = 0 := rfl
  obtain ⟨T', h', L, X', e', N', K, D, st'⟩ := cpA A.1 A.2.1 hZ hown w1 w2 w3 w4 eT FA GB (Or.inl ⟨rfl, rfl⟩) (sp := Int32.ofNat sp) (dp := (0 : Int32)) (nn := Int32.ofNat nn) c1' (by decide) c2' (by rw [c1, c2, c3]; exact h4) (by rw [c0, c2, c4]; omega) rfl (by rw [c0, c2]; simp; exact h5) N ge (g := mkF m pc ls (.int (Int32.ofNat nn) :: .int (0 : Int32) :: .ref b :: .int (Int32.ofNat sp) :: .ref a :: st)) rfl hsize rfl (hb A.2.2 hd) hf hW hlo
  refine ⟨T', h', L, ⟨X', A.2⟩, e', N', K, ?_, fun k => Go.of st' k⟩
  obtain ⟨cd, D1, -, s1, -, s3, -⟩ := D
  refine ⟨cd, D1, by rw [s1, c4], hn', fun i hi => ?_⟩
  rw [s3 i (by rw [s1, c4]; exact hi), c0, c1, c2]
  exact congrArg some (own_splice x y n n' sp nn i h4 h5 hi)
theorem own_rgI (x : Nat → Int32) (n i : Nat) (hi : i < n) : ((List.range n).map fun j => Value.int (x j)).getD i (.int 0) = .int (x i) := by
  simp [hi]
theorem own_spliceI (x y : Nat → Int32) (n n' sp nn i : Nat) (h4 : sp + nn ≤ n) (h5 : nn ≤ n') (hi : i < n') :
    (((List.range n').map (fun j => Value.int (y j))).take 0 ++ (List.range nn).map (fun i => ((List.range n).map fun j => Value.int (x j)).getD (sp + i) (.int 0)) ++ ((List.range n').map (fun j => Value.int (y j))).drop (0 + nn)).getD i (.int 0) = .int (if i < nn then x (sp + i) else y i) := by
  rw [List.getD_eq_getElem?_getD, List.take_zero, List.nil_append, List.getElem?_append]
  by_cases q : i < nn
  · rw [if_pos (by simpa using q), if_pos q]
    simp [q, show sp + i < n by omega]
  · rw [if_neg (by simpa using q), if_neg q]
    simp only [List.length_map, List.length_range, Nat.zero_add, List.getElem?_drop]
    rw [show nn + (i - nn) = i by omega]
    simp [hi]
theorem own_arvI {n : Nat} {x : Nat → Int32} (F : Dar Z h a .int n (fun j => .int (x j))) : ∃ k, Arv Z h a k .int (Int32.ofNat n) ((List.range n).map fun j => Value.int (x j)) (.int 0) := by
  obtain ⟨ca, A1, r1, r2, r3⟩ := F
  obtain ⟨c1, c2⟩ := own_clamp (i := n) r2
  refine ⟨ca.cls, ca, A1, rfl, by rw [c1]; exact r1, c2, fun k hk => ?_, fun i hi => ?_⟩
  · rw [own_rgI x n k (by omega)]; exact r3 k (by omega)
  · rw [own_rgI x n i (by omega)]; rfl
theorem s_acopyI (A : Ax p l e R s m args below meth c T locs cells slots B) (hZ : Z.Warmed39 s.vm) (eT : T.heap = h) {a0 : Array Value} {own : String} {index : Nat} (hown : s.vm.findClass own = some m.cls) (w1 : (Jvm.Cond.methodLink own index Jvm.Stand.acN).before a0 Z = true) (w2 : (Jvm.Cond.native Jvm.Stand.acN).before a0 Z = true) (w3 : (Jvm.Cond.static Jvm.Stand.acN).before a0 Z = true) (w4 : (Jvm.Cond.initialized "java/lang/System").before a0 Z = true)
    {n n' sp nn n0 : Nat} {x y : Nat → Int32} (F : Dar Z h a .int n (fun j => .int (x j))) (G : Dar Z h b .int n' (fun j => .int (y j))) (h4 : sp + nn ≤ n) (h5 : nn ≤ n') (N : Fr n0 locs) (ge : n0 ≤ b) {j1 j2 : Int32} (e1 : j1 = Int32.ofNat sp) (e2 : j2 = Int32.ofNat nn) (hsize : ls.size = c.maxLocals) (hd : decode B pc = .ok (.invokestatic index, 3)) (hp : pc + 3 = pc') (hf : 1 ≤ R.frames) {W : Nat} (hW : 2 * 0 + (st.map fun v => v.category).sum ≤ W) (hlo : W + (nativeFrameWords "java/lang/System" "arraycopy" 5 + 11) ≤ R.locals) :
    ∃ T' h' L, Ax p l e R s m args below meth c T' L cells slots B ∧ T'.heap = h' ∧ Fr n0 L ∧ Keep h h' [b] ∧ Dar Z h' b .int n' (fun j => .int (if j < nn then x (sp + j) else y j)) ∧ ∀ {P : State → Outcome → Prop}, Go p e below P T' (mkF m pc' ls st) → Go p e below P T (mkF m pc ls (.int j2 :: .int (0 : Int32) :: .ref b :: .int j1 :: .ref a :: st)) := by
  subst hp e1 e2
  have hn : n < 2147483648 := by obtain ⟨_, _, _, r, _⟩ := F; exact r
  have hn' : n' < 2147483648 := by obtain ⟨_, _, _, r, _⟩ := G; exact r
  obtain ⟨ka, FA⟩ := own_arvI F
  obtain ⟨kb, GB⟩ := own_arvI G
  obtain ⟨c1, c1'⟩ := own_clamp (i := sp) (by omega)
  obtain ⟨c2, c2'⟩ := own_clamp (i := nn) (by omega)
  obtain ⟨c3, c3'⟩ := own_clamp (i := n) (by omega)
  obtain ⟨c4, c4'⟩ := own_clamp (i := n') (by omega)
  have c0 : (0 : Int32).toNatClampNeg = 0 := rfl
  obtain ⟨T', h', L, X', e', N', K, D, st'⟩ := cpA A.1 A.2.1 hZ hown w1 w2 w3 w4 eT FA GB (Or.inl ⟨rfl, rfl⟩) (sp := Int32.ofNat sp) (dp := (0 : Int32)) (nn := Int32.ofNat nn) c1' (by decide) c2' (by rw [c1, c2, c3]; exact h4) (by rw [c0, c2, c4]; omega) rfl (by rw [c0, c2]; simp; exact h5) N ge (g := mkF m pc ls (.int (Int32.ofNat nn) :: .int (0 : Int32) :: .ref b :: .int (Int32.ofNat sp) :: .ref a :: st)) rfl hsize rfl (hb A.2.2 hd) hf hW hlo
  refine ⟨T', h', L, ⟨X', A.2⟩, e', N', K, ?_, fun k => Go.of st' k⟩
  obtain ⟨cd, D1, -, s1, -, s3, -⟩ := D
  refine ⟨cd, D1, by rw [s1, c4], hn', fun i hi => ?_⟩
  rw [s3 i (by rw [s1, c4]; exact hi), c0, c1, c2]
  exact congrArg some (own_spliceI x y n n' sp nn i h4 h5 hi)
theorem s_clone (A : Ax p l e R s m args below meth c T locs cells slots B) (hZ : Z.Warmed39 s.vm) (eT : T.heap = h) {a0 : Array Value} {own ad : String} {index : Nat} (hown : s.vm.findClass own = some m.cls) (w1 : (Jvm.Cond.methodLink own index ⟨ad, "clone", "()Ljava/lang/Object;"⟩).before a0 Z = true) (w2 : (Jvm.Cond.sameMethod ad "java/lang/Object" "clone" "()Ljava/lang/Object;").before a0 Z = true) (w3 : (Jvm.Cond.native ⟨"java/lang/Object", "clone", "()Ljava/lang/Object;"⟩).before a0 Z = true)
    (w4 : (Jvm.Cond.instanceMethod ⟨"java/lang/Object", "clone", "()Ljava/lang/Object;"⟩).before a0 Z = true) (w5 : (Jvm.Cond.selects ad ⟨ad, "clone", "()Ljava/lang/Object;"⟩ ⟨"java/lang/Object", "clone", "()Ljava/lang/Object;"⟩).before a0 Z = true) (w6 : (Jvm.Cond.castable ad "java/lang/Cloneable").before a0 Z = true)
    {ty : FieldType} {n : Nat} {f : Nat → Value} (F : Dar Z h a ty n f) (hfit : ∀ i, i < n → fits ty (f i) = true) (E : Exa Z h a ad) (hsize : ls.size = c.maxLocals) (hd : decode B pc = .ok (.invokevirtual index, 3)) (hp : pc + 3 = pc') (hf : 1 ≤ R.frames) {W cap : Nat} (hW : 2 * 0 + (st.map fun v => v.category).sum ≤ W) (hl : W + 14 ≤ R.locals) (hcap : n ≤ cap) (hc : cells + 1 ≤ R.cells) (hsl : slots + cap ≤ R.slots) :
    ∃ T' h', Ax p l e R s m args below meth c T' locs (cells + 1) (slots + cap) B ∧ T'.heap = h' ∧ Ext h h' ∧ Dar Z h' h.size ty n f ∧ Exa Z h' h.size ad ∧ ∀ {P : State → Outcome → Prop}, Go p e below P T' (mkF m pc' ls (.ref h.size :: st)) → Go p e below P T (mkF m pc ls (.ref a :: st)) := by
  subst hp
  obtain ⟨cl, A2, r1, r2, r3⟩ := F
  have FC : FitC Z cl := fitC_of A2 fun i hi v hv => by
    rw [r3 i (by omega)] at hv; cases hv; exact hfit i (by omega)
  obtain ⟨T', h', X', e', ex, A', E', st'⟩ := cloneA A.1 A.2.1 hZ hown w1 w2 w3 w4 w5 w6 eT A2 E FC (g := mkF m pc ls (.ref a :: st)) rfl hsize rfl (hb A.2.2 hd) hf hW hl (by rw [r1]; exact hcap) hc hsl
  exact ⟨T', h', ⟨X', A.2⟩, e', ex, ⟨cloneOf cl, A', r1, r2, r3⟩, E', fun k => Go.of st' k⟩
end own_arr
theorem own_succ (i : Nat) : Int32.ofNat i + Int32.ofInt 1 = Int32.ofNat (i + 1) := by
  show Int32.ofNat i + Int32.ofNat 1 = Int32.ofNat (i + 1)
  rw [Int32.ofNat_add]
theorem own_olt {i n : Nat} (h : i < n) (hn : n < 2147483648) : Int32.ofNat i < Int32.ofNat n := by
  rw [Int32.lt_iff_toInt_lt, Int32.toInt_ofNat_of_lt (by omega), Int32.toInt_ofNat_of_lt hn]; omega
theorem own_onl {i n : Nat} (h : n ≤ i) (hn : i < 2147483648) : ¬ Int32.ofNat i < Int32.ofNat n := by
  rw [Int32.lt_iff_toInt_lt, Int32.toInt_ofNat_of_lt hn, Int32.toInt_ofNat_of_lt (by omega)]; omega
theorem own_osub {i j : Nat} (h : i ≤ j) : Int32.ofNat j - Int32.ofNat i = Int32.ofNat (j - i) := by
  have e : Int32.ofNat j = Int32.ofNat (j - i) + Int32.ofNat i := by rw [← Int32.ofNat_add]; congr 1; omega
  rw [e, Int32.add_sub_cancel]
theorem own_oinj {i j : Nat} (hi : i < 2147483648) (hj : j < 2147483648) (h : Int32.ofNat i = Int32.ofNat j) : i = j := by
  have e := congrArg Int32.toInt h
  rw [Int32.toInt_ofNat_of_lt hi, Int32.toInt_ofNat_of_lt hj] at e; omega
theorem own_pred {b : Nat} (h : 0 < b) : Int32.ofNat b - (1 : Int32) = Int32.ofNat (b - 1) := own_osub (i := 1) h
theorem own_pred' {b : Nat} (h : 0 < b) : Int32.ofNat b + Int32.ofInt (-1) = Int32.ofNat (b - 1) := by
  rw [← own_pred h, Int32.sub_eq_add_neg]; rfl
theorem own_ncl {u w N : Nat} (h : ¬ (u = 0 ∧ w = N)) (hw : w ≤ N) (hN : N < 2147483648) (hu : u ≤ w) (q : Int32.ofNat u = 0) : ¬ Int32.ofNat w = Int32.ofNat N := fun z => h ⟨own_oinj (j := 0) (by omega) (by omega) q, own_oinj (by omega) hN z⟩
/-- the double is a zero -/
abbrev own_zr (x : UInt64) : Prop := FP.dcmp x (0 : UInt64) = some .eq
/-- a, b: what the two searches find between F and E -/
def own_S (x : Nat → UInt64) (F E a b : Nat) : Prop := F ≤ a ∧ a ≤ b ∧ b ≤ E ∧ (∀ k, F ≤ k → k < a → own_zr (x k)) ∧ (∀ k, b ≤ k → k < E → own_zr (x k)) ∧ (a < b → ¬ own_zr (x a) ∧ ¬ own_zr (x (b - 1)))
def own_s (a b F : Nat) : Int32 := if Int32.ofNat a < Int32.ofNat b then (((0 : Int32) + Int32.ofNat a) - Int32.ofNat F) else (0 : Int32)
def own_pi (w : Nat → Int32) (n t : Nat) : Int32 := if t < n then w t else 0
def own_pd (w : Nat → UInt64) (n t : Nat) : UInt64 := if t < n then w t else 0
def own_w (p : Int32) (t : Nat) : Int32 := if t = 0 then p else p + Int32.ofNat t
def own_d (c n : Int32) (t : Nat) : UInt64 := if t = 16 then FP.i2d n else if t = 0 then FP.i2d c else FP.dadd (FP.i2d c) (FP.i2d (Int32.ofNat t))
theorem own_pi0 (w : Nat → Int32) (t : Nat) : Value.int (0 : Int32) = .int (own_pi w 0 t) := rfl
theorem own_pd0 (w : Nat → UInt64) (t : Nat) : Value.double (0 : UInt64) = .double (own_pd w 0 t) := rfl
theorem own_piS {w : Nat → Int32} {n t : Nat} {q : Int32} (e : q = w n) : Value.int (own_pi w (n + 1) t) = if t = n then .int q else .int (own_pi w n t) := by
  unfold own_pi
  by_cases h : t = n
  · rw [if_pos h, if_pos (by omega), e, h]
  · rw [if_neg h]
    by_cases h2 : t < n
    · rw [if_pos h2, if_pos (by omega)]
    · rw [if_neg h2, if_neg (by omega)]
theorem own_pdS {w : Nat → UInt64} {n t : Nat} {q : UInt64} (e : q = w n) : Value.double (own_pd w (n + 1) t) = if t = n then .double q else .double (own_pd w n t) := by
  unfold own_pd
  by_cases h : t = n
  · rw [if_pos h, if_pos (by omega), e, h]
  · rw [if_neg h]
    by_cases h2 : t < n
    · rw [if_pos h2, if_pos (by omega)]
    · rw [if_neg h2, if_neg (by omega)]
theorem own_piP (w : Nat → Int32) (n t : Nat) : own_pi (own_pi w n) n t = own_pi w n t := by
  unfold own_pi; by_cases h : t < n
  · rw [if_pos h]
  · rw [if_neg h, if_neg h]
theorem own_pdP (w : Nat → UInt64) (n t : Nat) : own_pd (own_pd w n) n t = own_pd w n t := by
  unfold own_pd; by_cases h : t < n
  · rw [if_pos h]
  · rw [if_neg h, if_neg h]
theorem own_we {p : Int32} {n k : Nat} (h : k < n) : own_pi (own_w p) n k = p + Int32.ofNat k := by
  unfold own_pi own_w
  rw [if_pos h]
  by_cases q : k = 0
  · rw [if_pos q, q]; exact (Int32.add_zero p).symm
  · rw [if_neg q]
theorem own_rg30 {p : Int32} (p0 : Int32) (hp : p = p0 &&& (1073741823 : Int32)) (n : Nat) (hn : n ≤ 17) : ∀ t, t < n → ¬ (own_pi (own_w p) n) t < 0 ∧ (own_pi (own_w p) n) t < (2147483647 : Int32) := by
  intro t ht
  have h := c_and p0 1073741823 (by decide)
  rw [← hp] at h
  have e1 : (1073741823 : Int32).toInt = 1073741823 := rfl
  have e2 : (2147483647 : Int32).toInt = 2147483647 := rfl
  have e0 : (0 : Int32).toInt = 0 := rfl
  rw [own_we ht]
  have t1 : (Int32.ofNat t).toInt = t := Int32.toInt_ofNat_of_lt (by omega)
  have t2 := c_iadd p (Int32.ofNat t)
  have t3 := rng32 (p + Int32.ofNat t)
  rw [t1] at t2
  rw [Int32.lt_iff_toInt_lt, Int32.lt_iff_toInt_lt]
  omega
theorem own_di (c n : Int32) {t : Nat} (ht : t < 16) : FP.Core.DInt (c.toInt + t) (own_d c n t) := by
  unfold own_d
  rw [if_neg (by omega)]
  by_cases q : t = 0
  · rw [if_pos q, q]
    have h := FP.Core.i2d_int c
    simpa using h
  · rw [if_neg q]
    have h2 := FP.Core.i2d_int (Int32.ofNat t)
    have t1 : (Int32.ofNat t).toInt = t := Int32.toInt_ofNat_of_lt (by omega)
    rw [t1] at h2
    have r := rng32 c
    exact FP.Core.dadd_int (FP.Core.i2d_int c) h2 (by omega)
theorem own_df (c n : Int32) (m : Nat) (hm : m ≤ 17) : ∀ t, t < m → Fin64 ((own_pd (own_d c n) m) t) := by
  intro t ht
  show Fin64 (own_pd (own_d c n) m t)
  unfold own_pd
  rw [if_pos ht]
  by_cases q : t = 16
  · unfold own_d; rw [if_pos q]; exact i2d_fin n
  · exact own_dfin (own_di c n (by omega))
theorem own_de {c n : Int32} {m k : Nat} (h : k < m) (h16 : k < 16) : FP.dcmp (own_pd (own_d c n) m k) (FP.dadd (FP.i2d c) (FP.i2d (Int32.ofNat k))) = some .eq := by
  have h1 := own_di c n h16
  have h2 := FP.Core.i2d_int (Int32.ofNat k)
  have t1 : (Int32.ofNat k).toInt = k := Int32.toInt_ofNat_of_lt (by omega)
  rw [t1] at h2
  have r := rng32 c
  have h3 := FP.Core.dadd_int (FP.Core.i2d_int c) h2 (by omega)
  unfold own_pd
  rw [if_pos h]
  exact (FP.Core.dcmp_int h1 h3).trans (congrArg some ((FP.Core.compare_eq_iff _ _).mpr rfl))
theorem d9_0 : decode jdk_30_method_1_code 0 = .ok (.aload_n 0, 1) := by decide +kernel
theorem d9_1 : decode jdk_30_method_1_code 1 = .ok (.invokespecial 1, 3) := by decide +kernel
theorem d9_4 : decode jdk_30_method_1_code 4 = .ok (.return_, 1) := by decide +kernel
theorem pn_0 : plainName "java/lang/Record" = true := by first | (simp [plainName, overriddenIn]; done) | decide +kernel
theorem ef1 (m : MethodId) (a1 : Addr) : entryFrame m #[(.ref a1)] 1 = mkF m 0 #[.val (.ref a1)] [] := by first | (simp [entryFrame, mkF, argsToLocals, Value.category]; done) | rfl
def Q9 (Z : State) (a1 : Addr) (h0 : Heap) (n0 : Nat) (v : Option Value) (h : Heap) (L : List Loc) : Prop := v = none ∧ Fr n0 L ∧ h = h0
set_option maxRecDepth 65536 in
set_option maxHeartbeats 40000000 in
theorem rm9 (l : Launch) (Z : State) (a0 : Array Value) (hw : ∀ d ∈ tables_1, d.before a0 Z = true) (ws : List Jvm.Cond) (a1 : Addr) (h0 : Heap) (n0 : Nat) (Z0 : n0 ≤ h0.size)  :
    MetFree l (⟨"java/lang/Record", "<init>", "()V"⟩ : MethodName) (head1 (Jvm.Cond.code (⟨"java/lang/Record", "<init>", "()V"⟩ : MethodName) jdk_30_method_1_code 1 none :: ws) ({ frames := 1, cells := 0, slots := 0, locals := 12 } : Room)) (fun a U => a = #[(.ref a1)] ∧ Z.Warmed39 U.vm ∧ U.heap = h0) (fun _ _ _ _ _ => True) (fun _ U o U' => ∃ v L, o = .returned v ∧ Q9 Z a1 h0 n0 v U'.heap L ∧ FrameEnd U o U' L 0 0) := by
  refine MetFree.of_bodySF (plainFor_of_name pn_0) hisR ?_
  intro p e s m args below meth c s₁ Bd hml0 hP hK
  obtain ⟨rfl, hZ, hh⟩ := hP
  have hx := Bd.exec
  have hby := Bd.bytes
  have hml : c.maxLocals = 1 := hml0
  have hown : s.vm.findClass "java/lang/Record" = some m.cls := findClass_of_methodNamed Bd.named
  have hnm := (name_of_methodNamed Bd.named Bd.method).1
  have X0 : Stand p l e ({ frames := 1, cells := 0, slots := 0, locals := 12 } : Room) s m #[(.ref a1)] below meth c s₁ [] 0 0 := Stand.of_body Bd
  have e0 : s₁.heap = h0 := by rw [← hh, Bd.state]; rfl
  have N0 := Fr.nil n0
  have A0 := (⟨X0, hx, hby⟩ : Ax _ _ _ _ _ _ _ _ _ _ _ _ _ _ _)
  show Go p e below (fun U o => ∃ v L, o = .returned v ∧ Q9 Z a1 h0 n0 v U.heap L ∧ FrameEnd s o U L 0 0) s₁ (entryFrame m #[(.ref a1)] 1)
  refine Go.cast (ef1 m a1) ?_
  refine g_aloadN A0 d9_0 rfl rfl (pc' := 1) rfl ?_
  obtain ⟨T2, X2, e2, st2⟩ := initO X0 hx hZ hown (hw _ (List.mem_of_getElem? (i := 71) rfl)) (hw _ (List.mem_of_getElem? (i := 8) rfl)) (hw _ (List.mem_of_getElem? (i := 9) rfl)) e0 (g := (mkF m 1 #[.val (.ref a1)] [(.ref a1)])) rfl (by rw [hml]; rfl) rfl (hb hby d9_1) (by decide) (W := 0) (by show 2 * 0 + _ ≤ _; exact Nat.le_of_eq rfl) (by decide)
  refine Go.of (g' := (mkF m 4 #[.val (.ref a1)] [])) st2 ?_
  have A3 := (⟨X2, hx, hby⟩ : Ax _ _ _ _ _ _ _ _ _ _ _ _ _ _ _)
  exact g_retV (Q := Q9 Z a1 h0 n0) A3 d9_4 Bd.notSynchronized Bd.returns (by decide) (by decide) (by rw [e2]; exact ⟨rfl, N0, rfl⟩)
theorem d5_0 : decode jdk_29_method_69_code 0 = .ok (.iload_n 0, 1) := by decide +kernel
theorem d5_1 : decode jdk_29_method_69_code 1 = .ok (.iload_n 1, 1) := by decide +kernel
theorem d5_2 : decode jdk_29_method_69_code 2 = .ok (.if_icmp .gt 7, 3) := by decide +kernel
theorem d5_5 : decode jdk_29_method_69_code 5 = .ok (.iload_n 0, 1) := by decide +kernel
theorem d5_6 : decode jdk_29_method_69_code 6 = .ok (.goto 4, 3) := by decide +kernel
theorem d5_9 : decode jdk_29_method_69_code 9 = .ok (.iload_n 1, 1) := by decide +kernel
theorem d5_10 : decode jdk_29_method_69_code 10 = .ok (.ireturn, 1) := by decide +kernel
theorem ef4 (m : MethodId)  : entryFrame m #[(.int (16 : Int32)), (.int (32 : Int32))] 2 = mkF m 0 #[.val (.int (16 : Int32)), .val (.int (32 : Int32))] [] := by first | (simp [entryFrame, mkF, argsToLocals, Value.category]; done) | rfl
def QM16_32 (Z : State)  (h0 : Heap) (n0 : Nat) (v : Option Value) (h : Heap) (L : List Loc) : Prop := v = some (.int (16 : Int32)) ∧ Fr n0 L ∧ h = h0
set_option maxRecDepth 65536 in
set_option maxHeartbeats 40000000 in
theorem rmM16_32 (l : Launch) (Z : State) (a0 : Array Value) (hw : ∀ d ∈ tables_1, d.before a0 Z = true) (ws : List Jvm.Cond)  (h0 : Heap) (n0 : Nat) (Z0 : n0 ≤ h0.size)  :
    MetFree l (⟨"java/lang/Math", "min", "(II)I"⟩ : MethodName) (head1 (Jvm.Cond.code (⟨"java/lang/Math", "min", "(II)I"⟩ : MethodName) jdk_29_method_69_code 2 (some .int) :: ws) ({ frames := 0, cells := 0, slots := 0, locals := 0 } : Room)) (fun a U => a = #[(.int (16 : Int32)), (.int (32 : Int32))] ∧ Z.Warmed39 U.vm ∧ U.heap = h0) (fun _ _ _ _ _ => True) (fun _ U o U' => ∃ v L, o = .returned v ∧ QM16_32 Z  h0 n0 v U'.heap L ∧ FrameEnd U o U' L 0 0) := by
  refine MetFree.of_bodySF (by decide +kernel) hisR ?_
  intro p e s m args below meth c s₁ Bd hml0 hP hK
  obtain ⟨rfl, hZ, hh⟩ := hP
  have hx := Bd.exec
  have hby := Bd.bytes
  have hml : c.maxLocals = 2 := hml0
  have hown : s.vm.findClass "java/lang/Math" = some m.cls := findClass_of_methodNamed Bd.named
  have hnm := (name_of_methodNamed Bd.named Bd.method).1
  have X0 : Stand p l e ({ frames := 0, cells := 0, slots := 0, locals := 0 } : Room) s m #[(.int (16 : Int32)), (.int (32 : Int32))] below meth c s₁ [] 0 0 := Stand.of_body Bd
  have e0 : s₁.heap = h0 := by rw [← hh, Bd.state]; rfl
  have N0 := Fr.nil n0
  have A0 := (⟨X0, hx, hby⟩ : Ax _ _ _ _ _ _ _ _ _ _ _ _ _ _ _)
  show Go p e below (fun U o => ∃ v L, o = .returned v ∧ QM16_32 Z  h0 n0 v U.heap L ∧ FrameEnd s o U L 0 0) s₁ (entryFrame m #[(.int (16 : Int32)), (.int (32 : Int32))] 2)
  refine Go.cast (ef4 m ) ?_
  refine g_iloadN A0 d5_0 rfl (pc' := 1) rfl ?_
  refine g_iloadN A0 d5_1 rfl (pc' := 2) rfl ?_
  refine g_icN A0 d5_2 (c2_gt_f (by decide)) (pc' := 5) rfl ?_
  refine g_iloadN A0 d5_5 rfl (pc' := 6) rfl ?_
  refine g_goto A0 d5_6 (pc' := 10) rfl ?_
  exact g_ret (Q := QM16_32 Z  h0 n0) A0 d5_10 Bd.notSynchronized Bd.returns rfl (Or.inl ⟨rfl, by simp, _, rfl⟩) (by decide) (by decide) (by rw [e0]; exact ⟨rfl, N0, rfl⟩)
theorem ef5 (m : MethodId)  : entryFrame m #[(.int (32 : Int32)), (.int (17 : Int32))] 2 = mkF m 0 #[.val (.int (32 : Int32)), .val (.int (17 : Int32))] [] := by first | (simp [entryFrame, mkF, argsToLocals, Value.category]; done) | rfl
def QM32_17 (Z : State)  (h0 : Heap) (n0 : Nat) (v : Option Value) (h : Heap) (L : List Loc) : Prop := v = some (.int (17 : Int32)) ∧ Fr n0 L ∧ h = h0
set_option maxRecDepth 65536 in
set_option maxHeartbeats 40000000 in
theorem rmM32_17 (l : Launch) (Z : State) (a0 : Array Value) (hw : ∀ d ∈ tables_1, d.before a0 Z = true) (ws : List Jvm.Cond)  (h0 : Heap) (n0 : Nat) (Z0 : n0 ≤ h0.size)  :
    MetFree l (⟨"java/lang/Math", "min", "(II)I"⟩ : MethodName) (head1 (Jvm.Cond.code (⟨"java/lang/Math", "min", "(II)I"⟩ : MethodName) jdk_29_method_69_code 2 (some .int) :: ws) ({ frames := 0, cells := 0, slots := 0, locals := 0 } : Room)) (fun a U => a = #[(.int (32 : Int32)), (.int (17 : Int32))] ∧ Z.Warmed39 U.vm ∧ U.heap = h0) (fun _ _ _ _ _ => True) (fun _ U o U' => ∃ v L, o = .returned v ∧ QM32_17 Z  h0 n0 v U'.heap L ∧ FrameEnd U o U' L 0 0) := by
  refine MetFree.of_bodySF (by decide +kernel) hisR ?_
  intro p e s m args below meth c s₁ Bd hml0 hP hK
  obtain ⟨rfl, hZ, hh⟩ := hP
  have hx := Bd.exec
  have hby := Bd.bytes
  have hml : c.maxLocals = 2 := hml0
  have hown : s.vm.findClass "java/lang/Math" = some m.cls := findClass_of_methodNamed Bd.named
  have hnm := (name_of_methodNamed Bd.named Bd.method).1
  have X0 : Stand p l e ({ frames := 0, cells := 0, slots := 0, locals := 0 } : Room) s m #[(.int (32 : Int32)), (.int (17 : Int32))] below meth c s₁ [] 0 0 := Stand.of_body Bd
  have e0 : s₁.heap = h0 := by rw [← hh, Bd.state]; rfl
  have N0 := Fr.nil n0
  have A0 := (⟨X0, hx, hby⟩ : Ax _ _ _ _ _ _ _ _ _ _ _ _ _ _ _)
  show Go p e below (fun U o => ∃ v L, o = .returned v ∧ QM32_17 Z  h0 n0 v U.heap L ∧ FrameEnd s o U L 0 0) s₁ (entryFrame m #[(.int (32 : Int32)), (.int (17 : Int32))] 2)
  refine Go.cast (ef5 m ) ?_
  refine g_iloadN A0 d5_0 rfl (pc' := 1) rfl ?_
  refine g_iloadN A0 d5_1 rfl (pc' := 2) rfl ?_
  refine g_icY A0 d5_2 (c2_gt_t (by decide)) (pc' := 9) rfl ?_
  refine g_iloadN A0 d5_9 rfl (pc' := 10) rfl ?_
  exact g_ret (Q := QM32_17 Z  h0 n0) A0 d5_10 Bd.notSynchronized Bd.returns rfl (Or.inl ⟨rfl, by simp, _, rfl⟩) (by decide) (by decide) (by rw [e0]; exact ⟨rfl, N0, rfl⟩)
theorem own_fI (x : Int32) : fits .int (.int x) = true := rfl
theorem d4_0 : decode jdk_65_method_123_code 0 = .ok (.iload_n 1, 1) := by decide +kernel
theorem d4_1 : decode jdk_65_method_123_code 1 = .ok (.aload_n 0, 1) := by decide +kernel
theorem d4_2 : decode jdk_65_method_123_code 2 = .ok (.arraylength, 1) := by decide +kernel
theorem d4_3 : decode jdk_65_method_123_code 3 = .ok (.if_icmp .ne 11, 3) := by decide +kernel
theorem d4_6 : decode jdk_65_method_123_code 6 = .ok (.aload_n 0, 1) := by decide +kernel
theorem d4_7 : decode jdk_65_method_123_code 7 = .ok (.invokevirtual 316, 3) := by decide +kernel
theorem d4_10 : decode jdk_65_method_123_code 10 = .ok (.checkcast 317, 3) := by decide +kernel
theorem d4_13 : decode jdk_65_method_123_code 13 = .ok (.areturn, 1) := by decide +kernel
theorem d4_14 : decode jdk_65_method_123_code 14 = .ok (.iload_n 1, 1) := by decide +kernel
theorem d4_15 : decode jdk_65_method_123_code 15 = .ok (.newarray .int, 2) := by decide +kernel
theorem d4_17 : decode jdk_65_method_123_code 17 = .ok (.astore_n 2, 1) := by decide +kernel
theorem d4_18 : decode jdk_65_method_123_code 18 = .ok (.aload_n 0, 1) := by decide +kernel
theorem d4_19 : decode jdk_65_method_123_code 19 = .ok (.iconst 0, 1) := by decide +kernel
theorem d4_20 : decode jdk_65_method_123_code 20 = .ok (.aload_n 2, 1) := by decide +kernel
theorem d4_21 : decode jdk_65_method_123_code 21 = .ok (.iconst 0, 1) := by decide +kernel
theorem d4_22 : decode jdk_65_method_123_code 22 = .ok (.aload_n 0, 1) := by decide +kernel
theorem d4_23 : decode jdk_65_method_123_code 23 = .ok (.arraylength, 1) := by decide +kernel
theorem d4_24 : decode jdk_65_method_123_code 24 = .ok (.iload_n 1, 1) := by decide +kernel
theorem d4_25 : decode jdk_65_method_123_code 25 = .ok (.invokestatic 304, 3) := by decide +kernel
theorem d4_28 : decode jdk_65_method_123_code 28 = .ok (.invokestatic 150, 3) := by decide +kernel
theorem d4_31 : decode jdk_65_method_123_code 31 = .ok (.aload_n 2, 1) := by decide +kernel
theorem d4_32 : decode jdk_65_method_123_code 32 = .ok (.areturn, 1) := by decide +kernel
theorem pn_1 : plainName "java/util/Arrays" = true := by first | (simp [plainName, overriddenIn]; done) | decide +kernel
theorem ef6 (m : MethodId) (va : Addr) (x : Nat → Int32) : entryFrame m #[(.ref va), (.int (32 : Int32))] 3 = mkF m 0 #[.val (.ref va), .val (.int (32 : Int32)), .unset] [] := by first | (simp [entryFrame, mkF, argsToLocals, Value.category]; done) | rfl
def QCI16_32 (Z : State) (va : Addr) (x : Nat → Int32) (h0 : Heap) (n0 : Nat) (v : Option Value) (h : Heap) (L : List Loc) : Prop := ∃ r : Addr, v = some (.ref r) ∧ Fr n0 L ∧ Keep h0 h [] ∧ h0.size ≤ r ∧ Exa Z h r "[I" ∧ Dar Z h r .int 32 (fun t => .int ((own_pi x 16) t))
theorem pd_0 : parseMethodDescriptor "(II)I" = some ⟨[.int, .int], some .int⟩ := by decide +kernel
set_option maxRecDepth 65536 in
set_option maxHeartbeats 40000000 in
theorem rmCI16_32 (l : Launch) (Z : State) (a0 : Array Value) (hw : ∀ d ∈ tables_1, d.before a0 Z = true) (ws : List Jvm.Cond) (va : Addr) (x : Nat → Int32) (h0 : Heap) (n0 : Nat) (Z0 : n0 ≤ h0.size) (V7 : Dar Z h0 va .int 16 (fun t => .int (x t))) :
    MetFree l (⟨"java/util/Arrays", "copyOf", "([II)[I"⟩ : MethodName) (head1 (Jvm.Cond.code (⟨"java/util/Arrays", "copyOf", "([II)[I"⟩ : MethodName) jdk_65_method_123_code 3 (some (.array .int)) :: ws) ({ frames := 1, cells := 1, slots := 32, locals := 18 } : Room)) (fun a U => a = #[(.ref va), (.int (32 : Int32))] ∧ Z.Warmed39 U.vm ∧ U.heap = h0) (fun _ _ _ _ _ => True) (fun _ U o U' => ∃ v L, o = .returned v ∧ QCI16_32 Z va x h0 n0 v U'.heap L ∧ FrameEnd U o U' L 1 32) := by
  refine MetFree.of_bodySF (plainFor_of_name pn_1) hisR ?_
  intro p e s m args below meth c s₁ Bd hml0 hP hK
  obtain ⟨rfl, hZ, hh⟩ := hP
  have hx := Bd.exec
  have hby := Bd.bytes
  have hml : c.maxLocals = 3 := hml0
  have hown : s.vm.findClass "java/util/Arrays" = some m.cls := findClass_of_methodNamed Bd.named
  have hnm := (name_of_methodNamed Bd.named Bd.method).1
  have X0 : Stand p l e ({ frames := 1, cells := 1, slots := 32, locals := 18 } : Room) s m #[(.ref va), (.int (32 : Int32))] below meth c s₁ [] 0 0 := Stand.of_body Bd
  have e0 : s₁.heap = h0 := by rw [← hh, Bd.state]; rfl
  have N0 := Fr.nil n0
  have A0 := (⟨X0, hx, hby⟩ : Ax _ _ _ _ _ _ _ _ _ _ _ _ _ _ _)
  show Go p e below (fun U o => ∃ v L, o = .returned v ∧ QCI16_32 Z va x h0 n0 v U.heap L ∧ FrameEnd s o U L 1 32) s₁ (entryFrame m #[(.ref va), (.int (32 : Int32))] 3)
  refine Go.cast (ef6 m va x) ?_
  refine g_iloadN A0 d4_0 rfl (pc' := 1) rfl ?_
  refine g_aloadN A0 d4_1 rfl rfl (pc' := 2) rfl ?_
  refine g_alen A0 hZ e0 V7 d4_2 (z := (16 : Int32)) rfl (pc' := 3) rfl ?_
  refine g_icY A0 d4_3 (c2_ne_t (by decide)) (pc' := 14) rfl ?_
  refine g_iloadN A0 d4_14 rfl (pc' := 15) rfl ?_
  obtain ⟨T8, h8, k8, X8, e8, E8, Ar8, Ex8, st8⟩ := newPE X0 hx hZ (hw _ (List.mem_of_getElem? (i := 10) rfl)) e0 (g := (mkF m 15 #[.val (.ref va), .val (.int (32 : Int32)), .unset] [(.int (32 : Int32))])) rfl (hb hby d4_15) rfl (by decide) (cap := 32) (by decide) (by decide) (by decide) (by decide) (ad := "[I") rfl
  obtain ⟨b9, eb9⟩ : ∃ z, z = h0.size := ⟨_, rfl⟩
  rw [← eb9] at Ar8 st8 Ex8
  have ne10 : va ≠ b9 := own_ne eb9 V7.lt
  have g11 : n0 ≤ b9 := by rw [eb9]; exact Z0
  have gh12 : h0.size ≤ b9 := by rw [eb9]; exact (Keep.refl h0 []).1
  have K13 : Keep h0 h8 [] := (Keep.refl h0 []).ext E8
  have V14 : Dar Z h8 va .int 16 (fun t => .int (x t)) := Dar.ext E8 V7
  have Z15 : n0 ≤ h8.size := Nat.le_trans Z0 E8.1
  have V16 : Dar Z h8 b9 .int 32 (fun _ => .int (0 : Int32)) := Dar.new Ar8 (by decide)
  refine Go.of (g' := (mkF m 17 #[.val (.ref va), .val (.int (32 : Int32)), .unset] [(.ref b9)])) st8 ?_
  have A17 := (⟨X8, hx, hby⟩ : Ax _ _ _ _ _ _ _ _ _ _ _ _ _ _ _)
  refine g_astoreN A17 d4_17 rfl (ls' := #[.val (.ref va), .val (.int (32 : Int32)), .val (.ref b9)]) rfl (pc' := 18) rfl ?_
  refine g_aloadN A17 d4_18 rfl rfl (pc' := 19) rfl ?_
  refine g_iconst A17 d4_19 (v := (0 : Int32)) rfl (pc' := 20) rfl ?_
  refine g_aloadN A17 d4_20 rfl rfl (pc' := 21) rfl ?_
  refine g_iconst A17 d4_21 (v := (0 : Int32)) rfl (pc' := 22) rfl ?_
  refine g_aloadN A17 d4_22 rfl rfl (pc' := 23) rfl ?_
  refine g_alen A17 hZ e8 V14 d4_23 (z := (16 : Int32)) rfl (pc' := 24) rfl ?_
  refine g_iloadN A17 d4_24 rfl (pc' := 25) rfl ?_
  obtain ⟨vv18, _, ⟨T18, L18, k18, n18⟩, -, X18, ⟨L18c, hQ18, l18, y18, z18⟩, st18⟩ := Jvm.LawKit.callS X8 hx (y := (⟨"java/lang/Math", "min", "(II)I"⟩ : MethodName)) hown (mvT hZ (hw _ (List.mem_of_getElem? (i := 43) rfl))) (mvT hZ (hw _ (List.mem_of_getElem? (i := 44) rfl))) (mvT hZ (hw _ (List.mem_of_getElem? (i := 45) rfl))) (mvT hZ (hw _ (List.mem_of_getElem? (i := 46) rfl))) (by decide) (backOf (W := 4) (rmM16_32 l Z a0 hw []  h8 n0 Z15 ) hZ (hw _ (List.mem_of_getElem? (i := 46) rfl)) (hw _ (List.mem_of_getElem? (i := 45) rfl)) (by decide) (by decide)) (g := (mkF m 25 #[.val (.ref va), .val (.int (32 : Int32)), .val (.ref b9)] [(.int (32 : Int32)), (.int (16 : Int32)), (.int (0 : Int32)), (.ref b9), (.int (0 : Int32)), (.ref va)])) rfl (by rw [hml]; rfl) (argsL := [(.int (16 : Int32)), (.int (32 : Int32))]) (rest := [(.int (0 : Int32)), (.ref b9), (.int (0 : Int32)), (.ref va)]) (lenOf pd_0 rfl) rfl (by show 2 * 0 + _ ≤ _; exact Nat.le_of_eq rfl) (hb hby d4_25) (fun _ _ => ⟨rfl, e8, (by decide : 1 + 0 ≤ _), (by decide : 32 + 0 ≤ _)⟩)
  have hQ18b : QM16_32 Z  h8 n0 vv18 T18.heap L18c := hQ18
  clear hQ18
  dsimp only [Pt.U, Pt.locs, Pt.cells, Pt.slots] at X18 l18 y18 z18 st18
  subst y18 z18
  obtain ⟨rfl, Nq19, Kq20⟩ := hQ18b
  have N21 : Fr n0 L18 := by rw [l18]; exact Fr.app N0 Nq19
  refine Go.of (g' := (mkF m 28 #[.val (.ref va), .val (.int (32 : Int32)), .val (.ref b9)] [(.int (16 : Int32)), (.int (0 : Int32)), (.ref b9), (.int (0 : Int32)), (.ref va)])) st18 ?_
  have e22 : T18.heap = h8 := Kq20
  have A23 := (⟨X18, hx, hby⟩ : Ax _ _ _ _ _ _ _ _ _ _ _ _ _ _ _)
  obtain ⟨T24, h24, L24, A24, e24, N24, K24, V24, st24⟩ := s_acopyI A23 hZ e22 hown (hw _ (List.mem_of_getElem? (i := 47) rfl)) (hw _ (List.mem_of_getElem? (i := 50) rfl)) (hw _ (List.mem_of_getElem? (i := 48) rfl)) (hw _ (List.mem_of_getElem? (i := 49) rfl)) (ls := #[.val (.ref va), .val (.int (32 : Int32)), .val (.ref b9)]) (st := []) (x := x) (y := (fun _ => (0 : Int32))) V14 V16 (sp := 0) (nn := 16) (by decide) (by decide) N21 g11 (j1 := (0 : Int32)) (j2 := (16 : Int32)) rfl rfl (by rw [hml]; rfl) d4_28 (pc' := 31) rfl (by decide) (W := 0) (Nat.le_of_eq rfl) (by decide)
  have V25 : Dar Z h24 va .int 16 (fun t => .int (x t)) := Dar.keep V14 K24 (ninS ne10 nin0)
  have E26 : Exa Z h24 b9 "[I" := Exa.keep Ex8 K24
  have Z27 : n0 ≤ h24.size := Nat.le_trans Z15 K24.1
  have K28 : Keep h0 h24 [] := K13.trans K24 (allS (Or.inr gh12) all0)
  refine st24 ?_
  refine g_aloadN A24 d4_31 rfl rfl (pc' := 32) rfl ?_
  have V29 : Dar Z h24 b9 .int 32 (fun t => .int ((own_pi x 16) t)) := Dar.congr V24 (fun t _ => by show Value.int (if t < 16 then x (0 + t) else 0) = .int (if t < 16 then x t else 0); rw [Nat.zero_add])
  exact g_ret (Q := QCI16_32 Z va x h0 n0) A24 d4_32 Bd.notSynchronized Bd.returns rfl (Or.inr (Or.inr (Or.inr (Or.inr ⟨rfl, rfl, rfl⟩)))) (by decide) (by decide) (by rw [e24]; exact ⟨b9, rfl, N24, K28, gh12, E26, V29⟩)
theorem ef30 (m : MethodId) (va : Addr) (x : Nat → Int32) : entryFrame m #[(.ref va), (.int (17 : Int32))] 3 = mkF m 0 #[.val (.ref va), .val (.int (17 : Int32)), .unset] [] := by first | (simp [entryFrame, mkF, argsToLocals, Value.category]; done) | rfl
def QCI32_17 (Z : State) (va : Addr) (x : Nat → Int32) (h0 : Heap) (n0 : Nat) (v : Option Value) (h : Heap) (L : List Loc) : Prop := ∃ r : Addr, v = some (.ref r) ∧ Fr n0 L ∧ Keep h0 h [] ∧ h0.size ≤ r ∧ Exa Z h r "[I" ∧ Dar Z h r .int 17 (fun t => .int ((own_pi x 17) t))
set_option maxRecDepth 65536 in
set_option maxHeartbeats 40000000 in
theorem rmCI32_17 (l : Launch) (Z : State) (a0 : Array Value) (hw : ∀ d ∈ tables_1, d.before a0 Z = true) (ws : List Jvm.Cond) (va : Addr) (x : Nat → Int32) (h0 : Heap) (n0 : Nat) (Z0 : n0 ≤ h0.size) (V31 : Dar Z h0 va .int 32 (fun t => .int (x t))) :
    MetFree l (⟨"java/util/Arrays", "copyOf", "([II)[I"⟩ : MethodName) (head1 (Jvm.Cond.code (⟨"java/util/Arrays", "copyOf", "([II)[I"⟩ : MethodName) jdk_65_method_123_code 3 (some (.array .int)) :: ws) ({ frames := 1, cells := 1, slots := 17, locals := 18 } : Room)) (fun a U => a = #[(.ref va), (.int (17 : Int32))] ∧ Z.Warmed39 U.vm ∧ U.heap = h0) (fun _ _ _ _ _ => True) (fun _ U o U' => ∃ v L, o = .returned v ∧ QCI32_17 Z va x h0 n0 v U'.heap L ∧ FrameEnd U o U' L 1 17) := by
  refine MetFree.of_bodySF (plainFor_of_name pn_1) hisR ?_
  intro p e s m args below meth c s₁ Bd hml0 hP hK
  obtain ⟨rfl, hZ, hh⟩ := hP
  have hx := Bd.exec
  have hby := Bd.bytes
  have hml : c.maxLocals = 3 := hml0
  have hown : s.vm.findClass "java/util/Arrays" = some m.cls := findClass_of_methodNamed Bd.named
  have hnm := (name_of_methodNamed Bd.named Bd.method).1
  have X0 : Stand p l e ({ frames := 1, cells := 1, slots := 17, locals := 18 } : Room) s m #[(.ref va), (.int (17 : Int32))] below meth c s₁ [] 0 0 := Stand.of_body Bd
  have e0 : s₁.heap = h0 := by rw [← hh, Bd.state]; rfl
  have N0 := Fr.nil n0
  have A0 := (⟨X0, hx, hby⟩ : Ax _ _ _ _ _ _ _ _ _ _ _ _ _ _ _)
  show Go p e below (fun U o => ∃ v L, o = .returned v ∧ QCI32_17 Z va x h0 n0 v U.heap L ∧ FrameEnd s o U L 1 17) s₁ (entryFrame m #[(.ref va), (.int (17 : Int32))] 3)
  refine Go.cast (ef30 m va x) ?_
  refine g_iloadN A0 d4_0 rfl (pc' := 1) rfl ?_
  refine g_aloadN A0 d4_1 rfl rfl (pc' := 2) rfl ?_
  refine g_alen A0 hZ e0 V31 d4_2 (z := (32 : Int32)) rfl (pc' := 3) rfl ?_
  refine g_icY A0 d4_3 (c2_ne_t (by decide)) (pc' := 14) rfl ?_
  refine g_iloadN A0 d4_14 rfl (pc' := 15) rfl ?_
  obtain ⟨T32, h32, k32, X32, e32, E32, Ar32, Ex32, st32⟩ := newPE X0 hx hZ (hw _ (List.mem_of_getElem? (i := 10) rfl)) e0 (g := (mkF m 15 #[.val (.ref va), .val (.int (17 : Int32)), .unset] [(.int (17 : Int32))])) rfl (hb hby d4_15) rfl (by decide) (cap := 17) (by decide) (by decide) (by decide) (by decide) (ad := "[I") rfl
  obtain ⟨b33, eb33⟩ : ∃ z, z = h0.size := ⟨_, rfl⟩
  rw [← eb33] at Ar32 st32 Ex32
  have ne34 : va ≠ b33 := own_ne eb33 V31.lt
  have g35 : n0 ≤ b33 := by rw [eb33]; exact Z0
  have gh36 : h0.size ≤ b33 := by rw [eb33]; exact (Keep.refl h0 []).1
  have K37 : Keep h0 h32 [] := (Keep.refl h0 []).ext E32
  have V38 : Dar Z h32 va .int 32 (fun t => .int (x t)) := Dar.ext E32 V31
  have Z39 : n0 ≤ h32.size := Nat.le_trans Z0 E32.1
  have V40 : Dar Z h32 b33 .int 17 (fun _ => .int (0 : Int32)) := Dar.new Ar32 (by decide)
  refine Go.of (g' := (mkF m 17 #[.val (.ref va), .val (.int (17 : Int32)), .unset] [(.ref b33)])) st32 ?_
  have A41 := (⟨X32, hx, hby⟩ : Ax _ _ _ _ _ _ _ _ _ _ _ _ _ _ _)
  refine g_astoreN A41 d4_17 rfl (ls' := #[.val (.ref va), .val (.int (17 : Int32)), .val (.ref b33)]) rfl (pc' := 18) rfl ?_
  refine g_aloadN A41 d4_18 rfl rfl (pc' := 19) rfl ?_
  refine g_iconst A41 d4_19 (v := (0 : Int32)) rfl (pc' := 20) rfl ?_
  refine g_aloadN A41 d4_20 rfl rfl (pc' := 21) rfl ?_
  refine g_iconst A41 d4_21 (v := (0 : Int32)) rfl (pc' := 22) rfl ?_
  refine g_aloadN A41 d4_22 rfl rfl (pc' := 23) rfl ?_
  refine g_alen A41 hZ e32 V38 d4_23 (z := (32 : Int32)) rfl (pc' := 24) rfl ?_
  refine g_iloadN A41 d4_24 rfl (pc' := 25) rfl ?_
  obtain ⟨vv42, _, ⟨T42, L42, k42, n42⟩, -, X42, ⟨L42c, hQ42, l42, y42, z42⟩, st42⟩ := Jvm.LawKit.callS X32 hx (y := (⟨"java/lang/Math", "min", "(II)I"⟩ : MethodName)) hown (mvT hZ (hw _ (List.mem_of_getElem? (i := 43) rfl))) (mvT hZ (hw _ (List.mem_of_getElem? (i := 44) rfl))) (mvT hZ (hw _ (List.mem_of_getElem? (i := 45) rfl))) (mvT hZ (hw _ (List.mem_of_getElem? (i := 46) rfl))) (by decide) (backOf (W := 4) (rmM32_17 l Z a0 hw []  h32 n0 Z39 ) hZ (hw _ (List.mem_of_getElem? (i := 46) rfl)) (hw _ (List.mem_of_getElem? (i := 45) rfl)) (by decide) (by decide)) (g := (mkF m 25 #[.val (.ref va), .val (.int (17 : Int32)), .val (.ref b33)] [(.int (17 : Int32)), (.int (32 : Int32)), (.int (0 : Int32)), (.ref b33), (.int (0 : Int32)), (.ref va)])) rfl (by rw [hml]; rfl) (argsL := [(.int (32 : Int32)), (.int (17 : Int32))]) (rest := [(.int (0 : Int32)), (.ref b33), (.int (0 : Int32)), (.ref va)]) (lenOf pd_0 rfl) rfl (by show 2 * 0 + _ ≤ _; exact Nat.le_of_eq rfl) (hb hby d4_25) (fun _ _ => ⟨rfl, e32, (by decide : 1 + 0 ≤ _), (by decide : 17 + 0 ≤ _)⟩)
  have hQ42b : QM32_17 Z  h32 n0 vv42 T42.heap L42c := hQ42
  clear hQ42
  dsimp only [Pt.U, Pt.locs, Pt.cells, Pt.slots] at X42 l42 y42 z42 st42
  subst y42 z42
  obtain ⟨rfl, Nq43, Kq44⟩ := hQ42b
  have N45 : Fr n0 L42 := by rw [l42]; exact Fr.app N0 Nq43
  refine Go.of (g' := (mkF m 28 #[.val (.ref va), .val (.int (17 : Int32)), .val (.ref b33)] [(.int (17 : Int32)), (.int (0 : Int32)), (.ref b33), (.int (0 : Int32)), (.ref va)])) st42 ?_
  have e46 : T42.heap = h32 := Kq44
  have A47 := (⟨X42, hx, hby⟩ : Ax _ _ _ _ _ _ _ _ _ _ _ _ _ _ _)
  obtain ⟨T48, h48, L48, A48, e48, N48, K48, V48, st48⟩ := s_acopyI A47 hZ e46 hown (hw _ (List.mem_of_getElem? (i := 47) rfl)) (hw _ (List.mem_of_getElem? (i := 50) rfl)) (hw _ (List.mem_of_getElem? (i := 48) rfl)) (hw _ (List.mem_of_getElem? (i := 49) rfl)) (ls := #[.val (.ref va), .val (.int (17 : Int32)), .val (.ref b33)]) (st := []) (x := x) (y := (fun _ => (0 : Int32))) V38 V40 (sp := 0) (nn := 17) (by decide) (by decide) N45 g35 (j1 := (0 : Int32)) (j2 := (17 : Int32)) rfl rfl (by rw [hml]; rfl) d4_28 (pc' := 31) rfl (by decide) (W := 0) (Nat.le_of_eq rfl) (by decide)
  have V49 : Dar Z h48 va .int 32 (fun t => .int (x t)) := Dar.keep V38 K48 (ninS ne34 nin0)
  have E50 : Exa Z h48 b33 "[I" := Exa.keep Ex32 K48
  have Z51 : n0 ≤ h48.size := Nat.le_trans Z39 K48.1
  have K52 : Keep h0 h48 [] := K37.trans K48 (allS (Or.inr gh36) all0)
  refine st48 ?_
  refine g_aloadN A48 d4_31 rfl rfl (pc' := 32) rfl ?_
  have V53 : Dar Z h48 b33 .int 17 (fun t => .int ((own_pi x 17) t)) := Dar.congr V48 (fun t _ => by show Value.int (if t < 17 then x (0 + t) else 0) = .int (if t < 17 then x t else 0); rw [Nat.zero_add])
  exact g_ret (Q := QCI32_17 Z va x h0 n0) A48 d4_32 Bd.notSynchronized Bd.returns rfl (Or.inr (Or.inr (Or.inr (Or.inr ⟨rfl, rfl, rfl⟩)))) (by decide) (by decide) (by rw [e48]; exact ⟨b33, rfl, N48, K52, gh36, E50, V53⟩)
theorem ef54 (m : MethodId) (va : Addr) (x : Nat → Int32) : entryFrame m #[(.ref va), (.int (16 : Int32))] 3 = mkF m 0 #[.val (.ref va), .val (.int (16 : Int32)), .unset] [] := by first | (simp [entryFrame, mkF, argsToLocals, Value.category]; done) | rfl
def QCI16_16 (Z : State) (va : Addr) (x : Nat → Int32) (h0 : Heap) (n0 : Nat) (v : Option Value) (h : Heap) (L : List Loc) : Prop := ∃ r : Addr, v = some (.ref r) ∧ Fr n0 L ∧ Keep h0 h [] ∧ h0.size ≤ r ∧ Exa Z h r "[I" ∧ Dar Z h r .int 16 (fun t => .int (x t))
set_option maxRecDepth 65536 in
set_option maxHeartbeats 40000000 in
theorem rmCI16_16 (l : Launch) (Z : State) (a0 : Array Value) (hw : ∀ d ∈ tables_1, d.before a0 Z = true) (ws : List Jvm.Cond) (va : Addr) (x : Nat → Int32) (h0 : Heap) (n0 : Nat) (Z0 : n0 ≤ h0.size) (V55 : Dar Z h0 va .int 16 (fun t => .int (x t))) (E56 : Exa Z h0 va "[I") :
    MetFree l (⟨"java/util/Arrays", "copyOf", "([II)[I"⟩ : MethodName) (head1 (Jvm.Cond.code (⟨"java/util/Arrays", "copyOf", "([II)[I"⟩ : MethodName) jdk_65_method_123_code 3 (some (.array .int)) :: ws) ({ frames := 1, cells := 1, slots := 16, locals := 14 } : Room)) (fun a U => a = #[(.ref va), (.int (16 : Int32))] ∧ Z.Warmed39 U.vm ∧ U.heap = h0) (fun _ _ _ _ _ => True) (fun _ U o U' => ∃ v L, o = .returned v ∧ QCI16_16 Z va x h0 n0 v U'.heap L ∧ FrameEnd U o U' L 1 16) := by
  refine MetFree.of_bodySF (plainFor_of_name pn_1) hisR ?_
  intro p e s m args below meth c s₁ Bd hml0 hP hK
  obtain ⟨rfl, hZ, hh⟩ := hP
  have hx := Bd.exec
  have hby := Bd.bytes
  have hml : c.maxLocals = 3 := hml0
  have hown : s.vm.findClass "java/util/Arrays" = some m.cls := findClass_of_methodNamed Bd.named
  have hnm := (name_of_methodNamed Bd.named Bd.method).1
  have X0 : Stand p l e ({ frames := 1, cells := 1, slots := 16, locals := 14 } : Room) s m #[(.ref va), (.int (16 : Int32))] below meth c s₁ [] 0 0 := Stand.of_body Bd
  have e0 : s₁.heap = h0 := by rw [← hh, Bd.state]; rfl
  have N0 := Fr.nil n0
  have A0 := (⟨X0, hx, hby⟩ : Ax _ _ _ _ _ _ _ _ _ _ _ _ _ _ _)
  show Go p e below (fun U o => ∃ v L, o = .returned v ∧ QCI16_16 Z va x h0 n0 v U.heap L ∧ FrameEnd s o U L 1 16) s₁ (entryFrame m #[(.ref va), (.int (16 : Int32))] 3)
  refine Go.cast (ef54 m va x) ?_
  refine g_iloadN A0 d4_0 rfl (pc' := 1) rfl ?_
  refine g_aloadN A0 d4_1 rfl rfl (pc' := 2) rfl ?_
  refine g_alen A0 hZ e0 V55 d4_2 (z := (16 : Int32)) rfl (pc' := 3) rfl ?_
  refine g_icN A0 d4_3 (c2_ne_f rfl) (pc' := 6) rfl ?_
  refine g_aloadN A0 d4_6 rfl rfl (pc' := 7) rfl ?_
  obtain ⟨T57, h57, A57, e57, E57, V57, Ex57, st57⟩ := s_clone A0 hZ e0 hown (ad := "[I") (hw _ (List.mem_of_getElem? (i := 109) rfl)) (hw _ (List.mem_of_getElem? (i := 110) rfl)) (hw _ (List.mem_of_getElem? (i := 114) rfl)) (hw _ (List.mem_of_getElem? (i := 112) rfl)) (hw _ (List.mem_of_getElem? (i := 113) rfl)) (hw _ (List.mem_of_getElem? (i := 115) rfl)) (ls := #[.val (.ref va), .val (.int (16 : Int32)), .unset]) (st := []) V55 (fun _ _ => own_fI _) E56 (by rw [hml]; rfl) d4_7 (pc' := 10) rfl (by decide) (W := 0) (Nat.le_of_eq rfl) (by decide) (cap := 16) (by decide) (by decide) (by decide)
  obtain ⟨b58, eb58⟩ : ∃ z, z = h0.size := ⟨_, rfl⟩
  rw [← eb58] at V57 Ex57 st57
  have ne59 : va ≠ b58 := own_ne eb58 V55.lt
  have g60 : n0 ≤ b58 := by rw [eb58]; exact Z0
  have gh61 : h0.size ≤ b58 := by rw [eb58]; exact (Keep.refl h0 []).1
  have K62 : Keep h0 h57 [] := (Keep.refl h0 []).ext E57
  have V63 : Dar Z h57 va .int 16 (fun t => .int (x t)) := Dar.ext E57 V55
  have E64 : Exa Z h57 va "[I" := Exa.ext E57 E56
  have Z65 : n0 ≤ h57.size := Nat.le_trans Z0 E57.1
  refine st57 ?_
  obtain ⟨T66, X66, e66, st66⟩ := castY A57.1 hx hZ hown (hw _ (List.mem_of_getElem? (i := 116) rfl)) e57 (Ins.self Ex57) (g := (mkF m 10 #[.val (.ref va), .val (.int (16 : Int32)), .unset] [(.ref b58)])) rfl rfl (hb hby d4_10)
  refine Go.of (g' := (mkF m 13 #[.val (.ref va), .val (.int (16 : Int32)), .unset] [(.ref b58)])) st66 ?_
  have A67 := (⟨X66, hx, hby⟩ : Ax _ _ _ _ _ _ _ _ _ _ _ _ _ _ _)
  exact g_ret (Q := QCI16_16 Z va x h0 n0) A67 d4_13 Bd.notSynchronized Bd.returns rfl (Or.inr (Or.inr (Or.inr (Or.inr ⟨rfl, rfl, rfl⟩)))) (by decide) (by decide) (by rw [e66]; exact ⟨b58, rfl, N0, K62, gh61, Ex57, V57⟩)
theorem d6_0 : decode jdk_65_method_127_code 0 = .ok (.iload_n 1, 1) := by decide +kernel
theorem d6_1 : decode jdk_65_method_127_code 1 = .ok (.aload_n 0, 1) := by decide +kernel
theorem d6_2 : decode jdk_65_method_127_code 2 = .ok (.arraylength, 1) := by decide +kernel
theorem d6_3 : decode jdk_65_method_127_code 3 = .ok (.if_icmp .ne 11, 3) := by decide +kernel
theorem d6_6 : decode jdk_65_method_127_code 6 = .ok (.aload_n 0, 1) := by decide +kernel
theorem d6_7 : decode jdk_65_method_127_code 7 = .ok (.invokevirtual 328, 3) := by decide +kernel
theorem d6_10 : decode jdk_65_method_127_code 10 = .ok (.checkcast 329, 3) := by decide +kernel
theorem d6_13 : decode jdk_65_method_127_code 13 = .ok (.areturn, 1) := by decide +kernel
theorem d6_14 : decode jdk_65_method_127_code 14 = .ok (.iload_n 1, 1) := by decide +kernel
theorem d6_15 : decode jdk_65_method_127_code 15 = .ok (.newarray .double, 2) := by decide +kernel
theorem d6_17 : decode jdk_65_method_127_code 17 = .ok (.astore_n 2, 1) := by decide +kernel
theorem d6_18 : decode jdk_65_method_127_code 18 = .ok (.aload_n 0, 1) := by decide +kernel
theorem d6_19 : decode jdk_65_method_127_code 19 = .ok (.iconst 0, 1) := by decide +kernel
theorem d6_20 : decode jdk_65_method_127_code 20 = .ok (.aload_n 2, 1) := by decide +kernel
theorem d6_21 : decode jdk_65_method_127_code 21 = .ok (.iconst 0, 1) := by decide +kernel
theorem d6_22 : decode jdk_65_method_127_code 22 = .ok (.aload_n 0, 1) := by decide +kernel
theorem d6_23 : decode jdk_65_method_127_code 23 = .ok (.arraylength, 1) := by decide +kernel
theorem d6_24 : decode jdk_65_method_127_code 24 = .ok (.iload_n 1, 1) := by decide +kernel
theorem d6_25 : decode jdk_65_method_127_code 25 = .ok (.invokestatic 304, 3) := by decide +kernel
theorem d6_28 : decode jdk_65_method_127_code 28 = .ok (.invokestatic 150, 3) := by decide +kernel
theorem d6_31 : decode jdk_65_method_127_code 31 = .ok (.aload_n 2, 1) := by decide +kernel
theorem d6_32 : decode jdk_65_method_127_code 32 = .ok (.areturn, 1) := by decide +kernel
theorem ef68 (m : MethodId) (va : Addr) (x : Nat → UInt64) : entryFrame m #[(.ref va), (.int (32 : Int32))] 3 = mkF m 0 #[.val (.ref va), .val (.int (32 : Int32)), .unset] [] := by first | (simp [entryFrame, mkF, argsToLocals, Value.category]; done) | rfl
def QCD16_32 (Z : State) (va : Addr) (x : Nat → UInt64) (h0 : Heap) (n0 : Nat) (v : Option Value) (h : Heap) (L : List Loc) : Prop := ∃ r : Addr, v = some (.ref r) ∧ Fr n0 L ∧ Keep h0 h [] ∧ h0.size ≤ r ∧ Exa Z h r "[D" ∧ Dar Z h r .double 32 (fun t => .double ((own_pd x 16) t))
set_option maxRecDepth 65536 in
set_option maxHeartbeats 40000000 in
theorem rmCD16_32 (l : Launch) (Z : State) (a0 : Array Value) (hw : ∀ d ∈ tables_1, d.before a0 Z = true) (ws : List Jvm.Cond) (va : Addr) (x : Nat → UInt64) (h0 : Heap) (n0 : Nat) (Z0 : n0 ≤ h0.size) (V69 : Dar Z h0 va .double 16 (fun t => .double (x t))) :
    MetFree l (⟨"java/util/Arrays", "copyOf", "([DI)[D"⟩ : MethodName) (head1 (Jvm.Cond.code (⟨"java/util/Arrays", "copyOf", "([DI)[D"⟩ : MethodName) jdk_65_method_127_code 3 (some (.array .double)) :: ws) ({ frames := 1, cells := 1, slots := 32, locals := 18 } : Room)) (fun a U => a = #[(.ref va), (.int (32 : Int32))] ∧ Z.Warmed39 U.vm ∧ U.heap = h0) (fun _ _ _ _ _ => True) (fun _ U o U' => ∃ v L, o = .returned v ∧ QCD16_32 Z va x h0 n0 v U'.heap L ∧ FrameEnd U o U' L 1 32) := by
  refine MetFree.of_bodySF (plainFor_of_name pn_1) hisR ?_
  intro p e s m args below meth c s₁ Bd hml0 hP hK
  obtain ⟨rfl, hZ, hh⟩ := hP
  have hx := Bd.exec
  have hby := Bd.bytes
  have hml : c.maxLocals = 3 := hml0
  have hown : s.vm.findClass "java/util/Arrays" = some m.cls := findClass_of_methodNamed Bd.named
  have hnm := (name_of_methodNamed Bd.named Bd.method).1
  have X0 : Stand p l e ({ frames := 1, cells := 1, slots := 32, locals := 18 } : Room) s m #[(.ref va), (.int (32 : Int32))] below meth c s₁ [] 0 0 := Stand.of_body Bd
  have e0 : s₁.heap = h0 := by rw [← hh, Bd.state]; rfl
  have N0 := Fr.nil n0
  have A0 := (⟨X0, hx, hby⟩ : Ax _ _ _ _ _ _ _ _ _ _ _ _ _ _ _)
  show Go p e below (fun U o => ∃ v L, o = .returned v ∧ QCD16_32 Z va x h0 n0 v U.heap L ∧ FrameEnd s o U L 1 32) s₁ (entryFrame m #[(.ref va), (.int (32 : Int32))] 3)
  refine Go.cast (ef68 m va x) ?_
  refine g_iloadN A0 d6_0 rfl (pc' := 1) rfl ?_
  refine g_aloadN A0 d6_1 rfl rfl (pc' := 2) rfl ?_
  refine g_alen A0 hZ e0 V69 d6_2 (z := (16 : Int32)) rfl (pc' := 3) rfl ?_
  refine g_icY A0 d6_3 (c2_ne_t (by decide)) (pc' := 14) rfl ?_
  refine g_iloadN A0 d6_14 rfl (pc' := 15) rfl ?_
  obtain ⟨T70, h70, k70, X70, e70, E70, Ar70, Ex70, st70⟩ := newPE X0 hx hZ (hw _ (List.mem_of_getElem? (i := 15) rfl)) e0 (g := (mkF m 15 #[.val (.ref va), .val (.int (32 : Int32)), .unset] [(.int (32 : Int32))])) rfl (hb hby d6_15) rfl (by decide) (cap := 32) (by decide) (by decide) (by decide) (by decide) (ad := "[D") rfl
  obtain ⟨b71, eb71⟩ : ∃ z, z = h0.size := ⟨_, rfl⟩
  rw [← eb71] at Ar70 st70 Ex70
  have ne72 : va ≠ b71 := own_ne eb71 V69.lt
  have g73 : n0 ≤ b71 := by rw [eb71]; exact Z0
  have gh74 : h0.size ≤ b71 := by rw [eb71]; exact (Keep.refl h0 []).1
  have K75 : Keep h0 h70 [] := (Keep.refl h0 []).ext E70
  have V76 : Dar Z h70 va .double 16 (fun t => .double (x t)) := Dar.ext E70 V69
  have Z77 : n0 ≤ h70.size := Nat.le_trans Z0 E70.1
  have V78 : Dar Z h70 b71 .double 32 (fun _ => .double (0 : UInt64)) := Dar.new Ar70 (by decide)
  refine Go.of (g' := (mkF m 17 #[.val (.ref va), .val (.int (32 : Int32)), .unset] [(.ref b71)])) st70 ?_
  have A79 := (⟨X70, hx, hby⟩ : Ax _ _ _ _ _ _ _ _ _ _ _ _ _ _ _)
  refine g_astoreN A79 d6_17 rfl (ls' := #[.val (.ref va), .val (.int (32 : Int32)), .val (.ref b71)]) rfl (pc' := 18) rfl ?_
  refine g_aloadN A79 d6_18 rfl rfl (pc' := 19) rfl ?_
  refine g_iconst A79 d6_19 (v := (0 : Int32)) rfl (pc' := 20) rfl ?_
  refine g_aloadN A79 d6_20 rfl rfl (pc' := 21) rfl ?_
  refine g_iconst A79 d6_21 (v := (0 : Int32)) rfl (pc' := 22) rfl ?_
  refine g_aloadN A79 d6_22 rfl rfl (pc' := 23) rfl ?_
  refine g_alen A79 hZ e70 V76 d6_23 (z := (16 : Int32)) rfl (pc' := 24) rfl ?_
  refine g_iloadN A79 d6_24 rfl (pc' := 25) rfl ?_
  obtain ⟨vv80, _, ⟨T80, L80, k80, n80⟩, -, X80, ⟨L80c, hQ80, l80, y80, z80⟩, st80⟩ := Jvm.LawKit.callS X70 hx (y := (⟨"java/lang/Math", "min", "(II)I"⟩ : MethodName)) hown (mvT hZ (hw _ (List.mem_of_getElem? (i := 43) rfl))) (mvT hZ (hw _ (List.mem_of_getElem? (i := 44) rfl))) (mvT hZ (hw _ (List.mem_of_getElem? (i := 45) rfl))) (mvT hZ (hw _ (List.mem_of_getElem? (i := 46) rfl))) (by decide) (backOf (W := 4) (rmM16_32 l Z a0 hw []  h70 n0 Z77 ) hZ (hw _ (List.mem_of_getElem? (i := 46) rfl)) (hw _ (List.mem_of_getElem? (i := 45) rfl)) (by decide) (by decide)) (g := (mkF m 25 #[.val (.ref va), .val (.int (32 : Int32)), .val (.ref b71)] [(.int (32 : Int32)), (.int (16 : Int32)), (.int (0 : Int32)), (.ref b71), (.int (0 : Int32)), (.ref va)])) rfl (by rw [hml]; rfl) (argsL := [(.int (16 : Int32)), (.int (32 : Int32))]) (rest := [(.int (0 : Int32)), (.ref b71), (.int (0 : Int32)), (.ref va)]) (lenOf pd_0 rfl) rfl (by show 2 * 0 + _ ≤ _; exact Nat.le_of_eq rfl) (hb hby d6_25) (fun _ _ => ⟨rfl, e70, (by decide : 1 + 0 ≤ _), (by decide : 32 + 0 ≤ _)⟩)
  have hQ80b : QM16_32 Z  h70 n0 vv80 T80.heap L80c := hQ80
  clear hQ80
  dsimp only [Pt.U, Pt.locs, Pt.cells, Pt.slots] at X80 l80 y80 z80 st80
  subst y80 z80
  obtain ⟨rfl, Nq81, Kq82⟩ := hQ80b
  have N83 : Fr n0 L80 := by rw [l80]; exact Fr.app N0 Nq81
  refine Go.of (g' := (mkF m 28 #[.val (.ref va), .val (.int (32 : Int32)), .val (.ref b71)] [(.int (16 : Int32)), (.int (0 : Int32)), (.ref b71), (.int (0 : Int32)), (.ref va)])) st80 ?_
  have e84 : T80.heap = h70 := Kq82
  have A85 := (⟨X80, hx, hby⟩ : Ax _ _ _ _ _ _ _ _ _ _ _ _ _ _ _)
  obtain ⟨T86, h86, L86, A86, e86, N86, K86, V86, st86⟩ := s_acopy A85 hZ e84 hown (hw _ (List.mem_of_getElem? (i := 47) rfl)) (hw _ (List.mem_of_getElem? (i := 50) rfl)) (hw _ (List.mem_of_getElem? (i := 48) rfl)) (hw _ (List.mem_of_getElem? (i := 49) rfl)) (ls := #[.val (.ref va), .val (.int (32 : Int32)), .val (.ref b71)]) (st := []) (x := x) (y := (fun _ => (0 : UInt64))) V76 V78 (sp := 0) (nn := 16) (by decide) (by decide) N83 g73 (j1 := (0 : Int32)) (j2 := (16 : Int32)) rfl rfl (by rw [hml]; rfl) d6_28 (pc' := 31) rfl (by decide) (W := 0) (Nat.le_of_eq rfl) (by decide)
  have V87 : Dar Z h86 va .double 16 (fun t => .double (x t)) := Dar.keep V76 K86 (ninS ne72 nin0)
  have E88 : Exa Z h86 b71 "[D" := Exa.keep Ex70 K86
  have Z89 : n0 ≤ h86.size := Nat.le_trans Z77 K86.1
  have K90 : Keep h0 h86 [] := K75.trans K86 (allS (Or.inr gh74) all0)
  refine st86 ?_
  refine g_aloadN A86 d6_31 rfl rfl (pc' := 32) rfl ?_
  have V91 : Dar Z h86 b71 .double 32 (fun t => .double ((own_pd x 16) t)) := Dar.congr V86 (fun t _ => by show Value.double (if t < 16 then x (0 + t) else 0) = .double (if t < 16 then x t else 0); rw [Nat.zero_add])
  exact g_ret (Q := QCD16_32 Z va x h0 n0) A86 d6_32 Bd.notSynchronized Bd.returns rfl (Or.inr (Or.inr (Or.inr (Or.inr ⟨rfl, rfl, rfl⟩)))) (by decide) (by decide) (by rw [e86]; exact ⟨b71, rfl, N86, K90, gh74, E88, V91⟩)
theorem ef92 (m : MethodId) (va : Addr) (x : Nat → UInt64) : entryFrame m #[(.ref va), (.int (17 : Int32))] 3 = mkF m 0 #[.val (.ref va), .val (.int (17 : Int32)), .unset] [] := by first | (simp [entryFrame, mkF, argsToLocals, Value.category]; done) | rfl
def QCD32_17 (Z : State) (va : Addr) (x : Nat → UInt64) (h0 : Heap) (n0 : Nat) (v : Option Value) (h : Heap) (L : List Loc) : Prop := ∃ r : Addr, v = some (.ref r) ∧ Fr n0 L ∧ Keep h0 h [] ∧ h0.size ≤ r ∧ Exa Z h r "[D" ∧ Dar Z h r .double 17 (fun t => .double ((own_pd x 17) t))
set_option maxRecDepth 65536 in
set_option maxHeartbeats 40000000 in
theorem rmCD32_17 (l : Launch) (Z : State) (a0 : Array Value) (hw : ∀ d ∈ tables_1, d.before a0 Z = true) (ws : List Jvm.Cond) (va : Addr) (x : Nat → UInt64) (h0 : Heap) (n0 : Nat) (Z0 : n0 ≤ h0.size) (V93 : Dar Z h0 va .double 32 (fun t => .double (x t))) :
    MetFree l (⟨"java/util/Arrays", "copyOf", "([DI)[D"⟩ : MethodName) (head1 (Jvm.Cond.code (⟨"java/util/Arrays", "copyOf", "([DI)[D"⟩ : MethodName) jdk_65_method_127_code 3 (some (.array .double)) :: ws) ({ frames := 1, cells := 1, slots := 17, locals := 18 } : Room)) (fun a U => a = #[(.ref va), (.int (17 : Int32))] ∧ Z.Warmed39 U.vm ∧ U.heap = h0) (fun _ _ _ _ _ => True) (fun _ U o U' => ∃ v L, o = .returned v ∧ QCD32_17 Z va x h0 n0 v U'.heap L ∧ FrameEnd U o U' L 1 17) := by
  refine MetFree.of_bodySF (plainFor_of_name pn_1) hisR ?_
  intro p e s m args below meth c s₁ Bd hml0 hP hK
  obtain ⟨rfl, hZ, hh⟩ := hP
  have hx := Bd.exec
  have hby := Bd.bytes
  have hml : c.maxLocals = 3 := hml0
  have hown : s.vm.findClass "java/util/Arrays" = some m.cls := findClass_of_methodNamed Bd.named
  have hnm := (name_of_methodNamed Bd.named Bd.method).1
  have X0 : Stand p l e ({ frames := 1, cells := 1, slots := 17, locals := 18 } : Room) s m #[(.ref va), (.int (17 : Int32))] below meth c s₁ [] 0 0 := Stand.of_body Bd
  have e0 : s₁.heap = h0 := by rw [← hh, Bd.state]; rfl
  have N0 := Fr.nil n0
  have A0 := (⟨X0, hx, hby⟩ : Ax _ _ _ _ _ _ _ _ _ _ _ _ _ _ _)
  show Go p e below (fun U o => ∃ v L, o = .returned v ∧ QCD32_17 Z va x h0 n0 v U.heap L ∧ FrameEnd s o U L 1 17) s₁ (entryFrame m #[(.ref va), (.int (17 : Int32))] 3)
  refine Go.cast (ef92 m va x) ?_
  refine g_iloadN A0 d6_0 rfl (pc' := 1) rfl ?_
  refine g_aloadN A0 d6_1 rfl rfl (pc' := 2) rfl ?_
  refine g_alen A0 hZ e0 V93 d6_2 (z := (32 : Int32)) rfl (pc' := 3) rfl ?_
  refine g_icY A0 d6_3 (c2_ne_t (by decide)) (pc' := 14) rfl ?_
  refine g_iloadN A0 d6_14 rfl (pc' := 15) rfl ?_
  obtain ⟨T94, h94, k94, X94, e94, E94, Ar94, Ex94, st94⟩ := newPE X0 hx hZ (hw _ (List.mem_of_getElem? (i := 15) rfl)) e0 (g := (mkF m 15 #[.val (.ref va), .val (.int (17 : Int32)), .unset] [(.int (17 : Int32))])) rfl (hb hby d6_15) rfl (by decide) (cap := 17) (by decide) (by decide) (by decide) (by decide) (ad := "[D") rfl
  obtain ⟨b95, eb95⟩ : ∃ z, z = h0.size := ⟨_, rfl⟩
  rw [← eb95] at Ar94 st94 Ex94
  have ne96 : va ≠ b95 := own_ne eb95 V93.lt
  have g97 : n0 ≤ b95 := by rw [eb95]; exact Z0
  have gh98 : h0.size ≤ b95 := by rw [eb95]; exact (Keep.refl h0 []).1
  have K99 : Keep h0 h94 [] := (Keep.refl h0 []).ext E94
  have V100 : Dar Z h94 va .double 32 (fun t => .double (x t)) := Dar.ext E94 V93
  have Z101 : n0 ≤ h94.size := Nat.le_trans Z0 E94.1
  have V102 : Dar Z h94 b95 .double 17 (fun _ => .double (0 : UInt64)) := Dar.new Ar94 (by decide)
  refine Go.of (g' := (mkF m 17 #[.val (.ref va), .val (.int (17 : Int32)), .unset] [(.ref b95)])) st94 ?_
  have A103 := (⟨X94, hx, hby⟩ : Ax _ _ _ _ _ _ _ _ _ _ _ _ _ _ _)
  refine g_astoreN A103 d6_17 rfl (ls' := #[.val (.ref va), .val (.int (17 : Int32)), .val (.ref b95)]) rfl (pc' := 18) rfl ?_
  refine g_aloadN A103 d6_18 rfl rfl (pc' := 19) rfl ?_
  refine g_iconst A103 d6_19 (v := (0 : Int32)) rfl (pc' := 20) rfl ?_
  refine g_aloadN A103 d6_20 rfl rfl (pc' := 21) rfl ?_
  refine g_iconst A103 d6_21 (v := (0 : Int32)) rfl (pc' := 22) rfl ?_
  refine g_aloadN A103 d6_22 rfl rfl (pc' := 23) rfl ?_
  refine g_alen A103 hZ e94 V100 d6_23 (z := (32 : Int32)) rfl (pc' := 24) rfl ?_
  refine g_iloadN A103 d6_24 rfl (pc' := 25) rfl ?_
  obtain ⟨vv104, _, ⟨T104, L104, k104, n104⟩, -, X104, ⟨L104c, hQ104, l104, y104, z104⟩, st104⟩ := Jvm.LawKit.callS X94 hx (y := (⟨"java/lang/Math", "min", "(II)I"⟩ : MethodName)) hown (mvT hZ (hw _ (List.mem_of_getElem? (i := 43) rfl))) (mvT hZ (hw _ (List.mem_of_getElem? (i := 44) rfl))) (mvT hZ (hw _ (List.mem_of_getElem? (i := 45) rfl))) (mvT hZ (hw _ (List.mem_of_getElem? (i := 46) rfl))) (by decide) (backOf (W := 4) (rmM32_17 l Z a0 hw []  h94 n0 Z101 ) hZ (hw _ (List.mem_of_getElem? (i := 46) rfl)) (hw _ (List.mem_of_getElem? (i := 45) rfl)) (by decide) (by decide)) (g := (mkF m 25 #[.val (.ref va), .val (.int (17 : Int32)), .val (.ref b95)] [(.int (17 : Int32)), (.int (32 : Int32)), (.int (0 : Int32)), (.ref b95), (.int (0 : Int32)), (.ref va)])) rfl (by rw [hml]; rfl) (argsL := [(.int (32 : Int32)), (.int (17 : Int32))]) (rest := [(.int (0 : Int32)), (.ref b95), (.int (0 : Int32)), (.ref va)]) (lenOf pd_0 rfl) rfl (by show 2 * 0 + _ ≤ _; exact Nat.le_of_eq rfl) (hb hby d6_25) (fun _ _ => ⟨rfl, e94, (by decide : 1 + 0 ≤ _), (by decide : 17 + 0 ≤ _)⟩)
  have hQ104b : QM32_17 Z  h94 n0 vv104 T104.heap L104c := hQ104
  clear hQ104
  dsimp only [Pt.U, Pt.locs, Pt.cells, Pt.slots] at X104 l104 y104 z104 st104
  subst y104 z104
  obtain ⟨rfl, Nq105, Kq106⟩ := hQ104b
  have N107 : Fr n0 L104 := by rw [l104]; exact Fr.app N0 Nq105
  refine Go.of (g' := (mkF m 28 #[.val (.ref va), .val (.int (17 : Int32)), .val (.ref b95)] [(.int (17 : Int32)), (.int (0 : Int32)), (.ref b95), (.int (0 : Int32)), (.ref va)])) st104 ?_
  have e108 : T104.heap = h94 := Kq106
  have A109 := (⟨X104, hx, hby⟩ : Ax _ _ _ _ _ _ _ _ _ _ _ _ _ _ _)
  obtain ⟨T110, h110, L110, A110, e110, N110, K110, V110, st110⟩ := s_acopy A109 hZ e108 hown (hw _ (List.mem_of_getElem? (i := 47) rfl)) (hw _ (List.mem_of_getElem? (i := 50) rfl)) (hw _ (List.mem_of_getElem? (i := 48) rfl)) (hw _ (List.mem_of_getElem? (i := 49) rfl)) (ls := #[.val (.ref va), .val (.int (17 : Int32)), .val (.ref b95)]) (st := []) (x := x) (y := (fun _ => (0 : UInt64))) V100 V102 (sp := 0) (nn := 17) (by decide) (by decide) N107 g97 (j1 := (0 : Int32)) (j2 := (17 : Int32)) rfl rfl (by rw [hml]; rfl) d6_28 (pc' := 31) rfl (by decide) (W := 0) (Nat.le_of_eq rfl) (by decide)
  have V111 : Dar Z h110 va .double 32 (fun t => .double (x t)) := Dar.keep V100 K110 (ninS ne96 nin0)
  have E112 : Exa Z h110 b95 "[D" := Exa.keep Ex94 K110
  have Z113 : n0 ≤ h110.size := Nat.le_trans Z101 K110.1
  have K114 : Keep h0 h110 [] := K99.trans K110 (allS (Or.inr gh98) all0)
  refine st110 ?_
  refine g_aloadN A110 d6_31 rfl rfl (pc' := 32) rfl ?_
  have V115 : Dar Z h110 b95 .double 17 (fun t => .double ((own_pd x 17) t)) := Dar.congr V110 (fun t _ => by show Value.double (if t < 17 then x (0 + t) else 0) = .double (if t < 17 then x t else 0); rw [Nat.zero_add])
  exact g_ret (Q := QCD32_17 Z va x h0 n0) A110 d6_32 Bd.notSynchronized Bd.returns rfl (Or.inr (Or.inr (Or.inr (Or.inr ⟨rfl, rfl, rfl⟩)))) (by decide) (by decide) (by rw [e110]; exact ⟨b95, rfl, N110, K114, gh98, E112, V115⟩)
theorem ef116 (m : MethodId) (va : Addr) (x : Nat → UInt64) : entryFrame m #[(.ref va), (.int (16 : Int32))] 3 = mkF m 0 #[.val (.ref va), .val (.int (16 : Int32)), .unset] [] := by first | (simp [entryFrame, mkF, argsToLocals, Value.category]; done) | rfl
def QCD16_16 (Z : State) (va : Addr) (x : Nat → UInt64) (h0 : Heap) (n0 : Nat) (v : Option Value) (h : Heap) (L : List Loc) : Prop := ∃ r : Addr, v = some (.ref r) ∧ Fr n0 L ∧ Keep h0 h [] ∧ h0.size ≤ r ∧ Exa Z h r "[D" ∧ Dar Z h r .double 16 (fun t => .double (x t))
set_option maxRecDepth 65536 in
set_option maxHeartbeats 40000000 in
theorem rmCD16_16 (l : Launch) (Z : State) (a0 : Array Value) (hw : ∀ d ∈ tables_1, d.before a0 Z = true) (ws : List Jvm.Cond) (va : Addr) (x : Nat → UInt64) (h0 : Heap) (n0 : Nat) (Z0 : n0 ≤ h0.size) (V117 : Dar Z h0 va .double 16 (fun t => .double (x t))) (E118 : Exa Z h0 va "[D") :
    MetFree l (⟨"java/util/Arrays", "copyOf", "([DI)[D"⟩ : MethodName) (head1 (Jvm.Cond.code (⟨"java/util/Arrays", "copyOf", "([DI)[D"⟩ : MethodName) jdk_65_method_127_code 3 (some (.array .double)) :: ws) ({ frames := 1, cells := 1, slots := 16, locals := 14 } : Room)) (fun a U => a = #[(.ref va), (.int (16 : Int32))] ∧ Z.Warmed39 U.vm ∧ U.heap = h0) (fun _ _ _ _ _ => True) (fun _ U o U' => ∃ v L, o = .returned v ∧ QCD16_16 Z va x h0 n0 v U'.heap L ∧ FrameEnd U o U' L 1 16) := by
  refine MetFree.of_bodySF (plainFor_of_name pn_1) hisR ?_
  intro p e s m args below meth c s₁ Bd hml0 hP hK
  obtain ⟨rfl, hZ, hh⟩ := hP
  have hx := Bd.exec
  have hby := Bd.bytes
  have hml : c.maxLocals = 3 := hml0
  have hown : s.vm.findClass "java/util/Arrays" = some m.cls := findClass_of_methodNamed Bd.named
  have hnm := (name_of_methodNamed Bd.named Bd.method).1
  have X0 : Stand p l e ({ frames := 1, cells := 1, slots := 16, locals := 14 } : Room) s m #[(.ref va), (.int (16 : Int32))] below meth c s₁ [] 0 0 := Stand.of_body Bd
  have e0 : s₁.heap = h0 := by rw [← hh, Bd.state]; rfl
  have N0 := Fr.nil n0
  have A0 := (⟨X0, hx, hby⟩ : Ax _ _ _ _ _ _ _ _ _ _ _ _ _ _ _)
  show Go p e below (fun U o => ∃ v L, o = .returned v ∧ QCD16_16 Z va x h0 n0 v U.heap L ∧ FrameEnd s o U L 1 16) s₁ (entryFrame m #[(.ref va), (.int (16 : Int32))] 3)
  refine Go.cast (ef116 m va x) ?_
  refine g_iloadN A0 d6_0 rfl (pc' := 1) rfl ?_
  refine g_aloadN A0 d6_1 rfl rfl (pc' := 2) rfl ?_
  refine g_alen A0 hZ e0 V117 d6_2 (z := (16 : Int32)) rfl (pc' := 3) rfl ?_
  refine g_icN A0 d6_3 (c2_ne_f rfl) (pc' := 6) rfl ?_
  refine g_aloadN A0 d6_6 rfl rfl (pc' := 7) rfl ?_
  obtain ⟨T119, h119, A119, e119, E119, V119, Ex119, st119⟩ := s_clone A0 hZ e0 hown (ad := "[D") (hw _ (List.mem_of_getElem? (i := 118) rfl)) (hw _ (List.mem_of_getElem? (i := 119) rfl)) (hw _ (List.mem_of_getElem? (i := 114) rfl)) (hw _ (List.mem_of_getElem? (i := 112) rfl)) (hw _ (List.mem_of_getElem? (i := 120) rfl)) (hw _ (List.mem_of_getElem? (i := 121) rfl)) (ls := #[.val (.ref va), .val (.int (16 : Int32)), .unset]) (st := []) V117 (fun _ _ => rfl) E118 (by rw [hml]; rfl) d6_7 (pc' := 10) rfl (by decide) (W := 0) (Nat.le_of_eq rfl) (by decide) (cap := 16) (by decide) (by decide) (by decide)
  obtain ⟨b120, eb120⟩ : ∃ z, z = h0.size := ⟨_, rfl⟩
  rw [← eb120] at V119 Ex119 st119
  have ne121 : va ≠ b120 := own_ne eb120 V117.lt
  have g122 : n0 ≤ b120 := by rw [eb120]; exact Z0
  have gh123 : h0.size ≤ b120 := by rw [eb120]; exact (Keep.refl h0 []).1
  have K124 : Keep h0 h119 [] := (Keep.refl h0 []).ext E119
  have V125 : Dar Z h119 va .double 16 (fun t => .double (x t)) := Dar.ext E119 V117
  have E126 : Exa Z h119 va "[D" := Exa.ext E119 E118
  have Z127 : n0 ≤ h119.size := Nat.le_trans Z0 E119.1
  refine st119 ?_
  obtain ⟨T128, X128, e128, st128⟩ := castY A119.1 hx hZ hown (hw _ (List.mem_of_getElem? (i := 122) rfl)) e119 (Ins.self Ex119) (g := (mkF m 10 #[.val (.ref va), .val (.int (16 : Int32)), .unset] [(.ref b120)])) rfl rfl (hb hby d6_10)
  refine Go.of (g' := (mkF m 13 #[.val (.ref va), .val (.int (16 : Int32)), .unset] [(.ref b120)])) st128 ?_
  have A129 := (⟨X128, hx, hby⟩ : Ax _ _ _ _ _ _ _ _ _ _ _ _ _ _ _)
  exact g_ret (Q := QCD16_16 Z va x h0 n0) A129 d6_13 Bd.notSynchronized Bd.returns rfl (Or.inr (Or.inr (Or.inr (Or.inr ⟨rfl, rfl, rfl⟩)))) (by decide) (by decide) (by rw [e128]; exact ⟨b120, rfl, N0, K124, gh123, Ex119, V119⟩)
theorem d1_0 : decode prog_17_method_1_code 0 = .ok (.aload_n 0, 1) := by decide +kernel
theorem d1_1 : decode prog_17_method_1_code 1 = .ok (.invokespecial 1, 3) := by decide +kernel
theorem d1_4 : decode prog_17_method_1_code 4 = .ok (.aload_n 0, 1) := by decide +kernel
theorem d1_5 : decode prog_17_method_1_code 5 = .ok (.bipush 16, 2) := by decide +kernel
theorem d1_7 : decode prog_17_method_1_code 7 = .ok (.newarray .int, 2) := by decide +kernel
theorem d1_9 : decode prog_17_method_1_code 9 = .ok (.putfield 7, 3) := by decide +kernel
theorem d1_12 : decode prog_17_method_1_code 12 = .ok (.aload_n 0, 1) := by decide +kernel
theorem d1_13 : decode prog_17_method_1_code 13 = .ok (.bipush 16, 2) := by decide +kernel
theorem d1_15 : decode prog_17_method_1_code 15 = .ok (.newarray .int, 2) := by decide +kernel
theorem d1_17 : decode prog_17_method_1_code 17 = .ok (.putfield 13, 3) := by decide +kernel
theorem d1_20 : decode prog_17_method_1_code 20 = .ok (.aload_n 0, 1) := by decide +kernel
theorem d1_21 : decode prog_17_method_1_code 21 = .ok (.bipush 16, 2) := by decide +kernel
theorem d1_23 : decode prog_17_method_1_code 23 = .ok (.newarray .double, 2) := by decide +kernel
theorem d1_25 : decode prog_17_method_1_code 25 = .ok (.putfield 16, 3) := by decide +kernel
theorem d1_28 : decode prog_17_method_1_code 28 = .ok (.return_, 1) := by decide +kernel
theorem pn_2 : plainName "com/example/retinue/retinue/Matching$Pairs" = true := by first | (simp [plainName, overriddenIn]; done) | decide +kernel
theorem ef130 (m : MethodId) (a1 : Addr) (w : Nat → Int32) (y : Nat → Int32) (d : Nat → UInt64) (u0 : Value) (u1 : Value) (u2 : Value) (u3 : Value) : entryFrame m #[(.ref a1)] 1 = mkF m 0 #[.val (.ref a1)] [] := by first | (simp [entryFrame, mkF, argsToLocals, Value.category]; done) | rfl
def Q1 (Z : State) (a1 : Addr) (w : Nat → Int32) (y : Nat → Int32) (d : Nat → UInt64) (u0 : Value) (u1 : Value) (u2 : Value) (u3 : Value) (h0 : Heap) (n0 : Nat) (v : Option Value) (h : Heap) (L : List Loc) : Prop := ∃ wa : Addr, ∃ ta : Addr, ∃ da : Addr, v = none ∧ Fr n0 L ∧ Keep h0 h [a1] ∧ h0.size ≤ wa ∧ h0.size ≤ ta ∧ h0.size ≤ da ∧ Fld Z h a1 "com/example/retinue/retinue/Matching$Pairs" "worker" "[I" (.ref wa) ∧ Fld Z h a1 "com/example/retinue/retinue/Matching$Pairs" "task" "[I" (.ref ta) ∧ Fld Z h a1 "com/example/retinue/retinue/Matching$Pairs" "weight" "[D" (.ref da) ∧ Fld Z h a1 "com/example/retinue/retinue/Matching$Pairs" "count" "I" u3 ∧ Dar Z h wa .int 16 (fun t => .int ((own_pi w 0) t)) ∧ Dar Z h ta .int 16 (fun t => .int ((own_pi y 0) t)) ∧ Dar Z h da .double 16 (fun t => .double ((own_pd d 0) t)) ∧ Exa Z h wa "[I" ∧ Exa Z h ta "[I" ∧ Exa Z h da "[D" ∧ wa ≠ ta ∧ wa ≠ da ∧ ta ≠ da
set_option maxRecDepth 65536 in
set_option maxHeartbeats 40000000 in
theorem rm1 (l : Launch) (Z : State) (a0 : Array Value) (hw : ∀ d ∈ tables_1, d.before a0 Z = true) (ws : List Jvm.Cond) (a1 : Addr) (w : Nat → Int32) (y : Nat → Int32) (d : Nat → UInt64) (u0 : Value) (u1 : Value) (u2 : Value) (u3 : Value) (h0 : Heap) (n0 : Nat) (Z0 : n0 ≤ h0.size) (E131 : Exa Z h0 a1 "com/example/retinue/retinue/Matching$Pairs") (F132 : Fld Z h0 a1 "com/example/retinue/retinue/Matching$Pairs" "worker" "[I" u0) (F133 : Fld Z h0 a1 "com/example/retinue/retinue/Matching$Pairs" "task" "[I" u1) (F134 : Fld Z h0 a1 "com/example/retinue/retinue/Matching$Pairs" "weight" "[D" u2) (F135 : Fld Z h0 a1 "com/example/retinue/retinue/Matching$Pairs" "count" "I" u3) (g136 : n0 ≤ a1) :
    MetFree l (⟨"com/example/retinue/retinue/Matching$Pairs", "<init>", "()V"⟩ : MethodName) (head1 (Jvm.Cond.code (⟨"com/example/retinue/retinue/Matching$Pairs", "<init>", "()V"⟩ : MethodName) prog_17_method_1_code 1 none :: ws) ({ frames := 1, cells := 3, slots := 48, locals := 12 } : Room)) (fun a U => a = #[(.ref a1)] ∧ Z.Warmed39 U.vm ∧ U.heap = h0) (fun _ _ _ _ _ => True) (fun _ U o U' => ∃ v L, o = .returned v ∧ Q1 Z a1 w y d u0 u1 u2 u3 h0 n0 v U'.heap L ∧ FrameEnd U o U' L 3 48) := by
  refine MetFree.of_bodySF (plainFor_of_name pn_2) hisR ?_
  intro p e s m args below meth c s₁ Bd hml0 hP hK
  obtain ⟨rfl, hZ, hh⟩ := hP
  have hx := Bd.exec
  have hby := Bd.bytes
  have hml : c.maxLocals = 1 := hml0
  have hown : s.vm.findClass "com/example/retinue/retinue/Matching$Pairs" = some m.cls := findClass_of_methodNamed Bd.named
  have hnm := (name_of_methodNamed Bd.named Bd.method).1
  have X0 : Stand p l e ({ frames := 1, cells := 3, slots := 48, locals := 12 } : Room) s m #[(.ref a1)] below meth c s₁ [] 0 0 := Stand.of_body Bd
  have e0 : s₁.heap = h0 := by rw [← hh, Bd.state]; rfl
  have N0 := Fr.nil n0
  have A0 := (⟨X0, hx, hby⟩ : Ax _ _ _ _ _ _ _ _ _ _ _ _ _ _ _)
  show Go p e below (fun U o => ∃ v L, o = .returned v ∧ Q1 Z a1 w y d u0 u1 u2 u3 h0 n0 v U.heap L ∧ FrameEnd s o U L 3 48) s₁ (entryFrame m #[(.ref a1)] 1)
  refine Go.cast (ef130 m a1 w y d u0 u1 u2 u3) ?_
  refine g_aloadN A0 d1_0 rfl rfl (pc' := 1) rfl ?_
  obtain ⟨T137, X137, e137, st137⟩ := initO X0 hx hZ hown (hw _ (List.mem_of_getElem? (i := 7) rfl)) (hw _ (List.mem_of_getElem? (i := 8) rfl)) (hw _ (List.mem_of_getElem? (i := 9) rfl)) e0 (g := (mkF m 1 #[.val (.ref a1)] [(.ref a1)])) rfl (by rw [hml]; rfl) rfl (hb hby d1_1) (by decide) (W := 0) (by show 2 * 0 + _ ≤ _; exact Nat.le_of_eq rfl) (by decide)
  refine Go.of (g' := (mkF m 4 #[.val (.ref a1)] [])) st137 ?_
  have A138 := (⟨X137, hx, hby⟩ : Ax _ _ _ _ _ _ _ _ _ _ _ _ _ _ _)
  refine g_aloadN A138 d1_4 rfl rfl (pc' := 5) rfl ?_
  refine g_bipush A138 d1_5 (v := (16 : Int32)) rfl (pc' := 7) rfl ?_
  obtain ⟨T139, h139, k139, X139, e139, E139, Ar139, Ex139, st139⟩ := newPE X137 hx hZ (hw _ (List.mem_of_getElem? (i := 10) rfl)) e137 (g := (mkF m 7 #[.val (.ref a1)] [(.int (16 : Int32)), (.ref a1)])) rfl (hb hby d1_7) rfl (by decide) (cap := 16) (by decide) (by decide) (by decide) (by decide) (ad := "[I") rfl
  obtain ⟨b140, eb140⟩ : ∃ z, z = h0.size := ⟨_, rfl⟩
  rw [← eb140] at Ar139 st139 Ex139
  have ne141 : a1 ≠ b140 := own_ne eb140 E131.lt
  have g142 : n0 ≤ b140 := by rw [eb140]; exact Z0
  have gh143 : h0.size ≤ b140 := by rw [eb140]; exact (Keep.refl h0 [a1]).1
  have K144 : Keep h0 h139 [a1] := (Keep.refl h0 [a1]).ext E139
  have E145 : Exa Z h139 a1 "com/example/retinue/retinue/Matching$Pairs" := Exa.ext E139 E131
  have F146 : Fld Z h139 a1 "com/example/retinue/retinue/Matching$Pairs" "worker" "[I" u0 := Fld.ext E139 F132
  have F147 : Fld Z h139 a1 "com/example/retinue/retinue/Matching$Pairs" "task" "[I" u1 := Fld.ext E139 F133
  have F148 : Fld Z h139 a1 "com/example/retinue/retinue/Matching$Pairs" "weight" "[D" u2 := Fld.ext E139 F134
  have F149 : Fld Z h139 a1 "com/example/retinue/retinue/Matching$Pairs" "count" "I" u3 := Fld.ext E139 F135
  have Z150 : n0 ≤ h139.size := Nat.le_trans Z0 E139.1
  have V151 : Dar Z h139 b140 .int 16 (fun _ => .int (0 : Int32)) := Dar.new Ar139 (by decide)
  refine Go.of (g' := (mkF m 9 #[.val (.ref a1)] [(.ref b140), (.ref a1)])) st139 ?_
  have A152 := (⟨X139, hx, hby⟩ : Ax _ _ _ _ _ _ _ _ _ _ _ _ _ _ _)
  obtain ⟨T153, h153, X153, e153, W153, st153⟩ := putF X139 hx hZ hown (host := "") (Or.inl (hw _ (List.mem_of_getElem? (i := 11) rfl))) Via.refl e139 F146 E145 (Or.inl (hw _ (List.mem_of_getElem? (i := 12) rfl))) (hw _ (List.mem_of_getElem? (i := 2) rfl)) (ty := (.array .int)) (by decide) rfl rfl (g := (mkF m 9 #[.val (.ref a1)] [(.ref b140), (.ref a1)])) rfl rfl (hb hby d1_9)
  have N154 := Fr.snoc X153 N0 g136
  have K155 : Keep h0 h153 [a1] := K144.wr W153 (Or.inl (List.mem_of_getElem? (i := 0) rfl))
  have E156 : Exa Z h153 a1 "com/example/retinue/retinue/Matching$Pairs" := Exa.wr W153 E145
  have F157 : Fld Z h153 a1 "com/example/retinue/retinue/Matching$Pairs" "task" "[I" u1 := Fld.other W153 F147 (Or.inr (slot_ne (Or.inl (hw _ (List.mem_of_getElem? (i := 14) rfl))) (Or.inl (hw _ (List.mem_of_getElem? (i := 12) rfl))) (by decide) (t := (.array .int)) (t' := (.array .int)) (by decide) (by decide)))
  have F158 : Fld Z h153 a1 "com/example/retinue/retinue/Matching$Pairs" "weight" "[D" u2 := Fld.other W153 F148 (Or.inr (slot_ne (Or.inl (hw _ (List.mem_of_getElem? (i := 17) rfl))) (Or.inl (hw _ (List.mem_of_getElem? (i := 12) rfl))) (by decide) (t := (.array .double)) (t' := (.array .int)) (by decide) (by decide)))
  have F159 : Fld Z h153 a1 "com/example/retinue/retinue/Matching$Pairs" "count" "I" u3 := Fld.other W153 F149 (Or.inr (slot_ne (Or.inl (hw _ (List.mem_of_getElem? (i := 24) rfl))) (Or.inl (hw _ (List.mem_of_getElem? (i := 12) rfl))) (by decide) (t := .int) (t' := (.array .int)) (by decide) (by decide)))
  have V160 : Dar Z h153 b140 .int 16 (fun _ => .int (0 : Int32)) := Dar.other W153 V151 (Ne.symm ne141)
  have E161 : Exa Z h153 b140 "[I" := Exa.wr W153 Ex139
  have F162 : Fld Z h153 a1 "com/example/retinue/retinue/Matching$Pairs" "worker" "[I" (.ref b140) := Fld.same W153 F146
  have Z163 : n0 ≤ h153.size := by rw [W153.size]; exact Z150
  refine Go.of (g' := (mkF m 12 #[.val (.ref a1)] [])) st153 ?_
  have A164 := (⟨X153, hx, hby⟩ : Ax _ _ _ _ _ _ _ _ _ _ _ _ _ _ _)
  refine g_aloadN A164 d1_12 rfl rfl (pc' := 13) rfl ?_
  refine g_bipush A164 d1_13 (v := (16 : Int32)) rfl (pc' := 15) rfl ?_
  obtain ⟨T165, h165, k165, X165, e165, E165, Ar165, Ex165, st165⟩ := newPE X153 hx hZ (hw _ (List.mem_of_getElem? (i := 10) rfl)) e153 (g := (mkF m 15 #[.val (.ref a1)] [(.int (16 : Int32)), (.ref a1)])) rfl (hb hby d1_15) rfl (by decide) (cap := 16) (by decide) (by decide) (by decide) (by decide) (ad := "[I") rfl
  obtain ⟨b166, eb166⟩ : ∃ z, z = h153.size := ⟨_, rfl⟩
  rw [← eb166] at Ar165 st165 Ex165
  have ne167 : a1 ≠ b166 := own_ne eb166 E156.lt
  have ne168 : b140 ≠ b166 := own_ne eb166 V160.lt
  have g169 : n0 ≤ b166 := by rw [eb166]; exact Z163
  have gh170 : h0.size ≤ b166 := by rw [eb166]; exact K155.1
  have K171 : Keep h0 h165 [a1] := K155.ext E165
  have E172 : Exa Z h165 a1 "com/example/retinue/retinue/Matching$Pairs" := Exa.ext E165 E156
  have F173 : Fld Z h165 a1 "com/example/retinue/retinue/Matching$Pairs" "task" "[I" u1 := Fld.ext E165 F157
  have F174 : Fld Z h165 a1 "com/example/retinue/retinue/Matching$Pairs" "weight" "[D" u2 := Fld.ext E165 F158
  have F175 : Fld Z h165 a1 "com/example/retinue/retinue/Matching$Pairs" "count" "I" u3 := Fld.ext E165 F159
  have V176 : Dar Z h165 b140 .int 16 (fun _ => .int (0 : Int32)) := Dar.ext E165 V160
  have E177 : Exa Z h165 b140 "[I" := Exa.ext E165 E161
  have F178 : Fld Z h165 a1 "com/example/retinue/retinue/Matching$Pairs" "worker" "[I" (.ref b140) := Fld.ext E165 F162
  have Z179 : n0 ≤ h165.size := Nat.le_trans Z163 E165.1
  have V180 : Dar Z h165 b166 .int 16 (fun _ => .int (0 : Int32)) := Dar.new Ar165 (by decide)
  refine Go.of (g' := (mkF m 17 #[.val (.ref a1)] [(.ref b166), (.ref a1)])) st165 ?_
  have A181 := (⟨X165, hx, hby⟩ : Ax _ _ _ _ _ _ _ _ _ _ _ _ _ _ _)
  obtain ⟨T182, h182, X182, e182, W182, st182⟩ := putF X165 hx hZ hown (host := "") (Or.inl (hw _ (List.mem_of_getElem? (i := 13) rfl))) Via.refl e165 F173 E172 (Or.inl (hw _ (List.mem_of_getElem? (i := 14) rfl))) (hw _ (List.mem_of_getElem? (i := 2) rfl)) (ty := (.array .int)) (by decide) rfl rfl (g := (mkF m 17 #[.val (.ref a1)] [(.ref b166), (.ref a1)])) rfl rfl (hb hby d1_17)
  have N183 := Fr.snoc X182 N154 g136
  have K184 : Keep h0 h182 [a1] := K171.wr W182 (Or.inl (List.mem_of_getElem? (i := 0) rfl))
  have E185 : Exa Z h182 a1 "com/example/retinue/retinue/Matching$Pairs" := Exa.wr W182 E172
  have F186 : Fld Z h182 a1 "com/example/retinue/retinue/Matching$Pairs" "weight" "[D" u2 := Fld.other W182 F174 (Or.inr (slot_ne (Or.inl (hw _ (List.mem_of_getElem? (i := 17) rfl))) (Or.inl (hw _ (List.mem_of_getElem? (i := 14) rfl))) (by decide) (t := (.array .double)) (t' := (.array .int)) (by decide) (by decide)))
  have F187 : Fld Z h182 a1 "com/example/retinue/retinue/Matching$Pairs" "count" "I" u3 := Fld.other W182 F175 (Or.inr (slot_ne (Or.inl (hw _ (List.mem_of_getElem? (i := 24) rfl))) (Or.inl (hw _ (List.mem_of_getElem? (i := 14) rfl))) (by decide) (t := .int) (t' := (.array .int)) (by decide) (by decide)))
  have V188 : Dar Z h182 b140 .int 16 (fun _ => .int (0 : Int32)) := Dar.other W182 V176 (Ne.symm ne141)
  have E189 : Exa Z h182 b140 "[I" := Exa.wr W182 E177
  have F190 : Fld Z h182 a1 "com/example/retinue/retinue/Matching$Pairs" "worker" "[I" (.ref b140) := Fld.other W182 F178 (Or.inr (slot_ne (Or.inl (hw _ (List.mem_of_getElem? (i := 12) rfl))) (Or.inl (hw _ (List.mem_of_getElem? (i := 14) rfl))) (by decide) (t := (.array .int)) (t' := (.array .int)) (by decide) (by decide)))
  have V191 : Dar Z h182 b166 .int 16 (fun _ => .int (0 : Int32)) := Dar.other W182 V180 (Ne.symm ne167)
  have E192 : Exa Z h182 b166 "[I" := Exa.wr W182 Ex165
  have F193 : Fld Z h182 a1 "com/example/retinue/retinue/Matching$Pairs" "task" "[I" (.ref b166) := Fld.same W182 F173
  have Z194 : n0 ≤ h182.size := by rw [W182.size]; exact Z179
  refine Go.of (g' := (mkF m 20 #[.val (.ref a1)] [])) st182 ?_
  have A195 := (⟨X182, hx, hby⟩ : Ax _ _ _ _ _ _ _ _ _ _ _ _ _ _ _)
  refine g_aloadN A195 d1_20 rfl rfl (pc' := 21) rfl ?_
  refine g_bipush A195 d1_21 (v := (16 : Int32)) rfl (pc' := 23) rfl ?_
  obtain ⟨T196, h196, k196, X196, e196, E196, Ar196, Ex196, st196⟩ := newPE X182 hx hZ (hw _ (List.mem_of_getElem? (i := 15) rfl)) e182 (g := (mkF m 23 #[.val (.ref a1)] [(.int (16 : Int32)), (.ref a1)])) rfl (hb hby d1_23) rfl (by decide) (cap := 16) (by decide) (by decide) (by decide) (by decide) (ad := "[D") rfl
  obtain ⟨b197, eb197⟩ : ∃ z, z = h182.size := ⟨_, rfl⟩
  rw [← eb197] at Ar196 st196 Ex196
  have ne198 : a1 ≠ b197 := own_ne eb197 E185.lt
  have ne199 : b140 ≠ b197 := own_ne eb197 V188.lt
  have ne200 : b166 ≠ b197 := own_ne eb197 V191.lt
  have g201 : n0 ≤ b197 := by rw [eb197]; exact Z194
  have gh202 : h0.size ≤ b197 := by rw [eb197]; exact K184.1
  have K203 : Keep h0 h196 [a1] := K184.ext E196
  have E204 : Exa Z h196 a1 "com/example/retinue/retinue/Matching$Pairs" := Exa.ext E196 E185
  have F205 : Fld Z h196 a1 "com/example/retinue/retinue/Matching$Pairs" "weight" "[D" u2 := Fld.ext E196 F186
  have F206 : Fld Z h196 a1 "com/example/retinue/retinue/Matching$Pairs" "count" "I" u3 := Fld.ext E196 F187
  have V207 : Dar Z h196 b140 .int 16 (fun _ => .int (0 : Int32)) := Dar.ext E196 V188
  have E208 : Exa Z h196 b140 "[I" := Exa.ext E196 E189
  have F209 : Fld Z h196 a1 "com/example/retinue/retinue/Matching$Pairs" "worker" "[I" (.ref b140) := Fld.ext E196 F190
  have V210 : Dar Z h196 b166 .int 16 (fun _ => .int (0 : Int32)) := Dar.ext E196 V191
  have E211 : Exa Z h196 b166 "[I" := Exa.ext E196 E192
  have F212 : Fld Z h196 a1 "com/example/retinue/retinue/Matching$Pairs" "task" "[I" (.ref b166) := Fld.ext E196 F193
  have Z213 : n0 ≤ h196.size := Nat.le_trans Z194 E196.1
  have V214 : Dar Z h196 b197 .double 16 (fun _ => .double (0 : UInt64)) := Dar.new Ar196 (by decide)
  refine Go.of (g' := (mkF m 25 #[.val (.ref a1)] [(.ref b197), (.ref a1)])) st196 ?_
  have A215 := (⟨X196, hx, hby⟩ : Ax _ _ _ _ _ _ _ _ _ _ _ _ _ _ _)
  obtain ⟨T216, h216, X216, e216, W216, st216⟩ := putF X196 hx hZ hown (host := "") (Or.inl (hw _ (List.mem_of_getElem? (i := 16) rfl))) Via.refl e196 F205 E204 (Or.inl (hw _ (List.mem_of_getElem? (i := 17) rfl))) (hw _ (List.mem_of_getElem? (i := 2) rfl)) (ty := (.array .double)) (by decide) rfl rfl (g := (mkF m 25 #[.val (.ref a1)] [(.ref b197), (.ref a1)])) rfl rfl (hb hby d1_25)
  have N217 := Fr.snoc X216 N183 g136
  have K218 : Keep h0 h216 [a1] := K203.wr W216 (Or.inl (List.mem_of_getElem? (i := 0) rfl))
  have E219 : Exa Z h216 a1 "com/example/retinue/retinue/Matching$Pairs" := Exa.wr W216 E204
  have F220 : Fld Z h216 a1 "com/example/retinue/retinue/Matching$Pairs" "count" "I" u3 := Fld.other W216 F206 (Or.inr (slot_ne (Or.inl (hw _ (List.mem_of_getElem? (i := 24) rfl))) (Or.inl (hw _ (List.mem_of_getElem? (i := 17) rfl))) (by decide) (t := .int) (t' := (.array .double)) (by decide) (by decide)))
  have V221 : Dar Z h216 b140 .int 16 (fun _ => .int (0 : Int32)) := Dar.other W216 V207 (Ne.symm ne141)
  have E222 : Exa Z h216 b140 "[I" := Exa.wr W216 E208
  have F223 : Fld Z h216 a1 "com/example/retinue/retinue/Matching$Pairs" "worker" "[I" (.ref b140) := Fld.other W216 F209 (Or.inr (slot_ne (Or.inl (hw _ (List.mem_of_getElem? (i := 12) rfl))) (Or.inl (hw _ (List.mem_of_getElem? (i := 17) rfl))) (by decide) (t := (.array .int)) (t' := (.array .double)) (by decide) (by decide)))
  have V224 : Dar Z h216 b166 .int 16 (fun _ => .int (0 : Int32)) := Dar.other W216 V210 (Ne.symm ne167)
  have E225 : Exa Z h216 b166 "[I" := Exa.wr W216 E211
  have F226 : Fld Z h216 a1 "com/example/retinue/retinue/Matching$Pairs" "task" "[I" (.ref b166) := Fld.other W216 F212 (Or.inr (slot_ne (Or.inl (hw _ (List.mem_of_getElem? (i := 14) rfl))) (Or.inl (hw _ (List.mem_of_getElem? (i := 17) rfl))) (by decide) (t := (.array .int)) (t' := (.array .double)) (by decide) (by decide)))
  have V227 : Dar Z h216 b197 .double 16 (fun _ => .double (0 : UInt64)) := Dar.other W216 V214 (Ne.symm ne198)
  have E228 : Exa Z h216 b197 "[D" := Exa.wr W216 Ex196
  have F229 : Fld Z h216 a1 "com/example/retinue/retinue/Matching$Pairs" "weight" "[D" (.ref b197) := Fld.same W216 F205
  have Z230 : n0 ≤ h216.size := by rw [W216.size]; exact Z213
  refine Go.of (g' := (mkF m 28 #[.val (.ref a1)] [])) st216 ?_
  have A231 := (⟨X216, hx, hby⟩ : Ax _ _ _ _ _ _ _ _ _ _ _ _ _ _ _)
  have V232 : Dar Z h216 b140 .int 16 (fun t => .int ((own_pi w 0) t)) := Dar.congr V221 (fun t _ => own_pi0 _ t)
  have V233 : Dar Z h216 b166 .int 16 (fun t => .int ((own_pi y 0) t)) := Dar.congr V224 (fun t _ => own_pi0 _ t)
  have V234 : Dar Z h216 b197 .double 16 (fun t => .double ((own_pd d 0) t)) := Dar.congr V227 (fun t _ => own_pd0 _ t)
  exact g_retV (Q := Q1 Z a1 w y d u0 u1 u2 u3 h0 n0) A231 d1_28 Bd.notSynchronized Bd.returns (by decide) (by decide) (by rw [e216]; exact ⟨b140, b166, b197, rfl, N217, K218, gh143, gh170, gh202, F223, F226, F229, F220, V232, V233, V234, E222, E225, E228, ne168, ne199, ne200⟩)
theorem d3_0 : decode prog_17_method_2_code 0 = .ok (.aload_n 0, 1) := by decide +kernel
theorem d3_1 : decode prog_17_method_2_code 1 = .ok (.getfield 20, 3) := by decide +kernel
theorem d3_4 : decode prog_17_method_2_code 4 = .ok (.aload_n 0, 1) := by decide +kernel
theorem d3_5 : decode prog_17_method_2_code 5 = .ok (.getfield 7, 3) := by decide +kernel
theorem d3_8 : decode prog_17_method_2_code 8 = .ok (.arraylength, 1) := by decide +kernel
theorem d3_9 : decode prog_17_method_2_code 9 = .ok (.if_icmp .ne 50, 3) := by decide +kernel
theorem d3_12 : decode prog_17_method_2_code 12 = .ok (.iconst 2, 1) := by decide +kernel
theorem d3_13 : decode prog_17_method_2_code 13 = .ok (.aload_n 0, 1) := by decide +kernel
theorem d3_14 : decode prog_17_method_2_code 14 = .ok (.getfield 20, 3) := by decide +kernel
theorem d3_17 : decode prog_17_method_2_code 17 = .ok (.imul, 1) := by decide +kernel
theorem d3_18 : decode prog_17_method_2_code 18 = .ok (.istore 5, 2) := by decide +kernel
theorem d3_20 : decode prog_17_method_2_code 20 = .ok (.aload_n 0, 1) := by decide +kernel
theorem d3_21 : decode prog_17_method_2_code 21 = .ok (.aload_n 0, 1) := by decide +kernel
theorem d3_22 : decode prog_17_method_2_code 22 = .ok (.getfield 7, 3) := by decide +kernel
theorem d3_25 : decode prog_17_method_2_code 25 = .ok (.iload 5, 2) := by decide +kernel
theorem d3_27 : decode prog_17_method_2_code 27 = .ok (.invokestatic 24, 3) := by decide +kernel
theorem d3_30 : decode prog_17_method_2_code 30 = .ok (.putfield 7, 3) := by decide +kernel
theorem d3_33 : decode prog_17_method_2_code 33 = .ok (.aload_n 0, 1) := by decide +kernel
theorem d3_34 : decode prog_17_method_2_code 34 = .ok (.aload_n 0, 1) := by decide +kernel
theorem d3_35 : decode prog_17_method_2_code 35 = .ok (.getfield 13, 3) := by decide +kernel
theorem d3_38 : decode prog_17_method_2_code 38 = .ok (.iload 5, 2) := by decide +kernel
theorem d3_40 : decode prog_17_method_2_code 40 = .ok (.invokestatic 24, 3) := by decide +kernel
theorem d3_43 : decode prog_17_method_2_code 43 = .ok (.putfield 13, 3) := by decide +kernel
theorem d3_46 : decode prog_17_method_2_code 46 = .ok (.aload_n 0, 1) := by decide +kernel
theorem d3_47 : decode prog_17_method_2_code 47 = .ok (.aload_n 0, 1) := by decide +kernel
theorem d3_48 : decode prog_17_method_2_code 48 = .ok (.getfield 16, 3) := by decide +kernel
theorem d3_51 : decode prog_17_method_2_code 51 = .ok (.iload 5, 2) := by decide +kernel
theorem d3_53 : decode prog_17_method_2_code 53 = .ok (.invokestatic 30, 3) := by decide +kernel
theorem d3_56 : decode prog_17_method_2_code 56 = .ok (.putfield 16, 3) := by decide +kernel
theorem d3_59 : decode prog_17_method_2_code 59 = .ok (.aload_n 0, 1) := by decide +kernel
theorem d3_60 : decode prog_17_method_2_code 60 = .ok (.getfield 7, 3) := by decide +kernel
theorem d3_63 : decode prog_17_method_2_code 63 = .ok (.aload_n 0, 1) := by decide +kernel
theorem d3_64 : decode prog_17_method_2_code 64 = .ok (.getfield 20, 3) := by decide +kernel
theorem d3_67 : decode prog_17_method_2_code 67 = .ok (.iload_n 1, 1) := by decide +kernel
theorem d3_68 : decode prog_17_method_2_code 68 = .ok (.iastore, 1) := by decide +kernel
theorem d3_69 : decode prog_17_method_2_code 69 = .ok (.aload_n 0, 1) := by decide +kernel
theorem d3_70 : decode prog_17_method_2_code 70 = .ok (.getfield 13, 3) := by decide +kernel
theorem d3_73 : decode prog_17_method_2_code 73 = .ok (.aload_n 0, 1) := by decide +kernel
theorem d3_74 : decode prog_17_method_2_code 74 = .ok (.getfield 20, 3) := by decide +kernel
theorem d3_77 : decode prog_17_method_2_code 77 = .ok (.iload_n 2, 1) := by decide +kernel
theorem d3_78 : decode prog_17_method_2_code 78 = .ok (.iastore, 1) := by decide +kernel
theorem d3_79 : decode prog_17_method_2_code 79 = .ok (.aload_n 0, 1) := by decide +kernel
theorem d3_80 : decode prog_17_method_2_code 80 = .ok (.getfield 16, 3) := by decide +kernel
theorem d3_83 : decode prog_17_method_2_code 83 = .ok (.aload_n 0, 1) := by decide +kernel
theorem d3_84 : decode prog_17_method_2_code 84 = .ok (.getfield 20, 3) := by decide +kernel
theorem d3_87 : decode prog_17_method_2_code 87 = .ok (.dload_n 3, 1) := by decide +kernel
theorem d3_88 : decode prog_17_method_2_code 88 = .ok (.dastore, 1) := by decide +kernel
theorem d3_89 : decode prog_17_method_2_code 89 = .ok (.aload_n 0, 1) := by decide +kernel
theorem d3_90 : decode prog_17_method_2_code 90 = .ok (.dup, 1) := by decide +kernel
theorem d3_91 : decode prog_17_method_2_code 91 = .ok (.getfield 20, 3) := by decide +kernel
theorem d3_94 : decode prog_17_method_2_code 94 = .ok (.iconst 1, 1) := by decide +kernel
theorem d3_95 : decode prog_17_method_2_code 95 = .ok (.iadd, 1) := by decide +kernel
theorem d3_96 : decode prog_17_method_2_code 96 = .ok (.putfield 20, 3) := by decide +kernel
theorem d3_99 : decode prog_17_method_2_code 99 = .ok (.return_, 1) := by decide +kernel
theorem ef235 (m : MethodId) (a1 : Addr) (q1 : Int32) (q2 : Int32) (q3 : UInt64) (wa : Addr) (ta : Addr) (da : Addr) (w : Nat → Int32) (y : Nat → Int32) (d : Nat → UInt64) (n : Nat) : entryFrame m #[(.ref a1), (.int q1), (.int q2), (.double q3)] 6 = mkF m 0 #[.val (.ref a1), .val (.int q1), .val (.int q2), .val (.double q3), .second, .unset] [] := by first | (simp [entryFrame, mkF, argsToLocals, Value.category]; done) | rfl
def Q3 (Z : State) (a1 : Addr) (q1 : Int32) (q2 : Int32) (q3 : UInt64) (wa : Addr) (ta : Addr) (da : Addr) (w : Nat → Int32) (y : Nat → Int32) (d : Nat → UInt64) (n : Nat) (h0 : Heap) (n0 : Nat) (v : Option Value) (h : Heap) (L : List Loc) : Prop := v = none ∧ Fr n0 L ∧ Keep h0 h [a1, wa, ta, da] ∧ Fld Z h a1 "com/example/retinue/retinue/Matching$Pairs" "worker" "[I" (.ref wa) ∧ Fld Z h a1 "com/example/retinue/retinue/Matching$Pairs" "task" "[I" (.ref ta) ∧ Fld Z h a1 "com/example/retinue/retinue/Matching$Pairs" "weight" "[D" (.ref da) ∧ Fld Z h a1 "com/example/retinue/retinue/Matching$Pairs" "count" "I" (.int (Int32.ofNat (n + 1))) ∧ Dar Z h wa .int 16 (fun t => .int ((own_pi w (n + 1)) t)) ∧ Dar Z h ta .int 16 (fun t => .int ((own_pi y (n + 1)) t)) ∧ Dar Z h da .double 16 (fun t => .double ((own_pd d (n + 1)) t))
set_option maxRecDepth 65536 in
set_option maxHeartbeats 40000000 in
theorem rm3 (l : Launch) (Z : State) (a0 : Array Value) (hw : ∀ d ∈ tables_1, d.before a0 Z = true) (ws : List Jvm.Cond) (a1 : Addr) (q1 : Int32) (q2 : Int32) (q3 : UInt64) (wa : Addr) (ta : Addr) (da : Addr) (w : Nat → Int32) (y : Nat → Int32) (d : Nat → UInt64) (n : Nat) (h0 : Heap) (n0 : Nat) (Z0 : n0 ≤ h0.size) (E236 : Exa Z h0 a1 "com/example/retinue/retinue/Matching$Pairs") (F237 : Fld Z h0 a1 "com/example/retinue/retinue/Matching$Pairs" "worker" "[I" (.ref wa)) (F238 : Fld Z h0 a1 "com/example/retinue/retinue/Matching$Pairs" "task" "[I" (.ref ta)) (F239 : Fld Z h0 a1 "com/example/retinue/retinue/Matching$Pairs" "weight" "[D" (.ref da)) (F240 : Fld Z h0 a1 "com/example/retinue/retinue/Matching$Pairs" "count" "I" (.int (Int32.ofNat n))) (V241 : Dar Z h0 wa .int 16 (fun t => .int ((own_pi w n) t))) (V242 : Dar Z h0 ta .int 16 (fun t => .int ((own_pi y n) t))) (V243 : Dar Z h0 da .double 16 (fun t => .double ((own_pd d n) t))) (g244 : n0 ≤ a1) (g245 : n0 ≤ wa) (g246 : n0 ≤ ta) (g247 : n0 ≤ da) (ne248 : a1 ≠ wa) (ne249 : a1 ≠ ta) (ne250 : a1 ≠ da) (ne251 : wa ≠ ta) (ne252 : wa ≠ da) (ne253 : ta ≠ da) (hn : n < 16) (e1 : q1 = w n) (e2 : q2 = y n) (e3 : q3 = d n) :
    MetFree l (⟨"com/example/retinue/retinue/Matching$Pairs", "add", "(IID)V"⟩ : MethodName) (head1 (Jvm.Cond.code (⟨"com/example/retinue/retinue/Matching$Pairs", "add", "(IID)V"⟩ : MethodName) prog_17_method_2_code 6 none :: ws) ({ frames := 0, cells := 0, slots := 0, locals := 0 } : Room)) (fun a U => a = #[(.ref a1), (.int q1), (.int q2), (.double q3)] ∧ Z.Warmed39 U.vm ∧ U.heap = h0) (fun _ _ _ _ _ => True) (fun _ U o U' => ∃ v L, o = .returned v ∧ Q3 Z a1 q1 q2 q3 wa ta da w y d n h0 n0 v U'.heap L ∧ FrameEnd U o U' L 0 0) := by
  refine MetFree.of_bodySF (plainFor_of_name pn_2) hisR ?_
  intro p e s m args below meth c s₁ Bd hml0 hP hK
  obtain ⟨rfl, hZ, hh⟩ := hP
  have hx := Bd.exec
  have hby := Bd.bytes
  have hml : c.maxLocals = 6 := hml0
  have hown : s.vm.findClass "com/example/retinue/retinue/Matching$Pairs" = some m.cls := findClass_of_methodNamed Bd.named
  have hnm := (name_of_methodNamed Bd.named Bd.method).1
  have X0 : Stand p l e ({ frames := 0, cells := 0, slots := 0, locals := 0 } : Room) s m #[(.ref a1), (.int q1), (.int q2), (.double q3)] below meth c s₁ [] 0 0 := Stand.of_body Bd
  have e0 : s₁.heap = h0 := by rw [← hh, Bd.state]; rfl
  have N0 := Fr.nil n0
  have A0 := (⟨X0, hx, hby⟩ : Ax _ _ _ _ _ _ _ _ _ _ _ _ _ _ _)
  show Go p e below (fun U o => ∃ v L, o = .returned v ∧ Q3 Z a1 q1 q2 q3 wa ta da w y d n h0 n0 v U.heap L ∧ FrameEnd s o U L 0 0) s₁ (entryFrame m #[(.ref a1), (.int q1), (.int q2), (.double q3)] 6)
  refine Go.cast (ef235 m a1 q1 q2 q3 wa ta da w y d n) ?_
  refine g_aloadN A0 d3_0 rfl rfl (pc' := 1) rfl ?_
  obtain ⟨T254, X254, e254, st254⟩ := getF X0 hx hZ hown (host := "") (Or.inl (hw _ (List.mem_of_getElem? (i := 23) rfl))) Via.refl e0 F240 (g := (mkF m 1 #[.val (.ref a1), .val (.int q1), .val (.int q2), .val (.double q3), .second, .unset] [(.ref a1)])) rfl rfl (hb hby d3_1)
  refine Go.of (g' := (mkF m 4 #[.val (.ref a1), .val (.int q1), .val (.int q2), .val (.double q3), .second, .unset] [(.int (Int32.ofNat n))])) st254 ?_
  have A255 := (⟨X254, hx, hby⟩ : Ax _ _ _ _ _ _ _ _ _ _ _ _ _ _ _)
  refine g_aloadN A255 d3_4 rfl rfl (pc' := 5) rfl ?_
  obtain ⟨T256, X256, e256, st256⟩ := getF X254 hx hZ hown (host := "") (Or.inl (hw _ (List.mem_of_getElem? (i := 11) rfl))) Via.refl e254 F237 (g := (mkF m 5 #[.val (.ref a1), .val (.int q1), .val (.int q2), .val (.double q3), .second, .unset] [(.ref a1), (.int (Int32.ofNat n))])) rfl rfl (hb hby d3_5)
  refine Go.of (g' := (mkF m 8 #[.val (.ref a1), .val (.int q1), .val (.int q2), .val (.double q3), .second, .unset] [(.ref wa), (.int (Int32.ofNat n))])) st256 ?_
  have A257 := (⟨X256, hx, hby⟩ : Ax _ _ _ _ _ _ _ _ _ _ _ _ _ _ _)
  refine g_alen A257 hZ e256 V241 d3_8 (z := (16 : Int32)) rfl (pc' := 9) rfl ?_
  refine g_icY A257 d3_9 (c2_ne_t (fun z => absurd (own_oinj (j := 16) (by omega) (by decide) z) (by omega))) (pc' := 59) rfl ?_
  refine g_aloadN A257 d3_59 rfl rfl (pc' := 60) rfl ?_
  obtain ⟨T258, X258, e258, st258⟩ := getF X256 hx hZ hown (host := "") (Or.inl (hw _ (List.mem_of_getElem? (i := 11) rfl))) Via.refl e256 F237 (g := (mkF m 60 #[.val (.ref a1), .val (.int q1), .val (.int q2), .val (.double q3), .second, .unset] [(.ref a1)])) rfl rfl (hb hby d3_60)
  refine Go.of (g' := (mkF m 63 #[.val (.ref a1), .val (.int q1), .val (.int q2), .val (.double q3), .second, .unset] [(.ref wa)])) st258 ?_
  have A259 := (⟨X258, hx, hby⟩ : Ax _ _ _ _ _ _ _ _ _ _ _ _ _ _ _)
  refine g_aloadN A259 d3_63 rfl rfl (pc' := 64) rfl ?_
  obtain ⟨T260, X260, e260, st260⟩ := getF X258 hx hZ hown (host := "") (Or.inl (hw _ (List.mem_of_getElem? (i := 23) rfl))) Via.refl e258 F240 (g := (mkF m 64 #[.val (.ref a1), .val (.int q1), .val (.int q2), .val (.double q3), .second, .unset] [(.ref a1), (.ref wa)])) rfl rfl (hb hby d3_64)
  refine Go.of (g' := (mkF m 67 #[.val (.ref a1), .val (.int q1), .val (.int q2), .val (.double q3), .second, .unset] [(.int (Int32.ofNat n)), (.ref wa)])) st260 ?_
  have A261 := (⟨X260, hx, hby⟩ : Ax _ _ _ _ _ _ _ _ _ _ _ _ _ _ _)
  refine g_iloadN A261 d3_67 rfl (pc' := 68) rfl ?_
  obtain ⟨T262, h262, A262, e262, W262, st262⟩ := s_iastore A261 hZ e260 (ls := #[.val (.ref a1), .val (.int q1), .val (.int q2), .val (.double q3), .second, .unset]) (st := []) (x := q1) V241 (i := n) hn (j := (Int32.ofNat n)) rfl d3_68 (pc' := 69) rfl
  have N263 := Fr.snoc A262.1 N0 g245
  have K264 : Keep h0 h262 [a1, wa, ta, da] := (Keep.refl h0 [a1, wa, ta, da]).wr W262 (Or.inl (List.mem_of_getElem? (i := 1) rfl))
  have E265 : Exa Z h262 a1 "com/example/retinue/retinue/Matching$Pairs" := Exa.wr W262 E236
  have F266 : Fld Z h262 a1 "com/example/retinue/retinue/Matching$Pairs" "worker" "[I" (.ref wa) := Fld.other W262 F237 (Or.inl ne248)
  have F267 : Fld Z h262 a1 "com/example/retinue/retinue/Matching$Pairs" "task" "[I" (.ref ta) := Fld.other W262 F238 (Or.inl ne248)
  have F268 : Fld Z h262 a1 "com/example/retinue/retinue/Matching$Pairs" "weight" "[D" (.ref da) := Fld.other W262 F239 (Or.inl ne248)
  have F269 : Fld Z h262 a1 "com/example/retinue/retinue/Matching$Pairs" "count" "I" (.int (Int32.ofNat n)) := Fld.other W262 F240 (Or.inl ne248)
  have V270 : Dar Z h262 ta .int 16 (fun t => .int ((own_pi y n) t)) := Dar.other W262 V242 (Ne.symm ne251)
  have V271 : Dar Z h262 da .double 16 (fun t => .double ((own_pd d n) t)) := Dar.other W262 V243 (Ne.symm ne252)
  have V272 : Dar Z h262 wa .int 16 (fun t => .int ((own_pi w (n + 1)) t)) := Dar.set V241 W262 (fun t _ => own_piS e1)
  have Z273 : n0 ≤ h262.size := by rw [W262.size]; exact Z0
  refine st262 ?_
  refine g_aloadN A262 d3_69 rfl rfl (pc' := 70) rfl ?_
  obtain ⟨T274, X274, e274, st274⟩ := getF A262.1 hx hZ hown (host := "") (Or.inl (hw _ (List.mem_of_getElem? (i := 13) rfl))) Via.refl e262 F267 (g := (mkF m 70 #[.val (.ref a1), .val (.int q1), .val (.int q2), .val (.double q3), .second, .unset] [(.ref a1)])) rfl rfl (hb hby d3_70)
  refine Go.of (g' := (mkF m 73 #[.val (.ref a1), .val (.int q1), .val (.int q2), .val (.double q3), .second, .unset] [(.ref ta)])) st274 ?_
  have A275 := (⟨X274, hx, hby⟩ : Ax _ _ _ _ _ _ _ _ _ _ _ _ _ _ _)
  refine g_aloadN A275 d3_73 rfl rfl (pc' := 74) rfl ?_
  obtain ⟨T276, X276, e276, st276⟩ := getF X274 hx hZ hown (host := "") (Or.inl (hw _ (List.mem_of_getElem? (i := 23) rfl))) Via.refl e274 F269 (g := (mkF m 74 #[.val (.ref a1), .val (.int q1), .val (.int q2), .val (.double q3), .second, .unset] [(.ref a1), (.ref ta)])) rfl rfl (hb hby d3_74)
  refine Go.of (g' := (mkF m 77 #[.val (.ref a1), .val (.int q1), .val (.int q2), .val (.double q3), .second, .unset] [(.int (Int32.ofNat n)), (.ref ta)])) st276 ?_
  have A277 := (⟨X276, hx, hby⟩ : Ax _ _ _ _ _ _ _ _ _ _ _ _ _ _ _)
  refine g_iloadN A277 d3_77 rfl (pc' := 78) rfl ?_
  obtain ⟨T278, h278, A278, e278, W278, st278⟩ := s_iastore A277 hZ e276 (ls := #[.val (.ref a1), .val (.int q1), .val (.int q2), .val (.double q3), .second, .unset]) (st := []) (x := q2) V270 (i := n) hn (j := (Int32.ofNat n)) rfl d3_78 (pc' := 79) rfl
  have N279 := Fr.snoc A278.1 N263 g246
  have K280 : Keep h0 h278 [a1, wa, ta, da] := K264.wr W278 (Or.inl (List.mem_of_getElem? (i := 2) rfl))
  have E281 : Exa Z h278 a1 "com/example/retinue/retinue/Matching$Pairs" := Exa.wr W278 E265
  have F282 : Fld Z h278 a1 "com/example/retinue/retinue/Matching$Pairs" "worker" "[I" (.ref wa) := Fld.other W278 F266 (Or.inl ne249)
  have F283 : Fld Z h278 a1 "com/example/retinue/retinue/Matching$Pairs" "task" "[I" (.ref ta) := Fld.other W278 F267 (Or.inl ne249)
  have F284 : Fld Z h278 a1 "com/example/retinue/retinue/Matching$Pairs" "weight" "[D" (.ref da) := Fld.other W278 F268 (Or.inl ne249)
  have F285 : Fld Z h278 a1 "com/example/retinue/retinue/Matching$Pairs" "count" "I" (.int (Int32.ofNat n)) := Fld.other W278 F269 (Or.inl ne249)
  have V286 : Dar Z h278 da .double 16 (fun t => .double ((own_pd d n) t)) := Dar.other W278 V271 (Ne.symm ne253)
  have V287 : Dar Z h278 wa .int 16 (fun t => .int ((own_pi w (n + 1)) t)) := Dar.other W278 V272 ne251
  have V288 : Dar Z h278 ta .int 16 (fun t => .int ((own_pi y (n + 1)) t)) := Dar.set V270 W278 (fun t _ => own_piS e2)
  have Z289 : n0 ≤ h278.size := by rw [W278.size]; exact Z273
  refine st278 ?_
  refine g_aloadN A278 d3_79 rfl rfl (pc' := 80) rfl ?_
  obtain ⟨T290, X290, e290, st290⟩ := getF A278.1 hx hZ hown (host := "") (Or.inl (hw _ (List.mem_of_getElem? (i := 16) rfl))) Via.refl e278 F284 (g := (mkF m 80 #[.val (.ref a1), .val (.int q1), .val (.int q2), .val (.double q3), .second, .unset] [(.ref a1)])) rfl rfl (hb hby d3_80)
  refine Go.of (g' := (mkF m 83 #[.val (.ref a1), .val (.int q1), .val (.int q2), .val (.double q3), .second, .unset] [(.ref da)])) st290 ?_
  have A291 := (⟨X290, hx, hby⟩ : Ax _ _ _ _ _ _ _ _ _ _ _ _ _ _ _)
  refine g_aloadN A291 d3_83 rfl rfl (pc' := 84) rfl ?_
  obtain ⟨T292, X292, e292, st292⟩ := getF X290 hx hZ hown (host := "") (Or.inl (hw _ (List.mem_of_getElem? (i := 23) rfl))) Via.refl e290 F285 (g := (mkF m 84 #[.val (.ref a1), .val (.int q1), .val (.int q2), .val (.double q3), .second, .unset] [(.ref a1), (.ref da)])) rfl rfl (hb hby d3_84)
  refine Go.of (g' := (mkF m 87 #[.val (.ref a1), .val (.int q1), .val (.int q2), .val (.double q3), .second, .unset] [(.int (Int32.ofNat n)), (.ref da)])) st292 ?_
  have A293 := (⟨X292, hx, hby⟩ : Ax _ _ _ _ _ _ _ _ _ _ _ _ _ _ _)
  refine g_dloadN A293 d3_87 rfl (pc' := 88) rfl ?_
  obtain ⟨T294, h294, A294, e294, W294, st294⟩ := s_dastore A293 hZ e292 (ls := #[.val (.ref a1), .val (.int q1), .val (.int q2), .val (.double q3), .second, .unset]) (st := []) (x := q3) V286 (i := n) hn (j := (Int32.ofNat n)) rfl d3_88 (pc' := 89) rfl
  have N295 := Fr.snoc A294.1 N279 g247
  have K296 : Keep h0 h294 [a1, wa, ta, da] := K280.wr W294 (Or.inl (List.mem_of_getElem? (i := 3) rfl))
  have E297 : Exa Z h294 a1 "com/example/retinue/retinue/Matching$Pairs" := Exa.wr W294 E281
  have F298 : Fld Z h294 a1 "com/example/retinue/retinue/Matching$Pairs" "worker" "[I" (.ref wa) := Fld.other W294 F282 (Or.inl ne250)
  have F299 : Fld Z h294 a1 "com/example/retinue/retinue/Matching$Pairs" "task" "[I" (.ref ta) := Fld.other W294 F283 (Or.inl ne250)
  have F300 : Fld Z h294 a1 "com/example/retinue/retinue/Matching$Pairs" "weight" "[D" (.ref da) := Fld.other W294 F284 (Or.inl ne250)
  have F301 : Fld Z h294 a1 "com/example/retinue/retinue/Matching$Pairs" "count" "I" (.int (Int32.ofNat n)) := Fld.other W294 F285 (Or.inl ne250)
  have V302 : Dar Z h294 wa .int 16 (fun t => .int ((own_pi w (n + 1)) t)) := Dar.other W294 V287 ne252
  have V303 : Dar Z h294 ta .int 16 (fun t => .int ((own_pi y (n + 1)) t)) := Dar.other W294 V288 ne253
  have V304 : Dar Z h294 da .double 16 (fun t => .double ((own_pd d (n + 1)) t)) := Dar.set V286 W294 (fun t _ => own_pdS e3)
  have Z305 : n0 ≤ h294.size := by rw [W294.size]; exact Z289
  refine st294 ?_
  refine g_aloadN A294 d3_89 rfl rfl (pc' := 90) rfl ?_
  refine g_dup A294 d3_90 rfl (pc' := 91) rfl ?_
  obtain ⟨T306, X306, e306, st306⟩ := getF A294.1 hx hZ hown (host := "") (Or.inl (hw _ (List.mem_of_getElem? (i := 23) rfl))) Via.refl e294 F301 (g := (mkF m 91 #[.val (.ref a1), .val (.int q1), .val (.int q2), .val (.double q3), .second, .unset] [(.ref a1), (.ref a1)])) rfl rfl (hb hby d3_91)
  refine Go.of (g' := (mkF m 94 #[.val (.ref a1), .val (.int q1), .val (.int q2), .val (.double q3), .second, .unset] [(.int (Int32.ofNat n)), (.ref a1)])) st306 ?_
  have A307 := (⟨X306, hx, hby⟩ : Ax _ _ _ _ _ _ _ _ _ _ _ _ _ _ _)
  refine g_iconst A307 d3_94 (v := (1 : Int32)) rfl (pc' := 95) rfl ?_
  refine g_iadd A307 d3_95 (pc' := 96) rfl ?_
  rw [show Int32.ofNat n + (1 : Int32) = Int32.ofNat (n + 1) from own_succ n]
  obtain ⟨T308, h308, X308, e308, W308, st308⟩ := putF X306 hx hZ hown (host := "") (Or.inl (hw _ (List.mem_of_getElem? (i := 23) rfl))) Via.refl e306 F301 E297 (Or.inl (hw _ (List.mem_of_getElem? (i := 24) rfl))) (hw _ (List.mem_of_getElem? (i := 2) rfl)) (ty := .int) (by decide) rfl rfl (g := (mkF m 96 #[.val (.ref a1), .val (.int q1), .val (.int q2), .val (.double q3), .second, .unset] [(.int (Int32.ofNat (n + 1))), (.ref a1)])) rfl rfl (hb hby d3_96)
  have N309 := Fr.snoc X308 N295 g244
  have K310 : Keep h0 h308 [a1, wa, ta, da] := K296.wr W308 (Or.inl (List.mem_of_getElem? (i := 0) rfl))
  have E311 : Exa Z h308 a1 "com/example/retinue/retinue/Matching$Pairs" := Exa.wr W308 E297
  have F312 : Fld Z h308 a1 "com/example/retinue/retinue/Matching$Pairs" "worker" "[I" (.ref wa) := Fld.other W308 F298 (Or.inr (slot_ne (Or.inl (hw _ (List.mem_of_getElem? (i := 12) rfl))) (Or.inl (hw _ (List.mem_of_getElem? (i := 24) rfl))) (by decide) (t := (.array .int)) (t' := .int) (by decide) (by decide)))
  have F313 : Fld Z h308 a1 "com/example/retinue/retinue/Matching$Pairs" "task" "[I" (.ref ta) := Fld.other W308 F299 (Or.inr (slot_ne (Or.inl (hw _ (List.mem_of_getElem? (i := 14) rfl))) (Or.inl (hw _ (List.mem_of_getElem? (i := 24) rfl))) (by decide) (t := (.array .int)) (t' := .int) (by decide) (by decide)))
  have F314 : Fld Z h308 a1 "com/example/retinue/retinue/Matching$Pairs" "weight" "[D" (.ref da) := Fld.other W308 F300 (Or.inr (slot_ne (Or.inl (hw _ (List.mem_of_getElem? (i := 17) rfl))) (Or.inl (hw _ (List.mem_of_getElem? (i := 24) rfl))) (by decide) (t := (.array .double)) (t' := .int) (by decide) (by decide)))
  have V315 : Dar Z h308 wa .int 16 (fun t => .int ((own_pi w (n + 1)) t)) := Dar.other W308 V302 (Ne.symm ne248)
  have V316 : Dar Z h308 ta .int 16 (fun t => .int ((own_pi y (n + 1)) t)) := Dar.other W308 V303 (Ne.symm ne249)
  have V317 : Dar Z h308 da .double 16 (fun t => .double ((own_pd d (n + 1)) t)) := Dar.other W308 V304 (Ne.symm ne250)
  have F318 : Fld Z h308 a1 "com/example/retinue/retinue/Matching$Pairs" "count" "I" (.int (Int32.ofNat (n + 1))) := Fld.same W308 F301
  have Z319 : n0 ≤ h308.size := by rw [W308.size]; exact Z305
  refine Go.of (g' := (mkF m 99 #[.val (.ref a1), .val (.int q1), .val (.int q2), .val (.double q3), .second, .unset] [])) st308 ?_
  have A320 := (⟨X308, hx, hby⟩ : Ax _ _ _ _ _ _ _ _ _ _ _ _ _ _ _)
  exact g_retV (Q := Q3 Z a1 q1 q2 q3 wa ta da w y d n h0 n0) A320 d3_99 Bd.notSynchronized Bd.returns (by decide) (by decide) (by rw [e308]; exact ⟨rfl, N309, K310, F312, F313, F314, F318, V315, V316, V317⟩)
theorem ef321 (m : MethodId) (a1 : Addr) (q1 : Int32) (q2 : Int32) (q3 : UInt64) (wa : Addr) (ta : Addr) (da : Addr) (w : Nat → Int32) (y : Nat → Int32) (d : Nat → UInt64) : entryFrame m #[(.ref a1), (.int q1), (.int q2), (.double q3)] 6 = mkF m 0 #[.val (.ref a1), .val (.int q1), .val (.int q2), .val (.double q3), .second, .unset] [] := by first | (simp [entryFrame, mkF, argsToLocals, Value.category]; done) | rfl
def QG (Z : State) (a1 : Addr) (q1 : Int32) (q2 : Int32) (q3 : UInt64) (wa : Addr) (ta : Addr) (da : Addr) (w : Nat → Int32) (y : Nat → Int32) (d : Nat → UInt64) (h0 : Heap) (n0 : Nat) (v : Option Value) (h : Heap) (L : List Loc) : Prop := ∃ wb : Addr, ∃ tb : Addr, ∃ db : Addr, v = none ∧ Fr n0 L ∧ Keep h0 h [a1] ∧ h0.size ≤ wb ∧ h0.size ≤ tb ∧ h0.size ≤ db ∧ Fld Z h a1 "com/example/retinue/retinue/Matching$Pairs" "worker" "[I" (.ref wb) ∧ Fld Z h a1 "com/example/retinue/retinue/Matching$Pairs" "task" "[I" (.ref tb) ∧ Fld Z h a1 "com/example/retinue/retinue/Matching$Pairs" "weight" "[D" (.ref db) ∧ Fld Z h a1 "com/example/retinue/retinue/Matching$Pairs" "count" "I" (.int (17 : Int32)) ∧ Dar Z h wb .int 32 (fun t => .int ((own_pi w 17) t)) ∧ Dar Z h tb .int 32 (fun t => .int ((own_pi y 17) t)) ∧ Dar Z h db .double 32 (fun t => .double ((own_pd d 17) t)) ∧ wb ≠ tb ∧ wb ≠ db ∧ tb ≠ db
theorem pd_1 : parseMethodDescriptor "([II)[I" = some ⟨[(.array .int), .int], some (.array .int)⟩ := by decide +kernel
theorem pd_2 : parseMethodDescriptor "([DI)[D" = some ⟨[(.array .double), .int], some (.array .double)⟩ := by decide +kernel
set_option maxRecDepth 65536 in
set_option maxHeartbeats 40000000 in
theorem rmG (l : Launch) (Z : State) (a0 : Array Value) (hw : ∀ d ∈ tables_1, d.before a0 Z = true) (ws : List Jvm.Cond) (a1 : Addr) (q1 : Int32) (q2 : Int32) (q3 : UInt64) (wa : Addr) (ta : Addr) (da : Addr) (w : Nat → Int32) (y : Nat → Int32) (d : Nat → UInt64) (h0 : Heap) (n0 : Nat) (Z0 : n0 ≤ h0.size) (E322 : Exa Z h0 a1 "com/example/retinue/retinue/Matching$Pairs") (F323 : Fld Z h0 a1 "com/example/retinue/retinue/Matching$Pairs" "worker" "[I" (.ref wa)) (F324 : Fld Z h0 a1 "com/example/retinue/retinue/Matching$Pairs" "task" "[I" (.ref ta)) (F325 : Fld Z h0 a1 "com/example/retinue/retinue/Matching$Pairs" "weight" "[D" (.ref da)) (F326 : Fld Z h0 a1 "com/example/retinue/retinue/Matching$Pairs" "count" "I" (.int (16 : Int32))) (V327 : Dar Z h0 wa .int 16 (fun t => .int ((own_pi w 16) t))) (V328 : Dar Z h0 ta .int 16 (fun t => .int ((own_pi y 16) t))) (V329 : Dar Z h0 da .double 16 (fun t => .double ((own_pd d 16) t))) (g330 : n0 ≤ a1) (ne331 : a1 ≠ wa) (ne332 : a1 ≠ ta) (ne333 : a1 ≠ da) (ne334 : wa ≠ ta) (ne335 : wa ≠ da) (ne336 : ta ≠ da) (e1 : q1 = w 16) (e2 : q2 = y 16) (e3 : q3 = d 16) :
    MetFree l (⟨"com/example/retinue/retinue/Matching$Pairs", "add", "(IID)V"⟩ : MethodName) (head1 (Jvm.Cond.code (⟨"com/example/retinue/retinue/Matching$Pairs", "add", "(IID)V"⟩ : MethodName) prog_17_method_2_code 6 none :: ws) ({ frames := 2, cells := 3, slots := 96, locals := 33 } : Room)) (fun a U => a = #[(.ref a1), (.int q1), (.int q2), (.double q3)] ∧ Z.Warmed39 U.vm ∧ U.heap = h0) (fun _ _ _ _ _ => True) (fun _ U o U' => ∃ v L, o = .returned v ∧ QG Z a1 q1 q2 q3 wa ta da w y d h0 n0 v U'.heap L ∧ FrameEnd U o U' L 3 96) := by
  refine MetFree.of_bodySF (plainFor_of_name pn_2) hisR ?_
  intro p e s m args below meth c s₁ Bd hml0 hP hK
  obtain ⟨rfl, hZ, hh⟩ := hP
  have hx := Bd.exec
  have hby := Bd.bytes
  have hml : c.maxLocals = 6 := hml0
  have hown : s.vm.findClass "com/example/retinue/retinue/Matching$Pairs" = some m.cls := findClass_of_methodNamed Bd.named
  have hnm := (name_of_methodNamed Bd.named Bd.method).1
  have X0 : Stand p l e ({ frames := 2, cells := 3, slots := 96, locals := 33 } : Room) s m #[(.ref a1), (.int q1), (.int q2), (.double q3)] below meth c s₁ [] 0 0 := Stand.of_body Bd
  have e0 : s₁.heap = h0 := by rw [← hh, Bd.state]; rfl
  have N0 := Fr.nil n0
  have A0 := (⟨X0, hx, hby⟩ : Ax _ _ _ _ _ _ _ _ _ _ _ _ _ _ _)
  show Go p e below (fun U o => ∃ v L, o = .returned v ∧ QG Z a1 q1 q2 q3 wa ta da w y d h0 n0 v U.heap L ∧ FrameEnd s o U L 3 96) s₁ (entryFrame m #[(.ref a1), (.int q1), (.int q2), (.double q3)] 6)
  refine Go.cast (ef321 m a1 q1 q2 q3 wa ta da w y d) ?_
  refine g_aloadN A0 d3_0 rfl rfl (pc' := 1) rfl ?_
  obtain ⟨T337, X337, e337, st337⟩ := getF X0 hx hZ hown (host := "") (Or.inl (hw _ (List.mem_of_getElem? (i := 23) rfl))) Via.refl e0 F326 (g := (mkF m 1 #[.val (.ref a1), .val (.int q1), .val (.int q2), .val (.double q3), .second, .unset] [(.ref a1)])) rfl rfl (hb hby d3_1)
  refine Go.of (g' := (mkF m 4 #[.val (.ref a1), .val (.int q1), .val (.int q2), .val (.double q3), .second, .unset] [(.int (16 : Int32))])) st337 ?_
  have A338 := (⟨X337, hx, hby⟩ : Ax _ _ _ _ _ _ _ _ _ _ _ _ _ _ _)
  refine g_aloadN A338 d3_4 rfl rfl (pc' := 5) rfl ?_
  obtain ⟨T339, X339, e339, st339⟩ := getF X337 hx hZ hown (host := "") (Or.inl (hw _ (List.mem_of_getElem? (i := 11) rfl))) Via.refl e337 F323 (g := (mkF m 5 #[.val (.ref a1), .val (.int q1), .val (.int q2), .val (.double q3), .second, .unset] [(.ref a1), (.int (16 : Int32))])) rfl rfl (hb hby d3_5)
  refine Go.of (g' := (mkF m 8 #[.val (.ref a1), .val (.int q1), .val (.int q2), .val (.double q3), .second, .unset] [(.ref wa), (.int (16 : Int32))])) st339 ?_
  have A340 := (⟨X339, hx, hby⟩ : Ax _ _ _ _ _ _ _ _ _ _ _ _ _ _ _)
  refine g_alen A340 hZ e339 V327 d3_8 (z := (16 : Int32)) rfl (pc' := 9) rfl ?_
  refine g_icN A340 d3_9 (c2_ne_f rfl) (pc' := 12) rfl ?_
  refine g_iconst A340 d3_12 (v := (2 : Int32)) rfl (pc' := 13) rfl ?_
  refine g_aloadN A340 d3_13 rfl rfl (pc' := 14) rfl ?_
  obtain ⟨T341, X341, e341, st341⟩ := getF X339 hx hZ hown (host := "") (Or.inl (hw _ (List.mem_of_getElem? (i := 23) rfl))) Via.refl e339 F326 (g := (mkF m 14 #[.val (.ref a1), .val (.int q1), .val (.int q2), .val (.double q3), .second, .unset] [(.ref a1), (.int (2 : Int32))])) rfl rfl (hb hby d3_14)
  refine Go.of (g' := (mkF m 17 #[.val (.ref a1), .val (.int q1), .val (.int q2), .val (.double q3), .second, .unset] [(.int (16 : Int32)), (.int (2 : Int32))])) st341 ?_
  have A342 := (⟨X341, hx, hby⟩ : Ax _ _ _ _ _ _ _ _ _ _ _ _ _ _ _)
  refine g_imulL A342 d3_17 (z := (32 : Int32)) (by decide) (pc' := 18) rfl ?_
  refine g_istore A342 d3_18 (ls' := #[.val (.ref a1), .val (.int q1), .val (.int q2), .val (.double q3), .second, .val (.int (32 : Int32))]) rfl (pc' := 20) rfl ?_
  refine g_aloadN A342 d3_20 rfl rfl (pc' := 21) rfl ?_
  refine g_aloadN A342 d3_21 rfl rfl (pc' := 22) rfl ?_
  obtain ⟨T343, X343, e343, st343⟩ := getF X341 hx hZ hown (host := "") (Or.inl (hw _ (List.mem_of_getElem? (i := 11) rfl))) Via.refl e341 F323 (g := (mkF m 22 #[.val (.ref a1), .val (.int q1), .val (.int q2), .val (.double q3), .second, .val (.int (32 : Int32))] [(.ref a1), (.ref a1)])) rfl rfl (hb hby d3_22)
  refine Go.of (g' := (mkF m 25 #[.val (.ref a1), .val (.int q1), .val (.int q2), .val (.double q3), .second, .val (.int (32 : Int32))] [(.ref wa), (.ref a1)])) st343 ?_
  have A344 := (⟨X343, hx, hby⟩ : Ax _ _ _ _ _ _ _ _ _ _ _ _ _ _ _)
  refine g_iload A344 d3_25 rfl (pc' := 27) rfl ?_
  obtain ⟨vv345, _, ⟨T345, L345, k345, n345⟩, -, X345, ⟨L345c, hQ345, l345, y345, z345⟩, st345⟩ := Jvm.LawKit.callS X343 hx (y := (⟨"java/util/Arrays", "copyOf", "([II)[I"⟩ : MethodName)) hown (mvT hZ (hw _ (List.mem_of_getElem? (i := 39) rfl))) (mvT hZ (hw _ (List.mem_of_getElem? (i := 40) rfl))) (mvT hZ (hw _ (List.mem_of_getElem? (i := 41) rfl))) (mvT hZ (hw _ (List.mem_of_getElem? (i := 42) rfl))) (by decide) (backOf (W := 1) (rmCI16_32 l Z a0 hw [] wa (own_pi w 16) h0 n0 Z0 V327) hZ (hw _ (List.mem_of_getElem? (i := 42) rfl)) (hw _ (List.mem_of_getElem? (i := 41) rfl)) (by decide) (by decide)) (g := (mkF m 27 #[.val (.ref a1), .val (.int q1), .val (.int q2), .val (.double q3), .second, .val (.int (32 : Int32))] [(.int (32 : Int32)), (.ref wa), (.ref a1)])) rfl (by rw [hml]; rfl) (argsL := [(.ref wa), (.int (32 : Int32))]) (rest := [(.ref a1)]) (lenOf pd_1 rfl) rfl (by show 2 * 0 + _ ≤ _; exact Nat.le_of_eq rfl) (hb hby d3_27) (fun _ _ => ⟨rfl, e343, (by decide : 0 + 1 ≤ _), (by decide : 0 + 32 ≤ _)⟩)
  have hQ345b : QCI16_32 Z wa (own_pi w 16) h0 n0 vv345 T345.heap L345c := hQ345
  clear hQ345
  dsimp only [Pt.U, Pt.locs, Pt.cells, Pt.slots] at X345 l345 y345 z345 st345
  subst y345 z345
  obtain ⟨r346, rfl, Nq347, Kq348, gx349, E350, V351⟩ := hQ345b
  have N352 : Fr n0 L345 := by rw [l345]; exact Fr.app N0 Nq347
  refine Go.of (g' := (mkF m 30 #[.val (.ref a1), .val (.int q1), .val (.int q2), .val (.double q3), .second, .val (.int (32 : Int32))] [(.ref r346), (.ref a1)])) st345 ?_
  have E353 : Exa Z T345.heap a1 "com/example/retinue/retinue/Matching$Pairs" := Exa.keep E322 Kq348
  have F354 : Fld Z T345.heap a1 "com/example/retinue/retinue/Matching$Pairs" "worker" "[I" (.ref wa) := Fld.keep F323 Kq348 nin0
  have F355 : Fld Z T345.heap a1 "com/example/retinue/retinue/Matching$Pairs" "task" "[I" (.ref ta) := Fld.keep F324 Kq348 nin0
  have F356 : Fld Z T345.heap a1 "com/example/retinue/retinue/Matching$Pairs" "weight" "[D" (.ref da) := Fld.keep F325 Kq348 nin0
  have F357 : Fld Z T345.heap a1 "com/example/retinue/retinue/Matching$Pairs" "count" "I" (.int (16 : Int32)) := Fld.keep F326 Kq348 nin0
  have V358 : Dar Z T345.heap wa .int 16 (fun t => .int ((own_pi w 16) t)) := Dar.keep V327 Kq348 nin0
  have V359 : Dar Z T345.heap ta .int 16 (fun t => .int ((own_pi y 16) t)) := Dar.keep V328 Kq348 nin0
  have V360 : Dar Z T345.heap da .double 16 (fun t => .double ((own_pd d 16) t)) := Dar.keep V329 Kq348 nin0
  have Z361 : n0 ≤ T345.heap.size := Nat.le_trans Z0 Kq348.1
  have K362 : Keep h0 T345.heap [a1] := (Keep.refl h0 [a1]).trans Kq348 all0
  have A363 := (⟨X345, hx, hby⟩ : Ax _ _ _ _ _ _ _ _ _ _ _ _ _ _ _)
  have g364 : n0 ≤ r346 := Nat.le_trans Z0 gx349
  have gh365 : h0.size ≤ r346 := Nat.le_trans (Keep.refl h0 [a1]).1 gx349
  have ne366 : a1 ≠ r346 := Nat.ne_of_lt (Nat.lt_of_lt_of_le E322.lt gx349)
  have ne367 : da ≠ r346 := Nat.ne_of_lt (Nat.lt_of_lt_of_le V329.lt gx349)
  have ne368 : ta ≠ r346 := Nat.ne_of_lt (Nat.lt_of_lt_of_le V328.lt gx349)
  have ne369 : wa ≠ r346 := Nat.ne_of_lt (Nat.lt_of_lt_of_le V327.lt gx349)
  obtain ⟨T370, h370, X370, e370, W370, st370⟩ := putF X345 hx hZ hown (host := "") (Or.inl (hw _ (List.mem_of_getElem? (i := 11) rfl))) Via.refl rfl F354 E353 (Or.inl (hw _ (List.mem_of_getElem? (i := 12) rfl))) (hw _ (List.mem_of_getElem? (i := 2) rfl)) (ty := (.array .int)) (by decide) rfl rfl (g := (mkF m 30 #[.val (.ref a1), .val (.int q1), .val (.int q2), .val (.double q3), .second, .val (.int (32 : Int32))] [(.ref r346), (.ref a1)])) rfl rfl (hb hby d3_30)
  have N371 := Fr.snoc X370 N352 g330
  have K372 : Keep h0 h370 [a1] := K362.wr W370 (Or.inl (List.mem_of_getElem? (i := 0) rfl))
  have E373 : Exa Z h370 a1 "com/example/retinue/retinue/Matching$Pairs" := Exa.wr W370 E353
  have F374 : Fld Z h370 a1 "com/example/retinue/retinue/Matching$Pairs" "task" "[I" (.ref ta) := Fld.other W370 F355 (Or.inr (slot_ne (Or.inl (hw _ (List.mem_of_getElem? (i := 14) rfl))) (Or.inl (hw _ (List.mem_of_getElem? (i := 12) rfl))) (by decide) (t := (.array .int)) (t' := (.array .int)) (by decide) (by decide)))
  have F375 : Fld Z h370 a1 "com/example/retinue/retinue/Matching$Pairs" "weight" "[D" (.ref da) := Fld.other W370 F356 (Or.inr (slot_ne (Or.inl (hw _ (List.mem_of_getElem? (i := 17) rfl))) (Or.inl (hw _ (List.mem_of_getElem? (i := 12) rfl))) (by decide) (t := (.array .double)) (t' := (.array .int)) (by decide) (by decide)))
  have F376 : Fld Z h370 a1 "com/example/retinue/retinue/Matching$Pairs" "count" "I" (.int (16 : Int32)) := Fld.other W370 F357 (Or.inr (slot_ne (Or.inl (hw _ (List.mem_of_getElem? (i := 24) rfl))) (Or.inl (hw _ (List.mem_of_getElem? (i := 12) rfl))) (by decide) (t := .int) (t' := (.array .int)) (by decide) (by decide)))
  have V377 : Dar Z h370 wa .int 16 (fun t => .int ((own_pi w 16) t)) := Dar.other W370 V358 (Ne.symm ne331)
  have V378 : Dar Z h370 ta .int 16 (fun t => .int ((own_pi y 16) t)) := Dar.other W370 V359 (Ne.symm ne332)
  have V379 : Dar Z h370 da .double 16 (fun t => .double ((own_pd d 16) t)) := Dar.other W370 V360 (Ne.symm ne333)
  have E380 : Exa Z h370 r346 "[I" := Exa.wr W370 E350
  have V381 : Dar Z h370 r346 .int 32 (fun t => .int ((own_pi (own_pi w 16) 16) t)) := Dar.other W370 V351 (Ne.symm ne366)
  have F382 : Fld Z h370 a1 "com/example/retinue/retinue/Matching$Pairs" "worker" "[I" (.ref r346) := Fld.same W370 F354
  have Z383 : n0 ≤ h370.size := by rw [W370.size]; exact Z361
  refine Go.of (g' := (mkF m 33 #[.val (.ref a1), .val (.int q1), .val (.int q2), .val (.double q3), .second, .val (.int (32 : Int32))] [])) st370 ?_
  have A384 := (⟨X370, hx, hby⟩ : Ax _ _ _ _ _ _ _ _ _ _ _ _ _ _ _)
  have V385 : Dar Z h370 r346 .int 32 (fun t => .int ((own_pi w 16) t)) := Dar.congr V381 (fun t _ => congrArg Value.int (own_piP _ _ _))
  refine g_aloadN A384 d3_33 rfl rfl (pc' := 34) rfl ?_
  refine g_aloadN A384 d3_34 rfl rfl (pc' := 35) rfl ?_
  obtain ⟨T386, X386, e386, st386⟩ := getF X370 hx hZ hown (host := "") (Or.inl (hw _ (List.mem_of_getElem? (i := 13) rfl))) Via.refl e370 F374 (g := (mkF m 35 #[.val (.ref a1), .val (.int q1), .val (.int q2), .val (.double q3), .second, .val (.int (32 : Int32))] [(.ref a1), (.ref a1)])) rfl rfl (hb hby d3_35)
  refine Go.of (g' := (mkF m 38 #[.val (.ref a1), .val (.int q1), .val (.int q2), .val (.double q3), .second, .val (.int (32 : Int32))] [(.ref ta), (.ref a1)])) st386 ?_
  have A387 := (⟨X386, hx, hby⟩ : Ax _ _ _ _ _ _ _ _ _ _ _ _ _ _ _)
  refine g_iload A387 d3_38 rfl (pc' := 40) rfl ?_
  obtain ⟨vv388, _, ⟨T388, L388, k388, n388⟩, -, X388, ⟨L388c, hQ388, l388, y388, z388⟩, st388⟩ := Jvm.LawKit.callS X386 hx (y := (⟨"java/util/Arrays", "copyOf", "([II)[I"⟩ : MethodName)) hown (mvT hZ (hw _ (List.mem_of_getElem? (i := 39) rfl))) (mvT hZ (hw _ (List.mem_of_getElem? (i := 40) rfl))) (mvT hZ (hw _ (List.mem_of_getElem? (i := 41) rfl))) (mvT hZ (hw _ (List.mem_of_getElem? (i := 42) rfl))) (by decide) (backOf (W := 1) (rmCI16_32 l Z a0 hw [] ta (own_pi y 16) h370 n0 Z383 V378) hZ (hw _ (List.mem_of_getElem? (i := 42) rfl)) (hw _ (List.mem_of_getElem? (i := 41) rfl)) (by decide) (by decide)) (g := (mkF m 40 #[.val (.ref a1), .val (.int q1), .val (.int q2), .val (.double q3), .second, .val (.int (32 : Int32))] [(.int (32 : Int32)), (.ref ta), (.ref a1)])) rfl (by rw [hml]; rfl) (argsL := [(.ref ta), (.int (32 : Int32))]) (rest := [(.ref a1)]) (lenOf pd_1 rfl) rfl (by show 2 * 0 + _ ≤ _; exact Nat.le_of_eq rfl) (hb hby d3_40) (fun _ _ => ⟨rfl, e386, (by decide : 1 + 1 ≤ _), (by decide : 32 + 32 ≤ _)⟩)
  have hQ388b : QCI16_32 Z ta (own_pi y 16) h370 n0 vv388 T388.heap L388c := hQ388
  clear hQ388
  dsimp only [Pt.U, Pt.locs, Pt.cells, Pt.slots] at X388 l388 y388 z388 st388
  subst y388 z388
  obtain ⟨r389, rfl, Nq390, Kq391, gx392, E393, V394⟩ := hQ388b
  have N395 : Fr n0 L388 := by rw [l388]; exact Fr.app N371 Nq390
  refine Go.of (g' := (mkF m 43 #[.val (.ref a1), .val (.int q1), .val (.int q2), .val (.double q3), .second, .val (.int (32 : Int32))] [(.ref r389), (.ref a1)])) st388 ?_
  have E396 : Exa Z T388.heap a1 "com/example/retinue/retinue/Matching$Pairs" := Exa.keep E373 Kq391
  have F397 : Fld Z T388.heap a1 "com/example/retinue/retinue/Matching$Pairs" "task" "[I" (.ref ta) := Fld.keep F374 Kq391 nin0
  have F398 : Fld Z T388.heap a1 "com/example/retinue/retinue/Matching$Pairs" "weight" "[D" (.ref da) := Fld.keep F375 Kq391 nin0
  have F399 : Fld Z T388.heap a1 "com/example/retinue/retinue/Matching$Pairs" "count" "I" (.int (16 : Int32)) := Fld.keep F376 Kq391 nin0
  have V400 : Dar Z T388.heap wa .int 16 (fun t => .int ((own_pi w 16) t)) := Dar.keep V377 Kq391 nin0
  have V401 : Dar Z T388.heap ta .int 16 (fun t => .int ((own_pi y 16) t)) := Dar.keep V378 Kq391 nin0
  have V402 : Dar Z T388.heap da .double 16 (fun t => .double ((own_pd d 16) t)) := Dar.keep V379 Kq391 nin0
  have E403 : Exa Z T388.heap r346 "[I" := Exa.keep E380 Kq391
  have V404 : Dar Z T388.heap r346 .int 32 (fun t => .int ((own_pi w 16) t)) := Dar.keep V385 Kq391 nin0
  have F405 : Fld Z T388.heap a1 "com/example/retinue/retinue/Matching$Pairs" "worker" "[I" (.ref r346) := Fld.keep F382 Kq391 nin0
  have Z406 : n0 ≤ T388.heap.size := Nat.le_trans Z383 Kq391.1
  have K407 : Keep h0 T388.heap [a1] := K372.trans Kq391 all0
  have A408 := (⟨X388, hx, hby⟩ : Ax _ _ _ _ _ _ _ _ _ _ _ _ _ _ _)
  have g409 : n0 ≤ r389 := Nat.le_trans Z383 gx392
  have gh410 : h0.size ≤ r389 := Nat.le_trans K372.1 gx392
  have ne411 : a1 ≠ r389 := Nat.ne_of_lt (Nat.lt_of_lt_of_le E373.lt gx392)
  have ne412 : da ≠ r389 := Nat.ne_of_lt (Nat.lt_of_lt_of_le V379.lt gx392)
  have ne413 : r346 ≠ r389 := Nat.ne_of_lt (Nat.lt_of_lt_of_le E380.lt gx392)
  have ne414 : ta ≠ r389 := Nat.ne_of_lt (Nat.lt_of_lt_of_le V378.lt gx392)
  have ne415 : wa ≠ r389 := Nat.ne_of_lt (Nat.lt_of_lt_of_le V377.lt gx392)
  obtain ⟨T416, h416, X416, e416, W416, st416⟩ := putF X388 hx hZ hown (host := "") (Or.inl (hw _ (List.mem_of_getElem? (i := 13) rfl))) Via.refl rfl F397 E396 (Or.inl (hw _ (List.mem_of_getElem? (i := 14) rfl))) (hw _ (List.mem_of_getElem? (i := 2) rfl)) (ty := (.array .int)) (by decide) rfl rfl (g := (mkF m 43 #[.val (.ref a1), .val (.int q1), .val (.int q2), .val (.double q3), .second, .val (.int (32 : Int32))] [(.ref r389), (.ref a1)])) rfl rfl (hb hby d3_43)
  have N417 := Fr.snoc X416 N395 g330
  have K418 : Keep h0 h416 [a1] := K407.wr W416 (Or.inl (List.mem_of_getElem? (i := 0) rfl))
  have E419 : Exa Z h416 a1 "com/example/retinue/retinue/Matching$Pairs" := Exa.wr W416 E396
  have F420 : Fld Z h416 a1 "com/example/retinue/retinue/Matching$Pairs" "weight" "[D" (.ref da) := Fld.other W416 F398 (Or.inr (slot_ne (Or.inl (hw _ (List.mem_of_getElem? (i := 17) rfl))) (Or.inl (hw _ (List.mem_of_getElem? (i := 14) rfl))) (by decide) (t := (.array .double)) (t' := (.array .int)) (by decide) (by decide)))
  have F421 : Fld Z h416 a1 "com/example/retinue/retinue/Matching$Pairs" "count" "I" (.int (16 : Int32)) := Fld.other W416 F399 (Or.inr (slot_ne (Or.inl (hw _ (List.mem_of_getElem? (i := 24) rfl))) (Or.inl (hw _ (List.mem_of_getElem? (i := 14) rfl))) (by decide) (t := .int) (t' := (.array .int)) (by decide) (by decide)))
  have V422 : Dar Z h416 wa .int 16 (fun t => .int ((own_pi w 16) t)) := Dar.other W416 V400 (Ne.symm ne331)
  have V423 : Dar Z h416 ta .int 16 (fun t => .int ((own_pi y 16) t)) := Dar.other W416 V401 (Ne.symm ne332)
  have V424 : Dar Z h416 da .double 16 (fun t => .double ((own_pd d 16) t)) := Dar.other W416 V402 (Ne.symm ne333)
  have E425 : Exa Z h416 r346 "[I" := Exa.wr W416 E403
  have V426 : Dar Z h416 r346 .int 32 (fun t => .int ((own_pi w 16) t)) := Dar.other W416 V404 (Ne.symm ne366)
  have F427 : Fld Z h416 a1 "com/example/retinue/retinue/Matching$Pairs" "worker" "[I" (.ref r346) := Fld.other W416 F405 (Or.inr (slot_ne (Or.inl (hw _ (List.mem_of_getElem? (i := 12) rfl))) (Or.inl (hw _ (List.mem_of_getElem? (i := 14) rfl))) (by decide) (t := (.array .int)) (t' := (.array .int)) (by decide) (by decide)))
  have E428 : Exa Z h416 r389 "[I" := Exa.wr W416 E393
  have V429 : Dar Z h416 r389 .int 32 (fun t => .int ((own_pi (own_pi y 16) 16) t)) := Dar.other W416 V394 (Ne.symm ne411)
  have F430 : Fld Z h416 a1 "com/example/retinue/retinue/Matching$Pairs" "task" "[I" (.ref r389) := Fld.same W416 F397
  have Z431 : n0 ≤ h416.size := by rw [W416.size]; exact Z406
  refine Go.of (g' := (mkF m 46 #[.val (.ref a1), .val (.int q1), .val (.int q2), .val (.double q3), .second, .val (.int (32 : Int32))] [])) st416 ?_
  have A432 := (⟨X416, hx, hby⟩ : Ax _ _ _ _ _ _ _ _ _ _ _ _ _ _ _)
  have V433 : Dar Z h416 r389 .int 32 (fun t => .int ((own_pi y 16) t)) := Dar.congr V429 (fun t _ => congrArg Value.int (own_piP _ _ _))
  refine g_aloadN A432 d3_46 rfl rfl (pc' := 47) rfl ?_
  refine g_aloadN A432 d3_47 rfl rfl (pc' := 48) rfl ?_
  obtain ⟨T434, X434, e434, st434⟩ := getF X416 hx hZ hown (host := "") (Or.inl (hw _ (List.mem_of_getElem? (i := 16) rfl))) Via.refl e416 F420 (g := (mkF m 48 #[.val (.ref a1), .val (.int q1), .val (.int q2), .val (.double q3), .second, .val (.int (32 : Int32))] [(.ref a1), (.ref a1)])) rfl rfl (hb hby d3_48)
  refine Go.of (g' := (mkF m 51 #[.val (.ref a1), .val (.int q1), .val (.int q2), .val (.double q3), .second, .val (.int (32 : Int32))] [(.ref da), (.ref a1)])) st434 ?_
  have A435 := (⟨X434, hx, hby⟩ : Ax _ _ _ _ _ _ _ _ _ _ _ _ _ _ _)
  refine g_iload A435 d3_51 rfl (pc' := 53) rfl ?_
  obtain ⟨vv436, _, ⟨T436, L436, k436, n436⟩, -, X436, ⟨L436c, hQ436, l436, y436, z436⟩, st436⟩ := Jvm.LawKit.callS X434 hx (y := (⟨"java/util/Arrays", "copyOf", "([DI)[D"⟩ : MethodName)) hown (mvT hZ (hw _ (List.mem_of_getElem? (i := 51) rfl))) (mvT hZ (hw _ (List.mem_of_getElem? (i := 52) rfl))) (mvT hZ (hw _ (List.mem_of_getElem? (i := 41) rfl))) (mvT hZ (hw _ (List.mem_of_getElem? (i := 53) rfl))) (by decide) (backOf (W := 1) (rmCD16_32 l Z a0 hw [] da (own_pd d 16) h416 n0 Z431 V424) hZ (hw _ (List.mem_of_getElem? (i := 53) rfl)) (hw _ (List.mem_of_getElem? (i := 41) rfl)) (by decide) (by decide)) (g := (mkF m 53 #[.val (.ref a1), .val (.int q1), .val (.int q2), .val (.double q3), .second, .val (.int (32 : Int32))] [(.int (32 : Int32)), (.ref da), (.ref a1)])) rfl (by rw [hml]; rfl) (argsL := [(.ref da), (.int (32 : Int32))]) (rest := [(.ref a1)]) (lenOf pd_2 rfl) rfl (by show 2 * 0 + _ ≤ _; exact Nat.le_of_eq rfl) (hb hby d3_53) (fun _ _ => ⟨rfl, e434, (by decide : 2 + 1 ≤ _), (by decide : 64 + 32 ≤ _)⟩)
  have hQ436b : QCD16_32 Z da (own_pd d 16) h416 n0 vv436 T436.heap L436c := hQ436
  clear hQ436
  dsimp only [Pt.U, Pt.locs, Pt.cells, Pt.slots] at X436 l436 y436 z436 st436
  subst y436 z436
  obtain ⟨r437, rfl, Nq438, Kq439, gx440, E441, V442⟩ := hQ436b
  have N443 : Fr n0 L436 := by rw [l436]; exact Fr.app N417 Nq438
  refine Go.of (g' := (mkF m 56 #[.val (.ref a1), .val (.int q1), .val (.int q2), .val (.double q3), .second, .val (.int (32 : Int32))] [(.ref r437), (.ref a1)])) st436 ?_
  have E444 : Exa Z T436.heap a1 "com/example/retinue/retinue/Matching$Pairs" := Exa.keep E419 Kq439
  have F445 : Fld Z T436.heap a1 "com/example/retinue/retinue/Matching$Pairs" "weight" "[D" (.ref da) := Fld.keep F420 Kq439 nin0
  have F446 : Fld Z T436.heap a1 "com/example/retinue/retinue/Matching$Pairs" "count" "I" (.int (16 : Int32)) := Fld.keep F421 Kq439 nin0
  have V447 : Dar Z T436.heap wa .int 16 (fun t => .int ((own_pi w 16) t)) := Dar.keep V422 Kq439 nin0
  have V448 : Dar Z T436.heap ta .int 16 (fun t => .int ((own_pi y 16) t)) := Dar.keep V423 Kq439 nin0
  have V449 : Dar Z T436.heap da .double 16 (fun t => .double ((own_pd d 16) t)) := Dar.keep V424 Kq439 nin0
  have E450 : Exa Z T436.heap r346 "[I" := Exa.keep E425 Kq439
  have V451 : Dar Z T436.heap r346 .int 32 (fun t => .int ((own_pi w 16) t)) := Dar.keep V426 Kq439 nin0
  have F452 : Fld Z T436.heap a1 "com/example/retinue/retinue/Matching$Pairs" "worker" "[I" (.ref r346) := Fld.keep F427 Kq439 nin0
  have E453 : Exa Z T436.heap r389 "[I" := Exa.keep E428 Kq439
  have V454 : Dar Z T436.heap r389 .int 32 (fun t => .int ((own_pi y 16) t)) := Dar.keep V433 Kq439 nin0
  have F455 : Fld Z T436.heap a1 "com/example/retinue/retinue/Matching$Pairs" "task" "[I" (.ref r389) := Fld.keep F430 Kq439 nin0
  have Z456 : n0 ≤ T436.heap.size := Nat.le_trans Z431 Kq439.1
  have K457 : Keep h0 T436.heap [a1] := K418.trans Kq439 all0
  have A458 := (⟨X436, hx, hby⟩ : Ax _ _ _ _ _ _ _ _ _ _ _ _ _ _ _)
  have g459 : n0 ≤ r437 := Nat.le_trans Z431 gx440
  have gh460 : h0.size ≤ r437 := Nat.le_trans K418.1 gx440
  have ne461 : a1 ≠ r437 := Nat.ne_of_lt (Nat.lt_of_lt_of_le E419.lt gx440)
  have ne462 : da ≠ r437 := Nat.ne_of_lt (Nat.lt_of_lt_of_le V424.lt gx440)
  have ne463 : r346 ≠ r437 := Nat.ne_of_lt (Nat.lt_of_lt_of_le E425.lt gx440)
  have ne464 : r389 ≠ r437 := Nat.ne_of_lt (Nat.lt_of_lt_of_le E428.lt gx440)
  have ne465 : ta ≠ r437 := Nat.ne_of_lt (Nat.lt_of_lt_of_le V423.lt gx440)
  have ne466 : wa ≠ r437 := Nat.ne_of_lt (Nat.lt_of_lt_of_le V422.lt gx440)
  obtain ⟨T467, h467, X467, e467, W467, st467⟩ := putF X436 hx hZ hown (host := "") (Or.inl (hw _ (List.mem_of_getElem? (i := 16) rfl))) Via.refl rfl F445 E444 (Or.inl (hw _ (List.mem_of_getElem? (i := 17) rfl))) (hw _ (List.mem_of_getElem? (i := 2) rfl)) (ty := (.array .double)) (by decide) rfl rfl (g := (mkF m 56 #[.val (.ref a1), .val (.int q1), .val (.int q2), .val (.double q3), .second, .val (.int (32 : Int32))] [(.ref r437), (.ref a1)])) rfl rfl (hb hby d3_56)
  have N468 := Fr.snoc X467 N443 g330
  have K469 : Keep h0 h467 [a1] := K457.wr W467 (Or.inl (List.mem_of_getElem? (i := 0) rfl))
  have E470 : Exa Z h467 a1 "com/example/retinue/retinue/Matching$Pairs" := Exa.wr W467 E444
  have F471 : Fld Z h467 a1 "com/example/retinue/retinue/Matching$Pairs" "count" "I" (.int (16 : Int32)) := Fld.other W467 F446 (Or.inr (slot_ne (Or.inl (hw _ (List.mem_of_getElem? (i := 24) rfl))) (Or.inl (hw _ (List.mem_of_getElem? (i := 17) rfl))) (by decide) (t := .int) (t' := (.array .double)) (by decide) (by decide)))
  have V472 : Dar Z h467 wa .int 16 (fun t => .int ((own_pi w 16) t)) := Dar.other W467 V447 (Ne.symm ne331)
  have V473 : Dar Z h467 ta .int 16 (fun t => .int ((own_pi y 16) t)) := Dar.other W467 V448 (Ne.symm ne332)
  have V474 : Dar Z h467 da .double 16 (fun t => .double ((own_pd d 16) t)) := Dar.other W467 V449 (Ne.symm ne333)
  have E475 : Exa Z h467 r346 "[I" := Exa.wr W467 E450
  have V476 : Dar Z h467 r346 .int 32 (fun t => .int ((own_pi w 16) t)) := Dar.other W467 V451 (Ne.symm ne366)
  have F477 : Fld Z h467 a1 "com/example/retinue/retinue/Matching$Pairs" "worker" "[I" (.ref r346) := Fld.other W467 F452 (Or.inr (slot_ne (Or.inl (hw _ (List.mem_of_getElem? (i := 12) rfl))) (Or.inl (hw _ (List.mem_of_getElem? (i := 17) rfl))) (by decide) (t := (.array .int)) (t' := (.array .double)) (by decide) (by decide)))
  have E478 : Exa Z h467 r389 "[I" := Exa.wr W467 E453
  have V479 : Dar Z h467 r389 .int 32 (fun t => .int ((own_pi y 16) t)) := Dar.other W467 V454 (Ne.symm ne411)
  have F480 : Fld Z h467 a1 "com/example/retinue/retinue/Matching$Pairs" "task" "[I" (.ref r389) := Fld.other W467 F455 (Or.inr (slot_ne (Or.inl (hw _ (List.mem_of_getElem? (i := 14) rfl))) (Or.inl (hw _ (List.mem_of_getElem? (i := 17) rfl))) (by decide) (t := (.array .int)) (t' := (.array .double)) (by decide) (by decide)))
  have E481 : Exa Z h467 r437 "[D" := Exa.wr W467 E441
  have V482 : Dar Z h467 r437 .double 32 (fun t => .double ((own_pd (own_pd d 16) 16) t)) := Dar.other W467 V442 (Ne.symm ne461)
  have F483 : Fld Z h467 a1 "com/example/retinue/retinue/Matching$Pairs" "weight" "[D" (.ref r437) := Fld.same W467 F445
  have Z484 : n0 ≤ h467.size := by rw [W467.size]; exact Z456
  refine Go.of (g' := (mkF m 59 #[.val (.ref a1), .val (.int q1), .val (.int q2), .val (.double q3), .second, .val (.int (32 : Int32))] [])) st467 ?_
  have A485 := (⟨X467, hx, hby⟩ : Ax _ _ _ _ _ _ _ _ _ _ _ _ _ _ _)
  have V486 : Dar Z h467 r437 .double 32 (fun t => .double ((own_pd d 16) t)) := Dar.congr V482 (fun t _ => congrArg Value.double (own_pdP _ _ _))
  refine g_aloadN A485 d3_59 rfl rfl (pc' := 60) rfl ?_
  obtain ⟨T487, X487, e487, st487⟩ := getF X467 hx hZ hown (host := "") (Or.inl (hw _ (List.mem_of_getElem? (i := 11) rfl))) Via.refl e467 F477 (g := (mkF m 60 #[.val (.ref a1), .val (.int q1), .val (.int q2), .val (.double q3), .second, .val (.int (32 : Int32))] [(.ref a1)])) rfl rfl (hb hby d3_60)
  refine Go.of (g' := (mkF m 63 #[.val (.ref a1), .val (.int q1), .val (.int q2), .val (.double q3), .second, .val (.int (32 : Int32))] [(.ref r346)])) st487 ?_
  have A488 := (⟨X487, hx, hby⟩ : Ax _ _ _ _ _ _ _ _ _ _ _ _ _ _ _)
  refine g_aloadN A488 d3_63 rfl rfl (pc' := 64) rfl ?_
  obtain ⟨T489, X489, e489, st489⟩ := getF X487 hx hZ hown (host := "") (Or.inl (hw _ (List.mem_of_getElem? (i := 23) rfl))) Via.refl e487 F471 (g := (mkF m 64 #[.val (.ref a1), .val (.int q1), .val (.int q2), .val (.double q3), .second, .val (.int (32 : Int32))] [(.ref a1), (.ref r346)])) rfl rfl (hb hby d3_64)
  refine Go.of (g' := (mkF m 67 #[.val (.ref a1), .val (.int q1), .val (.int q2), .val (.double q3), .second, .val (.int (32 : Int32))] [(.int (16 : Int32)), (.ref r346)])) st489 ?_
  have A490 := (⟨X489, hx, hby⟩ : Ax _ _ _ _ _ _ _ _ _ _ _ _ _ _ _)
  refine g_iloadN A490 d3_67 rfl (pc' := 68) rfl ?_
  obtain ⟨T491, h491, A491, e491, W491, st491⟩ := s_iastore A490 hZ e489 (ls := #[.val (.ref a1), .val (.int q1), .val (.int q2), .val (.double q3), .second, .val (.int (32 : Int32))]) (st := []) (x := q1) V476 (i := 16) (by decide) (j := (16 : Int32)) rfl d3_68 (pc' := 69) rfl
  have N492 := Fr.snoc A491.1 N468 g364
  have K493 : Keep h0 h491 [a1] := K469.wr W491 (Or.inr gh365)
  have E494 : Exa Z h491 a1 "com/example/retinue/retinue/Matching$Pairs" := Exa.wr W491 E470
  have F495 : Fld Z h491 a1 "com/example/retinue/retinue/Matching$Pairs" "count" "I" (.int (16 : Int32)) := Fld.other W491 F471 (Or.inl ne366)
  have V496 : Dar Z h491 wa .int 16 (fun t => .int ((own_pi w 16) t)) := Dar.other W491 V472 ne369
  have V497 : Dar Z h491 ta .int 16 (fun t => .int ((own_pi y 16) t)) := Dar.other W491 V473 ne368
  have V498 : Dar Z h491 da .double 16 (fun t => .double ((own_pd d 16) t)) := Dar.other W491 V474 ne367
  have E499 : Exa Z h491 r346 "[I" := Exa.wr W491 E475
  have F500 : Fld Z h491 a1 "com/example/retinue/retinue/Matching$Pairs" "worker" "[I" (.ref r346) := Fld.other W491 F477 (Or.inl ne366)
  have E501 : Exa Z h491 r389 "[I" := Exa.wr W491 E478
  have V502 : Dar Z h491 r389 .int 32 (fun t => .int ((own_pi y 16) t)) := Dar.other W491 V479 (Ne.symm ne413)
  have F503 : Fld Z h491 a1 "com/example/retinue/retinue/Matching$Pairs" "task" "[I" (.ref r389) := Fld.other W491 F480 (Or.inl ne366)
  have E504 : Exa Z h491 r437 "[D" := Exa.wr W491 E481
  have V505 : Dar Z h491 r437 .double 32 (fun t => .double ((own_pd d 16) t)) := Dar.other W491 V486 (Ne.symm ne463)
  have F506 : Fld Z h491 a1 "com/example/retinue/retinue/Matching$Pairs" "weight" "[D" (.ref r437) := Fld.other W491 F483 (Or.inl ne366)
  have V507 : Dar Z h491 r346 .int 32 (fun t => .int ((own_pi w (16 + 1)) t)) := Dar.set V476 W491 (fun t _ => own_piS e1)
  have Z508 : n0 ≤ h491.size := by rw [W491.size]; exact Z484
  refine st491 ?_
  refine g_aloadN A491 d3_69 rfl rfl (pc' := 70) rfl ?_
  obtain ⟨T509, X509, e509, st509⟩ := getF A491.1 hx hZ hown (host := "") (Or.inl (hw _ (List.mem_of_getElem? (i := 13) rfl))) Via.refl e491 F503 (g := (mkF m 70 #[.val (.ref a1), .val (.int q1), .val (.int q2), .val (.double q3), .second, .val (.int (32 : Int32))] [(.ref a1)])) rfl rfl (hb hby d3_70)
  refine Go.of (g' := (mkF m 73 #[.val (.ref a1), .val (.int q1), .val (.int q2), .val (.double q3), .second, .val (.int (32 : Int32))] [(.ref r389)])) st509 ?_
  have A510 := (⟨X509, hx, hby⟩ : Ax _ _ _ _ _ _ _ _ _ _ _ _ _ _ _)
  refine g_aloadN A510 d3_73 rfl rfl (pc' := 74) rfl ?_
  obtain ⟨T511, X511, e511, st511⟩ := getF X509 hx hZ hown (host := "") (Or.inl (hw _ (List.mem_of_getElem? (i := 23) rfl))) Via.refl e509 F495 (g := (mkF m 74 #[.val (.ref a1), .val (.int q1), .val (.int q2), .val (.double q3), .second, .val (.int (32 : Int32))] [(.ref a1), (.ref r389)])) rfl rfl (hb hby d3_74)
  refine Go.of (g' := (mkF m 77 #[.val (.ref a1), .val (.int q1), .val (.int q2), .val (.double q3), .second, .val (.int (32 : Int32))] [(.int (16 : Int32)), (.ref r389)])) st511 ?_
  have A512 := (⟨X511, hx, hby⟩ : Ax _ _ _ _ _ _ _ _ _ _ _ _ _ _ _)
  refine g_iloadN A512 d3_77 rfl (pc' := 78) rfl ?_
  obtain ⟨T513, h513, A513, e513, W513, st513⟩ := s_iastore A512 hZ e511 (ls := #[.val (.ref a1), .val (.int q1), .val (.int q2), .val (.double q3), .second, .val (.int (32 : Int32))]) (st := []) (x := q2) V502 (i := 16) (by decide) (j := (16 : Int32)) rfl d3_78 (pc' := 79) rfl
  have N514 := Fr.snoc A513.1 N492 g409
  have K515 : Keep h0 h513 [a1] := K493.wr W513 (Or.inr gh410)
  have E516 : Exa Z h513 a1 "com/example/retinue/retinue/Matching$Pairs" := Exa.wr W513 E494
  have F517 : Fld Z h513 a1 "com/example/retinue/retinue/Matching$Pairs" "count" "I" (.int (16 : Int32)) := Fld.other W513 F495 (Or.inl ne411)
  have V518 : Dar Z h513 wa .int 16 (fun t => .int ((own_pi w 16) t)) := Dar.other W513 V496 ne415
  have V519 : Dar Z h513 ta .int 16 (fun t => .int ((own_pi y 16) t)) := Dar.other W513 V497 ne414
  have V520 : Dar Z h513 da .double 16 (fun t => .double ((own_pd d 16) t)) := Dar.other W513 V498 ne412
  have E521 : Exa Z h513 r346 "[I" := Exa.wr W513 E499
  have F522 : Fld Z h513 a1 "com/example/retinue/retinue/Matching$Pairs" "worker" "[I" (.ref r346) := Fld.other W513 F500 (Or.inl ne411)
  have E523 : Exa Z h513 r389 "[I" := Exa.wr W513 E501
  have F524 : Fld Z h513 a1 "com/example/retinue/retinue/Matching$Pairs" "task" "[I" (.ref r389) := Fld.other W513 F503 (Or.inl ne411)
  have E525 : Exa Z h513 r437 "[D" := Exa.wr W513 E504
  have V526 : Dar Z h513 r437 .double 32 (fun t => .double ((own_pd d 16) t)) := Dar.other W513 V505 (Ne.symm ne464)
  have F527 : Fld Z h513 a1 "com/example/retinue/retinue/Matching$Pairs" "weight" "[D" (.ref r437) := Fld.other W513 F506 (Or.inl ne411)
  have V528 : Dar Z h513 r346 .int 32 (fun t => .int ((own_pi w (16 + 1)) t)) := Dar.other W513 V507 ne413
  have V529 : Dar Z h513 r389 .int 32 (fun t => .int ((own_pi y (16 + 1)) t)) := Dar.set V502 W513 (fun t _ => own_piS e2)
  have Z530 : n0 ≤ h513.size := by rw [W513.size]; exact Z508
  refine st513 ?_
  refine g_aloadN A513 d3_79 rfl rfl (pc' := 80) rfl ?_
  obtain ⟨T531, X531, e531, st531⟩ := getF A513.1 hx hZ hown (host := "") (Or.inl (hw _ (List.mem_of_getElem? (i := 16) rfl))) Via.refl e513 F527 (g := (mkF m 80 #[.val (.ref a1), .val (.int q1), .val (.int q2), .val (.double q3), .second, .val (.int (32 : Int32))] [(.ref a1)])) rfl rfl (hb hby d3_80)
  refine Go.of (g' := (mkF m 83 #[.val (.ref a1), .val (.int q1), .val (.int q2), .val (.double q3), .second, .val (.int (32 : Int32))] [(.ref r437)])) st531 ?_
  have A532 := (⟨X531, hx, hby⟩ : Ax _ _ _ _ _ _ _ _ _ _ _ _ _ _ _)
  refine g_aloadN A532 d3_83 rfl rfl (pc' := 84) rfl ?_
  obtain ⟨T533, X533, e533, st533⟩ := getF X531 hx hZ hown (host := "") (Or.inl (hw _ (List.mem_of_getElem? (i := 23) rfl))) Via.refl e531 F517 (g := (mkF m 84 #[.val (.ref a1), .val (.int q1), .val (.int q2), .val (.double q3), .second, .val (.int (32 : Int32))] [(.ref a1), (.ref r437)])) rfl rfl (hb hby d3_84)
  refine Go.of (g' := (mkF m 87 #[.val (.ref a1), .val (.int q1), .val (.int q2), .val (.double q3), .second, .val (.int (32 : Int32))] [(.int (16 : Int32)), (.ref r437)])) st533 ?_
  have A534 := (⟨X533, hx, hby⟩ : Ax _ _ _ _ _ _ _ _ _ _ _ _ _ _ _)
  refine g_dloadN A534 d3_87 rfl (pc' := 88) rfl ?_
  obtain ⟨T535, h535, A535, e535, W535, st535⟩ := s_dastore A534 hZ e533 (ls := #[.val (.ref a1), .val (.int q1), .val (.int q2), .val (.double q3), .second, .val (.int (32 : Int32))]) (st := []) (x := q3) V526 (i := 16) (by decide) (j := (16 : Int32)) rfl d3_88 (pc' := 89) rfl
  have N536 := Fr.snoc A535.1 N514 g459
  have K537 : Keep h0 h535 [a1] := K515.wr W535 (Or.inr gh460)
  have E538 : Exa Z h535 a1 "com/example/retinue/retinue/Matching$Pairs" := Exa.wr W535 E516
  have F539 : Fld Z h535 a1 "com/example/retinue/retinue/Matching$Pairs" "count" "I" (.int (16 : Int32)) := Fld.other W535 F517 (Or.inl ne461)
  have V540 : Dar Z h535 wa .int 16 (fun t => .int ((own_pi w 16) t)) := Dar.other W535 V518 ne466
  have V541 : Dar Z h535 ta .int 16 (fun t => .int ((own_pi y 16) t)) := Dar.other W535 V519 ne465
  have V542 : Dar Z h535 da .double 16 (fun t => .double ((own_pd d 16) t)) := Dar.other W535 V520 ne462
  have E543 : Exa Z h535 r346 "[I" := Exa.wr W535 E521
  have F544 : Fld Z h535 a1 "com/example/retinue/retinue/Matching$Pairs" "worker" "[I" (.ref r346) := Fld.other W535 F522 (Or.inl ne461)
  have E545 : Exa Z h535 r389 "[I" := Exa.wr W535 E523
  have F546 : Fld Z h535 a1 "com/example/retinue/retinue/Matching$Pairs" "task" "[I" (.ref r389) := Fld.other W535 F524 (Or.inl ne461)
  have E547 : Exa Z h535 r437 "[D" := Exa.wr W535 E525
  have F548 : Fld Z h535 a1 "com/example/retinue/retinue/Matching$Pairs" "weight" "[D" (.ref r437) := Fld.other W535 F527 (Or.inl ne461)
  have V549 : Dar Z h535 r346 .int 32 (fun t => .int ((own_pi w (16 + 1)) t)) := Dar.other W535 V528 ne463
  have V550 : Dar Z h535 r389 .int 32 (fun t => .int ((own_pi y (16 + 1)) t)) := Dar.other W535 V529 ne464
  have V551 : Dar Z h535 r437 .double 32 (fun t => .double ((own_pd d (16 + 1)) t)) := Dar.set V526 W535 (fun t _ => own_pdS e3)
  have Z552 : n0 ≤ h535.size := by rw [W535.size]; exact Z530
  refine st535 ?_
  refine g_aloadN A535 d3_89 rfl rfl (pc' := 90) rfl ?_
  refine g_dup A535 d3_90 rfl (pc' := 91) rfl ?_
  obtain ⟨T553, X553, e553, st553⟩ := getF A535.1 hx hZ hown (host := "") (Or.inl (hw _ (List.mem_of_getElem? (i := 23) rfl))) Via.refl e535 F539 (g := (mkF m 91 #[.val (.ref a1), .val (.int q1), .val (.int q2), .val (.double q3), .second, .val (.int (32 : Int32))] [(.ref a1), (.ref a1)])) rfl rfl (hb hby d3_91)
  refine Go.of (g' := (mkF m 94 #[.val (.ref a1), .val (.int q1), .val (.int q2), .val (.double q3), .second, .val (.int (32 : Int32))] [(.int (16 : Int32)), (.ref a1)])) st553 ?_
  have A554 := (⟨X553, hx, hby⟩ : Ax _ _ _ _ _ _ _ _ _ _ _ _ _ _ _)
  refine g_iconst A554 d3_94 (v := (1 : Int32)) rfl (pc' := 95) rfl ?_
  refine g_iaddL A554 d3_95 (z := (17 : Int32)) (by decide) (pc' := 96) rfl ?_
  obtain ⟨T555, h555, X555, e555, W555, st555⟩ := putF X553 hx hZ hown (host := "") (Or.inl (hw _ (List.mem_of_getElem? (i := 23) rfl))) Via.refl e553 F539 E538 (Or.inl (hw _ (List.mem_of_getElem? (i := 24) rfl))) (hw _ (List.mem_of_getElem? (i := 2) rfl)) (ty := .int) (by decide) rfl rfl (g := (mkF m 96 #[.val (.ref a1), .val (.int q1), .val (.int q2), .val (.double q3), .second, .val (.int (32 : Int32))] [(.int (17 : Int32)), (.ref a1)])) rfl rfl (hb hby d3_96)
  have N556 := Fr.snoc X555 N536 g330
  have K557 : Keep h0 h555 [a1] := K537.wr W555 (Or.inl (List.mem_of_getElem? (i := 0) rfl))
  have E558 : Exa Z h555 a1 "com/example/retinue/retinue/Matching$Pairs" := Exa.wr W555 E538
  have V559 : Dar Z h555 wa .int 16 (fun t => .int ((own_pi w 16) t)) := Dar.other W555 V540 (Ne.symm ne331)
  have V560 : Dar Z h555 ta .int 16 (fun t => .int ((own_pi y 16) t)) := Dar.other W555 V541 (Ne.symm ne332)
  have V561 : Dar Z h555 da .double 16 (fun t => .double ((own_pd d 16) t)) := Dar.other W555 V542 (Ne.symm ne333)
  have E562 : Exa Z h555 r346 "[I" := Exa.wr W555 E543
  have F563 : Fld Z h555 a1 "com/example/retinue/retinue/Matching$Pairs" "worker" "[I" (.ref r346) := Fld.other W555 F544 (Or.inr (slot_ne (Or.inl (hw _ (List.mem_of_getElem? (i := 12) rfl))) (Or.inl (hw _ (List.mem_of_getElem? (i := 24) rfl))) (by decide) (t := (.array .int)) (t' := .int) (by decide) (by decide)))
  have E564 : Exa Z h555 r389 "[I" := Exa.wr W555 E545
  have F565 : Fld Z h555 a1 "com/example/retinue/retinue/Matching$Pairs" "task" "[I" (.ref r389) := Fld.other W555 F546 (Or.inr (slot_ne (Or.inl (hw _ (List.mem_of_getElem? (i := 14) rfl))) (Or.inl (hw _ (List.mem_of_getElem? (i := 24) rfl))) (by decide) (t := (.array .int)) (t' := .int) (by decide) (by decide)))
  have E566 : Exa Z h555 r437 "[D" := Exa.wr W555 E547
  have F567 : Fld Z h555 a1 "com/example/retinue/retinue/Matching$Pairs" "weight" "[D" (.ref r437) := Fld.other W555 F548 (Or.inr (slot_ne (Or.inl (hw _ (List.mem_of_getElem? (i := 17) rfl))) (Or.inl (hw _ (List.mem_of_getElem? (i := 24) rfl))) (by decide) (t := (.array .double)) (t' := .int) (by decide) (by decide)))
  have V568 : Dar Z h555 r346 .int 32 (fun t => .int ((own_pi w (16 + 1)) t)) := Dar.other W555 V549 (Ne.symm ne366)
  have V569 : Dar Z h555 r389 .int 32 (fun t => .int ((own_pi y (16 + 1)) t)) := Dar.other W555 V550 (Ne.symm ne411)
  have V570 : Dar Z h555 r437 .double 32 (fun t => .double ((own_pd d (16 + 1)) t)) := Dar.other W555 V551 (Ne.symm ne461)
  have F571 : Fld Z h555 a1 "com/example/retinue/retinue/Matching$Pairs" "count" "I" (.int (17 : Int32)) := Fld.same W555 F539
  have Z572 : n0 ≤ h555.size := by rw [W555.size]; exact Z552
  refine Go.of (g' := (mkF m 99 #[.val (.ref a1), .val (.int q1), .val (.int q2), .val (.double q3), .second, .val (.int (32 : Int32))] [])) st555 ?_
  have A573 := (⟨X555, hx, hby⟩ : Ax _ _ _ _ _ _ _ _ _ _ _ _ _ _ _)
  exact g_retV (Q := QG Z a1 q1 q2 q3 wa ta da w y d h0 n0) A573 d3_99 Bd.notSynchronized Bd.returns (by decide) (by decide) (by rw [e555]; exact ⟨r346, r389, r437, rfl, N556, K557, gh365, gh410, gh460, F563, F565, F567, F571, V568, V569, V570, ne413, ne463, ne464⟩)
theorem d8_0 : decode prog_16_method_1_code 0 = .ok (.aload_n 0, 1) := by decide +kernel
theorem d8_1 : decode prog_16_method_1_code 1 = .ok (.invokespecial 1, 3) := by decide +kernel
theorem d8_4 : decode prog_16_method_1_code 4 = .ok (.iload_n 1, 1) := by decide +kernel
theorem d8_5 : decode prog_16_method_1_code 5 = .ok (.ifCond .lt 23, 3) := by decide +kernel
theorem d8_8 : decode prog_16_method_1_code 8 = .ok (.iload_n 2, 1) := by decide +kernel
theorem d8_9 : decode prog_16_method_1_code 9 = .ok (.ifCond .lt 19, 3) := by decide +kernel
theorem d8_12 : decode prog_16_method_1_code 12 = .ok (.aload 4, 2) := by decide +kernel
theorem d8_14 : decode prog_16_method_1_code 14 = .ok (.arraylength, 1) := by decide +kernel
theorem d8_15 : decode prog_16_method_1_code 15 = .ok (.aload_n 3, 1) := by decide +kernel
theorem d8_16 : decode prog_16_method_1_code 16 = .ok (.arraylength, 1) := by decide +kernel
theorem d8_17 : decode prog_16_method_1_code 17 = .ok (.if_icmp .ne 11, 3) := by decide +kernel
theorem d8_20 : decode prog_16_method_1_code 20 = .ok (.aload 5, 2) := by decide +kernel
theorem d8_22 : decode prog_16_method_1_code 22 = .ok (.arraylength, 1) := by decide +kernel
theorem d8_23 : decode prog_16_method_1_code 23 = .ok (.aload_n 3, 1) := by decide +kernel
theorem d8_24 : decode prog_16_method_1_code 24 = .ok (.arraylength, 1) := by decide +kernel
theorem d8_25 : decode prog_16_method_1_code 25 = .ok (.if_icmp .eq 13, 3) := by decide +kernel
theorem d8_28 : decode prog_16_method_1_code 28 = .ok (.new 7, 3) := by decide +kernel
theorem d8_31 : decode prog_16_method_1_code 31 = .ok (.dup, 1) := by decide +kernel
theorem d8_32 : decode prog_16_method_1_code 32 = .ok (.ldc 9, 2) := by decide +kernel
theorem d8_34 : decode prog_16_method_1_code 34 = .ok (.invokespecial 11, 3) := by decide +kernel
theorem d8_37 : decode prog_16_method_1_code 37 = .ok (.athrow, 1) := by decide +kernel
theorem d8_38 : decode prog_16_method_1_code 38 = .ok (.iconst 0, 1) := by decide +kernel
theorem d8_39 : decode prog_16_method_1_code 39 = .ok (.istore 6, 2) := by decide +kernel
theorem d8_41 : decode prog_16_method_1_code 41 = .ok (.iload 6, 2) := by decide +kernel
theorem d8_43 : decode prog_16_method_1_code 43 = .ok (.aload_n 3, 1) := by decide +kernel
theorem d8_44 : decode prog_16_method_1_code 44 = .ok (.arraylength, 1) := by decide +kernel
theorem d8_45 : decode prog_16_method_1_code 45 = .ok (.if_icmp .ge 67, 3) := by decide +kernel
theorem d8_48 : decode prog_16_method_1_code 48 = .ok (.aload_n 3, 1) := by decide +kernel
theorem d8_49 : decode prog_16_method_1_code 49 = .ok (.iload 6, 2) := by decide +kernel
theorem d8_51 : decode prog_16_method_1_code 51 = .ok (.iaload, 1) := by decide +kernel
theorem d8_52 : decode prog_16_method_1_code 52 = .ok (.ifCond .lt 39, 3) := by decide +kernel
theorem d8_55 : decode prog_16_method_1_code 55 = .ok (.aload_n 3, 1) := by decide +kernel
theorem d8_56 : decode prog_16_method_1_code 56 = .ok (.iload 6, 2) := by decide +kernel
theorem d8_58 : decode prog_16_method_1_code 58 = .ok (.iaload, 1) := by decide +kernel
theorem d8_59 : decode prog_16_method_1_code 59 = .ok (.iload_n 1, 1) := by decide +kernel
theorem d8_60 : decode prog_16_method_1_code 60 = .ok (.if_icmp .ge 31, 3) := by decide +kernel
theorem d8_63 : decode prog_16_method_1_code 63 = .ok (.aload 4, 2) := by decide +kernel
theorem d8_65 : decode prog_16_method_1_code 65 = .ok (.iload 6, 2) := by decide +kernel
theorem d8_67 : decode prog_16_method_1_code 67 = .ok (.iaload, 1) := by decide +kernel
theorem d8_68 : decode prog_16_method_1_code 68 = .ok (.ifCond .lt 23, 3) := by decide +kernel
theorem d8_71 : decode prog_16_method_1_code 71 = .ok (.aload 4, 2) := by decide +kernel
theorem d8_73 : decode prog_16_method_1_code 73 = .ok (.iload 6, 2) := by decide +kernel
theorem d8_75 : decode prog_16_method_1_code 75 = .ok (.iaload, 1) := by decide +kernel
theorem d8_76 : decode prog_16_method_1_code 76 = .ok (.iload_n 2, 1) := by decide +kernel
theorem d8_77 : decode prog_16_method_1_code 77 = .ok (.if_icmp .ge 14, 3) := by decide +kernel
theorem d8_80 : decode prog_16_method_1_code 80 = .ok (.aload 5, 2) := by decide +kernel
theorem d8_82 : decode prog_16_method_1_code 82 = .ok (.iload 6, 2) := by decide +kernel
theorem d8_84 : decode prog_16_method_1_code 84 = .ok (.daload, 1) := by decide +kernel
theorem d8_85 : decode prog_16_method_1_code 85 = .ok (.invokestatic 14, 3) := by decide +kernel
theorem d8_88 : decode prog_16_method_1_code 88 = .ok (.ifCond .ne 18, 3) := by decide +kernel
theorem d8_91 : decode prog_16_method_1_code 91 = .ok (.new 7, 3) := by decide +kernel
theorem d8_94 : decode prog_16_method_1_code 94 = .ok (.dup, 1) := by decide +kernel
theorem d8_95 : decode prog_16_method_1_code 95 = .ok (.iload 6, 2) := by decide +kernel
theorem d8_97 : decode prog_16_method_1_code 97 = .ok (.invokedynamic 20, 5) := by decide +kernel
theorem d8_102 : decode prog_16_method_1_code 102 = .ok (.invokespecial 11, 3) := by decide +kernel
theorem d8_105 : decode prog_16_method_1_code 105 = .ok (.athrow, 1) := by decide +kernel
theorem d8_106 : decode prog_16_method_1_code 106 = .ok (.iinc 6 1, 3) := by decide +kernel
theorem d8_109 : decode prog_16_method_1_code 109 = .ok (.goto (-68), 3) := by decide +kernel
theorem d8_112 : decode prog_16_method_1_code 112 = .ok (.aload_n 0, 1) := by decide +kernel
theorem d8_113 : decode prog_16_method_1_code 113 = .ok (.iload_n 1, 1) := by decide +kernel
theorem d8_114 : decode prog_16_method_1_code 114 = .ok (.putfield 24, 3) := by decide +kernel
theorem d8_117 : decode prog_16_method_1_code 117 = .ok (.aload_n 0, 1) := by decide +kernel
theorem d8_118 : decode prog_16_method_1_code 118 = .ok (.iload_n 2, 1) := by decide +kernel
theorem d8_119 : decode prog_16_method_1_code 119 = .ok (.putfield 30, 3) := by decide +kernel
theorem d8_122 : decode prog_16_method_1_code 122 = .ok (.aload_n 0, 1) := by decide +kernel
theorem d8_123 : decode prog_16_method_1_code 123 = .ok (.aload_n 3, 1) := by decide +kernel
theorem d8_124 : decode prog_16_method_1_code 124 = .ok (.putfield 33, 3) := by decide +kernel
theorem d8_127 : decode prog_16_method_1_code 127 = .ok (.aload_n 0, 1) := by decide +kernel
theorem d8_128 : decode prog_16_method_1_code 128 = .ok (.aload 4, 2) := by decide +kernel
theorem d8_130 : decode prog_16_method_1_code 130 = .ok (.putfield 37, 3) := by decide +kernel
theorem d8_133 : decode prog_16_method_1_code 133 = .ok (.aload_n 0, 1) := by decide +kernel
theorem d8_134 : decode prog_16_method_1_code 134 = .ok (.aload 5, 2) := by decide +kernel
theorem d8_136 : decode prog_16_method_1_code 136 = .ok (.putfield 40, 3) := by decide +kernel
theorem d8_139 : decode prog_16_method_1_code 139 = .ok (.return_, 1) := by decide +kernel
theorem pd_3 : parseMethodDescriptor "(D)Z" = some ⟨[.double], some .boolean⟩ := by decide +kernel
set_option maxRecDepth 65536 in
set_option maxHeartbeats 40000000 in
theorem own_lb {p : Program} {l : Launch} {e : Env} {R : Room} {s : State} {m : MethodId} {args : Array Value} {below : List Frame} {meth : Method} {c : Code} {cells slots : Nat} {P : State → Outcome → Prop} {Z : State} {a0 : Array Value} {h0 : Heap} {n0 : Nat} (a1 : Addr) (wa : Addr) (ta : Addr) (da : Addr) (w : Nat → Int32) (y : Nat → Int32) (d : Nat → UInt64) (n : Nat) (u0 : Value) (u1 : Value) (u2 : Value) (u3 : Value) (u4 : Value) (hw : ∀ d ∈ tables_1, d.before a0 Z = true) (hZ : Z.Warmed39 s.vm) (hx : p.tables.exec = Jvm.exec) (hby : c.code = prog_16_method_1_code) (hml : c.maxLocals = 7) (hown : s.vm.findClass "com/example/retinue/retinue/Matching$Batch" = some m.cls) (hnm : meth.name = "<init>") (g_a1 : n0 ≤ a1) (hw1 : ∀ t, t < n → ¬ w t < 0 ∧ w t < (2147483647 : Int32)) (hv1 : ∀ t, t < n → ¬ y t < 0 ∧ y t < (2147483647 : Int32)) (hd1 : ∀ t, t < n → Fin64 (d t)) (hn : n ≤ 17) (hfr : Jvm.Free.Fl.IsFinite.spec.room.frames + 1 ≤ R.frames) (hlo : 0 + (2 + 11) + Jvm.Free.Fl.IsFinite.spec.room.locals ≤ R.locals) (hce : cells ≤ R.cells) (hsl : slots ≤ R.slots)
    (done : ∀ (T : State) (h : Heap) (locs : List Loc) , Ax p l e R s m args below meth c T locs cells slots prog_16_method_1_code → T.heap = h → Exa Z h a1 "com/example/retinue/retinue/Matching$Batch" → Fld Z h a1 "com/example/retinue/retinue/Matching$Batch" "workers" "I" u0 → Fld Z h a1 "com/example/retinue/retinue/Matching$Batch" "tasks" "I" u1 → Fld Z h a1 "com/example/retinue/retinue/Matching$Batch" "worker" "[I" u2 → Fld Z h a1 "com/example/retinue/retinue/Matching$Batch" "task" "[I" u3 → Fld Z h a1 "com/example/retinue/retinue/Matching$Batch" "weight" "[D" u4 → Dar Z h wa .int n (fun t => .int (w t)) → Dar Z h ta .int n (fun t => .int (y t)) → Dar Z h da .double n (fun t => .double (d t)) → Fr n0 locs → n0 ≤ h.size → Keep h0 h [a1] → Go p e below P T (mkF m 112 #[.val (.ref a1), .val (.int (2147483647 : Int32)), .val (.int (2147483647 : Int32)), .val (.ref wa), .val (.ref ta), .val (.ref da), .val (.int (Int32.ofNat n))] [])) :
    ∀ (k i : Nat) (T : State) (h : Heap) (locs : List Loc) , i + k = n → Ax p l e R s m args below meth c T locs cells slots prog_16_method_1_code → T.heap = h → Exa Z h a1 "com/example/retinue/retinue/Matching$Batch" → Fld Z h a1 "com/example/retinue/retinue/Matching$Batch" "workers" "I" u0 → Fld Z h a1 "com/example/retinue/retinue/Matching$Batch" "tasks" "I" u1 → Fld Z h a1 "com/example/retinue/retinue/Matching$Batch" "worker" "[I" u2 → Fld Z h a1 "com/example/retinue/retinue/Matching$Batch" "task" "[I" u3 → Fld Z h a1 "com/example/retinue/retinue/Matching$Batch" "weight" "[D" u4 → Dar Z h wa .int n (fun t => .int (w t)) → Dar Z h ta .int n (fun t => .int (y t)) → Dar Z h da .double n (fun t => .double (d t)) → Fr n0 locs → n0 ≤ h.size → Keep h0 h [a1] → Go p e below P T (mkF m 41 #[.val (.ref a1), .val (.int (2147483647 : Int32)), .val (.int (2147483647 : Int32)), .val (.ref wa), .val (.ref ta), .val (.ref da), .val (.int (Int32.ofNat i))] []) := by
  intro k
  induction k with
  | zero =>
    intro i T h locs  hi A eT E574 F575 F576 F577 F578 F579 V580 V581 V582 N1 z1 K1
    obtain rfl : i = n := by omega
    refine g_iload A d8_41 rfl (pc' := 43) rfl ?_
    refine g_aloadN A d8_43 rfl rfl (pc' := 44) rfl ?_
    refine g_alen A hZ eT V580 d8_44 (z := (Int32.ofNat i)) rfl (pc' := 45) rfl ?_
    refine g_icY A d8_45 (c2_ge_t (own_onl (Nat.le_refl _) (by omega))) (pc' := 112) rfl ?_
    exact done T h _  A eT E574 F575 F576 F577 F578 F579 V580 V581 V582 N1 z1 K1
  | succ k ih =>
    intro i T h locs  hi A eT E583 F584 F585 F586 F587 F588 V589 V590 V591 N1 z1 K1
    refine g_iload A d8_41 rfl (pc' := 43) rfl ?_
    refine g_aloadN A d8_43 rfl rfl (pc' := 44) rfl ?_
    refine g_alen A hZ eT V589 d8_44 (z := (Int32.ofNat n)) rfl (pc' := 45) rfl ?_
    refine g_icN A d8_45 (c2_ge_f (own_olt (by omega) (by omega))) (pc' := 48) rfl ?_
    refine g_aloadN A d8_48 rfl rfl (pc' := 49) rfl ?_
    refine g_iload A d8_49 rfl (pc' := 51) rfl ?_
    refine g_iaload A hZ eT V589 (i := i) (by omega) rfl (x := (w i)) rfl d8_51 (pc' := 52) rfl ?_
    refine g_ifN A d8_52 (c0_lt_f (hw1 i (by omega)).1) (pc' := 55) rfl ?_
    refine g_aloadN A d8_55 rfl rfl (pc' := 56) rfl ?_
    refine g_iload A d8_56 rfl (pc' := 58) rfl ?_
    refine g_iaload A hZ eT V589 (i := i) (by omega) rfl (x := (w i)) rfl d8_58 (pc' := 59) rfl ?_
    refine g_iloadN A d8_59 rfl (pc' := 60) rfl ?_
    refine g_icN A d8_60 (c2_ge_f (hw1 i (by omega)).2) (pc' := 63) rfl ?_
    refine g_aload A d8_63 rfl rfl (pc' := 65) rfl ?_
    refine g_iload A d8_65 rfl (pc' := 67) rfl ?_
    refine g_iaload A hZ eT V590 (i := i) (by omega) rfl (x := (y i)) rfl d8_67 (pc' := 68) rfl ?_
    refine g_ifN A d8_68 (c0_lt_f (hv1 i (by omega)).1) (pc' := 71) rfl ?_
    refine g_aload A d8_71 rfl rfl (pc' := 73) rfl ?_
    refine g_iload A d8_73 rfl (pc' := 75) rfl ?_
    refine g_iaload A hZ eT V590 (i := i) (by omega) rfl (x := (y i)) rfl d8_75 (pc' := 76) rfl ?_
    refine g_iloadN A d8_76 rfl (pc' := 77) rfl ?_
    refine g_icN A d8_77 (c2_ge_f (hv1 i (by omega)).2) (pc' := 80) rfl ?_
    refine g_aload A d8_80 rfl rfl (pc' := 82) rfl ?_
    refine g_iload A d8_82 rfl (pc' := 84) rfl ?_
    refine g_daload A hZ eT V591 (i := i) (by omega) rfl (x := (d i)) rfl d8_84 (pc' := 85) rfl ?_
    obtain ⟨v592, _, ⟨T592, L592, k592, n592⟩, -, X592, ⟨⟨eh592, el592, ec592, es592⟩, hv592⟩, st592⟩ := Jvm.LawKit.callS A.1 hx (y := Jvm.Free.Fl.IsFinite.yN) hown (mvT hZ (hw _ (List.mem_of_getElem? (i := 72) rfl))) (mvT hZ (hw _ (List.mem_of_getElem? (i := 73) rfl))) (mvT hZ (hw _ (List.mem_of_getElem? (i := 74) rfl))) (bytes := Jvm.Free.Fl.IsFinite.yB) (maxL := 2) (ret := some .boolean) (mvT hZ (hw _ (List.mem_of_getElem? (i := 75) rfl))) (by decide) (Jvm.Free.Fl.IsFinite.pays (W := 0) hfr hlo (own_and (mvT hZ (hw _ (List.mem_of_getElem? (i := 75) rfl))) (own_and (mvT hZ (hw _ (List.mem_of_getElem? (i := 76) rfl))) (own_and (mvT hZ (hw _ (List.mem_of_getElem? (i := 77) rfl))) (own_and (mvT hZ (hw _ (List.mem_of_getElem? (i := 45) rfl))) (own_and (mvT hZ (hw _ (List.mem_of_getElem? (i := 78) rfl))) (mvT hZ (hw _ (List.mem_of_getElem? (i := 79) rfl)))))))) (mvT hZ (hw _ (List.mem_of_getElem? (i := 74) rfl)))) (g := (mkF m 85 #[.val (.ref a1), .val (.int (2147483647 : Int32)), .val (.int (2147483647 : Int32)), .val (.ref wa), .val (.ref ta), .val (.ref da), .val (.int (Int32.ofNat i))] [(.double (d i))])) rfl (by rw [hml]; rfl) (argsL := [(.double (d i))]) (rest := []) (lenOf pd_3 rfl) rfl (by show 2 * 0 + _ ≤ _; exact Nat.le_of_eq rfl) (hb hby d8_85) (fun _ _ => ⟨hce, hsl, _, rfl, (hd1 i (by omega)).noNaN⟩)
    dsimp only [Pt.U, Pt.locs, Pt.cells, Pt.slots] at X592 eh592 el592 ec592 es592 st592
    subst ec592 es592
    have N593 : Fr n0 L592 := by rw [el592]; exact N1
    obtain rfl : v592 = some (.int (1 : Int32)) := (hv592 _ ⟨rfl, (hd1 i (by omega)).noNaN⟩).trans (own_isfin (hd1 i (by omega)))
    refine Go.of (g' := (mkF m 88 #[.val (.ref a1), .val (.int (2147483647 : Int32)), .val (.int (2147483647 : Int32)), .val (.ref wa), .val (.ref ta), .val (.ref da), .val (.int (Int32.ofNat i))] [(.int (1 : Int32))])) st592 ?_
    have e594 : T592.heap = h := eh592.trans eT
    have A595 := (⟨X592, hx, hby⟩ : Ax _ _ _ _ _ _ _ _ _ _ _ _ _ _ _)
    refine g_ifY A595 d8_88 (c0_ne_t (by decide)) (pc' := 106) rfl ?_
    refine g_iinc A595 d8_106 rfl (y := Int32.ofNat (i + 1)) (own_succ i) (ls' := #[.val (.ref a1), .val (.int (2147483647 : Int32)), .val (.int (2147483647 : Int32)), .val (.ref wa), .val (.ref ta), .val (.ref da), .val (.int (Int32.ofNat (i + 1)))]) rfl (pc' := 109) rfl ?_
    refine g_goto A595 d8_109 (pc' := 41) rfl ?_
    exact ih (i + 1) T592 h _  (by omega) A595 e594 E583 F584 F585 F586 F587 F588 V589 V590 V591 N593 z1 K1
theorem pn_3 : plainName "com/example/retinue/retinue/Matching$Batch" = true := by first | (simp [plainName, overriddenIn]; done) | decide +kernel
theorem ef596 (m : MethodId) (a1 : Addr) (wa : Addr) (ta : Addr) (da : Addr) (w : Nat → Int32) (y : Nat → Int32) (d : Nat → UInt64) (n : Nat) (u0 : Value) (u1 : Value) (u2 : Value) (u3 : Value) (u4 : Value) : entryFrame m #[(.ref a1), (.int (2147483647 : Int32)), (.int (2147483647 : Int32)), (.ref wa), (.ref ta), (.ref da)] 7 = mkF m 0 #[.val (.ref a1), .val (.int (2147483647 : Int32)), .val (.int (2147483647 : Int32)), .val (.ref wa), .val (.ref ta), .val (.ref da), .unset] [] := by first | (simp [entryFrame, mkF, argsToLocals, Value.category]; done) | rfl
def Q8 (Z : State) (a1 : Addr) (wa : Addr) (ta : Addr) (da : Addr) (w : Nat → Int32) (y : Nat → Int32) (d : Nat → UInt64) (n : Nat) (u0 : Value) (u1 : Value) (u2 : Value) (u3 : Value) (u4 : Value) (h0 : Heap) (n0 : Nat) (v : Option Value) (h : Heap) (L : List Loc) : Prop := v = none ∧ Fr n0 L ∧ Keep h0 h [a1] ∧ Fld Z h a1 "com/example/retinue/retinue/Matching$Batch" "worker" "[I" (.ref wa) ∧ Fld Z h a1 "com/example/retinue/retinue/Matching$Batch" "task" "[I" (.ref ta) ∧ Fld Z h a1 "com/example/retinue/retinue/Matching$Batch" "weight" "[D" (.ref da)
theorem pd_4 : parseMethodDescriptor "()V" = some ⟨[], none⟩ := by decide +kernel
set_option maxRecDepth 65536 in
set_option maxHeartbeats 40000000 in
theorem rm8 (l : Launch) (Z : State) (a0 : Array Value) (hw : ∀ d ∈ tables_1, d.before a0 Z = true) (ws : List Jvm.Cond) (a1 : Addr) (wa : Addr) (ta : Addr) (da : Addr) (w : Nat → Int32) (y : Nat → Int32) (d : Nat → UInt64) (n : Nat) (u0 : Value) (u1 : Value) (u2 : Value) (u3 : Value) (u4 : Value) (h0 : Heap) (n0 : Nat) (Z0 : n0 ≤ h0.size) (E597 : Exa Z h0 a1 "com/example/retinue/retinue/Matching$Batch") (F598 : Fld Z h0 a1 "com/example/retinue/retinue/Matching$Batch" "workers" "I" u0) (F599 : Fld Z h0 a1 "com/example/retinue/retinue/Matching$Batch" "tasks" "I" u1) (F600 : Fld Z h0 a1 "com/example/retinue/retinue/Matching$Batch" "worker" "[I" u2) (F601 : Fld Z h0 a1 "com/example/retinue/retinue/Matching$Batch" "task" "[I" u3) (F602 : Fld Z h0 a1 "com/example/retinue/retinue/Matching$Batch" "weight" "[D" u4) (V603 : Dar Z h0 wa .int n (fun t => .int (w t))) (V604 : Dar Z h0 ta .int n (fun t => .int (y t))) (V605 : Dar Z h0 da .double n (fun t => .double (d t))) (g606 : n0 ≤ a1) (ne607 : wa ≠ a1) (ne608 : ta ≠ a1) (ne609 : da ≠ a1) (hw1 : ∀ t, t < n → ¬ w t < 0 ∧ w t < (2147483647 : Int32)) (hv1 : ∀ t, t < n → ¬ y t < 0 ∧ y t < (2147483647 : Int32)) (hd1 : ∀ t, t < n → Fin64 (d t)) (hn : n ≤ 17) :
    MetFree l (⟨"com/example/retinue/retinue/Matching$Batch", "<init>", "(II[I[I[D)V"⟩ : MethodName) (head1 (Jvm.Cond.code (⟨"com/example/retinue/retinue/Matching$Batch", "<init>", "(II[I[I[D)V"⟩ : MethodName) prog_16_method_1_code 7 none :: ws) ({ frames := 2, cells := 0, slots := 0, locals := 26 } : Room)) (fun a U => a = #[(.ref a1), (.int (2147483647 : Int32)), (.int (2147483647 : Int32)), (.ref wa), (.ref ta), (.ref da)] ∧ Z.Warmed39 U.vm ∧ U.heap = h0) (fun _ _ _ _ _ => True) (fun _ U o U' => ∃ v L, o = .returned v ∧ Q8 Z a1 wa ta da w y d n u0 u1 u2 u3 u4 h0 n0 v U'.heap L ∧ FrameEnd U o U' L 0 0) := by
  refine MetFree.of_bodySF (plainFor_of_name pn_3) hisR ?_
  intro p e s m args below meth c s₁ Bd hml0 hP hK
  obtain ⟨rfl, hZ, hh⟩ := hP
  have hx := Bd.exec
  have hby := Bd.bytes
  have hml : c.maxLocals = 7 := hml0
  have hown : s.vm.findClass "com/example/retinue/retinue/Matching$Batch" = some m.cls := findClass_of_methodNamed Bd.named
  have hnm := (name_of_methodNamed Bd.named Bd.method).1
  have X0 : Stand p l e ({ frames := 2, cells := 0, slots := 0, locals := 26 } : Room) s m #[(.ref a1), (.int (2147483647 : Int32)), (.int (2147483647 : Int32)), (.ref wa), (.ref ta), (.ref da)] below meth c s₁ [] 0 0 := Stand.of_body Bd
  have e0 : s₁.heap = h0 := by rw [← hh, Bd.state]; rfl
  have N0 := Fr.nil n0
  have A0 := (⟨X0, hx, hby⟩ : Ax _ _ _ _ _ _ _ _ _ _ _ _ _ _ _)
  show Go p e below (fun U o => ∃ v L, o = .returned v ∧ Q8 Z a1 wa ta da w y d n u0 u1 u2 u3 u4 h0 n0 v U.heap L ∧ FrameEnd s o U L 0 0) s₁ (entryFrame m #[(.ref a1), (.int (2147483647 : Int32)), (.int (2147483647 : Int32)), (.ref wa), (.ref ta), (.ref da)] 7)
  refine Go.cast (ef596 m a1 wa ta da w y d n u0 u1 u2 u3 u4) ?_
  refine g_aloadN A0 d8_0 rfl rfl (pc' := 1) rfl ?_
  obtain ⟨vv610, _, ⟨T610, L610, k610, n610⟩, -, X610, ⟨L610c, hQ610, l610, y610, z610⟩, st610⟩ := X0.specialBack hx (y := (⟨"java/lang/Record", "<init>", "()V"⟩ : MethodName)) rfl hown (mvT hZ (hw _ (List.mem_of_getElem? (i := 66) rfl))) (mvT hZ (hw _ (List.mem_of_getElem? (i := 67) rfl))) (mvT hZ (hw _ (List.mem_of_getElem? (i := 70) rfl))) (by decide) (backOf (W := 0) (rm9 l Z a0 hw [] a1 h0 n0 Z0 ) hZ (hw _ (List.mem_of_getElem? (i := 70) rfl)) (hw _ (List.mem_of_getElem? (i := 69) rfl)) (by decide) (by decide)) (g := (mkF m 1 #[.val (.ref a1), .val (.int (2147483647 : Int32)), .val (.int (2147483647 : Int32)), .val (.ref wa), .val (.ref ta), .val (.ref da), .unset] [(.ref a1)])) rfl (by rw [hml]; rfl) (Steps.refl _) (a := a1) (argsL := []) (rest := []) (lenOf pd_4 rfl) rfl (by show 2 * 0 + _ ≤ _; exact Nat.le_of_eq rfl) (hb hby d8_1) (fun _ _ => ⟨rfl, e0, (by decide : 0 + 0 ≤ _), (by decide : 0 + 0 ≤ _)⟩)
  have hQ610b : Q9 Z a1 h0 n0 vv610 T610.heap L610c := hQ610
  clear hQ610
  dsimp only [Pt.U, Pt.locs, Pt.cells, Pt.slots] at X610 l610 y610 z610 st610
  subst y610 z610
  obtain ⟨rfl, Nq611, Kq612⟩ := hQ610b
  have N613 : Fr n0 L610 := by rw [l610]; exact Fr.app N0 Nq611
  refine Go.tr (g' := (mkF m 4 #[.val (.ref a1), .val (.int (2147483647 : Int32)), .val (.int (2147483647 : Int32)), .val (.ref wa), .val (.ref ta), .val (.ref da), .unset] [])) st610 ?_
  have e614 : T610.heap = h0 := Kq612
  have A615 := (⟨X610, hx, hby⟩ : Ax _ _ _ _ _ _ _ _ _ _ _ _ _ _ _)
  refine g_iloadN A615 d8_4 rfl (pc' := 5) rfl ?_
  refine g_ifN A615 d8_5 (c0_lt_f (by decide)) (pc' := 8) rfl ?_
  refine g_iloadN A615 d8_8 rfl (pc' := 9) rfl ?_
  refine g_ifN A615 d8_9 (c0_lt_f (by decide)) (pc' := 12) rfl ?_
  refine g_aload A615 d8_12 rfl rfl (pc' := 14) rfl ?_
  refine g_alen A615 hZ e614 V604 d8_14 (z := (Int32.ofNat n)) rfl (pc' := 15) rfl ?_
  refine g_aloadN A615 d8_15 rfl rfl (pc' := 16) rfl ?_
  refine g_alen A615 hZ e614 V603 d8_16 (z := (Int32.ofNat n)) rfl (pc' := 17) rfl ?_
  refine g_icN A615 d8_17 (c2_ne_f rfl) (pc' := 20) rfl ?_
  refine g_aload A615 d8_20 rfl rfl (pc' := 22) rfl ?_
  refine g_alen A615 hZ e614 V605 d8_22 (z := (Int32.ofNat n)) rfl (pc' := 23) rfl ?_
  refine g_aloadN A615 d8_23 rfl rfl (pc' := 24) rfl ?_
  refine g_alen A615 hZ e614 V603 d8_24 (z := (Int32.ofNat n)) rfl (pc' := 25) rfl ?_
  refine g_icY A615 d8_25 (c2_eq_t rfl) (pc' := 38) rfl ?_
  refine g_iconst A615 d8_38 (v := (0 : Int32)) rfl (pc' := 39) rfl ?_
  refine g_istore A615 d8_39 (ls' := #[.val (.ref a1), .val (.int (2147483647 : Int32)), .val (.int (2147483647 : Int32)), .val (.ref wa), .val (.ref ta), .val (.ref da), .val (.int (0 : Int32))]) rfl (pc' := 41) rfl ?_
  refine own_lb a1 wa ta da w y d n u0 u1 u2 u3 u4 hw hZ hx hby hml hown hnm g606 hw1 hv1 hd1 hn (by decide) (by decide) (by decide) (by decide) ?_ (n) (0) T610 h0 _  (by omega) A615 e614 E597 F598 F599 F600 F601 F602 V603 V604 V605  N613 Z0 (Keep.refl h0 [a1])
  intro T616 h616 lo616  A616 e616 F617 F618 F619 F620 F621 F622 F623 F624 F625 N616 Z616 K616
  refine g_aloadN A616 d8_112 rfl rfl (pc' := 113) rfl ?_
  refine g_iloadN A616 d8_113 rfl (pc' := 114) rfl ?_
  obtain ⟨T626, h626, X626, e626, W626, st626⟩ := putF A616.1 hx hZ hown (host := "") (Or.inl (hw _ (List.mem_of_getElem? (i := 80) rfl))) Via.refl e616 F618 F617 (Or.inr ⟨(hw _ (List.mem_of_getElem? (i := 81) rfl)), rfl, hnm⟩) (hw _ (List.mem_of_getElem? (i := 61) rfl)) (ty := .int) (by decide) rfl rfl (g := (mkF m 114 #[.val (.ref a1), .val (.int (2147483647 : Int32)), .val (.int (2147483647 : Int32)), .val (.ref wa), .val (.ref ta), .val (.ref da), .val (.int (Int32.ofNat n))] [(.int (2147483647 : Int32)), (.ref a1)])) rfl rfl (hb hby d8_114)
  have N627 := Fr.snoc X626 N616 g606
  have K628 : Keep h0 h626 [a1] := K616.wr W626 (Or.inl (List.mem_of_getElem? (i := 0) rfl))
  have F629 : Exa Z h626 a1 "com/example/retinue/retinue/Matching$Batch" := Exa.wr W626 F617
  have F630 : Fld Z h626 a1 "com/example/retinue/retinue/Matching$Batch" "tasks" "I" u1 := Fld.other W626 F619 (Or.inr (slot_ne (Or.inr (hw _ (List.mem_of_getElem? (i := 83) rfl))) (Or.inr (hw _ (List.mem_of_getElem? (i := 81) rfl))) (by decide) (t := .int) (t' := .int) (by decide) (by decide)))
  have F631 : Fld Z h626 a1 "com/example/retinue/retinue/Matching$Batch" "worker" "[I" u2 := Fld.other W626 F620 (Or.inr (slot_ne (Or.inr (hw _ (List.mem_of_getElem? (i := 85) rfl))) (Or.inr (hw _ (List.mem_of_getElem? (i := 81) rfl))) (by decide) (t := (.array .int)) (t' := .int) (by decide) (by decide)))
  have F632 : Fld Z h626 a1 "com/example/retinue/retinue/Matching$Batch" "task" "[I" u3 := Fld.other W626 F621 (Or.inr (slot_ne (Or.inr (hw _ (List.mem_of_getElem? (i := 87) rfl))) (Or.inr (hw _ (List.mem_of_getElem? (i := 81) rfl))) (by decide) (t := (.array .int)) (t' := .int) (by decide) (by decide)))
  have F633 : Fld Z h626 a1 "com/example/retinue/retinue/Matching$Batch" "weight" "[D" u4 := Fld.other W626 F622 (Or.inr (slot_ne (Or.inr (hw _ (List.mem_of_getElem? (i := 89) rfl))) (Or.inr (hw _ (List.mem_of_getElem? (i := 81) rfl))) (by decide) (t := (.array .double)) (t' := .int) (by decide) (by decide)))
  have F634 : Dar Z h626 wa .int n (fun t => .int (w t)) := Dar.other W626 F623 ne607
  have F635 : Dar Z h626 ta .int n (fun t => .int (y t)) := Dar.other W626 F624 ne608
  have F636 : Dar Z h626 da .double n (fun t => .double (d t)) := Dar.other W626 F625 ne609
  have F637 : Fld Z h626 a1 "com/example/retinue/retinue/Matching$Batch" "workers" "I" (.int (2147483647 : Int32)) := Fld.same W626 F618
  have Z638 : n0 ≤ h626.size := by rw [W626.size]; exact Z616
  refine Go.of (g' := (mkF m 117 #[.val (.ref a1), .val (.int (2147483647 : Int32)), .val (.int (2147483647 : Int32)), .val (.ref wa), .val (.ref ta), .val (.ref da), .val (.int (Int32.ofNat n))] [])) st626 ?_
  have A639 := (⟨X626, hx, hby⟩ : Ax _ _ _ _ _ _ _ _ _ _ _ _ _ _ _)
  refine g_aloadN A639 d8_117 rfl rfl (pc' := 118) rfl ?_
  refine g_iloadN A639 d8_118 rfl (pc' := 119) rfl ?_
  obtain ⟨T640, h640, X640, e640, W640, st640⟩ := putF X626 hx hZ hown (host := "") (Or.inl (hw _ (List.mem_of_getElem? (i := 82) rfl))) Via.refl e626 F630 F629 (Or.inr ⟨(hw _ (List.mem_of_getElem? (i := 83) rfl)), rfl, hnm⟩) (hw _ (List.mem_of_getElem? (i := 61) rfl)) (ty := .int) (by decide) rfl rfl (g := (mkF m 119 #[.val (.ref a1), .val (.int (2147483647 : Int32)), .val (.int (2147483647 : Int32)), .val (.ref wa), .val (.ref ta), .val (.ref da), .val (.int (Int32.ofNat n))] [(.int (2147483647 : Int32)), (.ref a1)])) rfl rfl (hb hby d8_119)
  have N641 := Fr.snoc X640 N627 g606
  have K642 : Keep h0 h640 [a1] := K628.wr W640 (Or.inl (List.mem_of_getElem? (i := 0) rfl))
  have F643 : Exa Z h640 a1 "com/example/retinue/retinue/Matching$Batch" := Exa.wr W640 F629
  have F644 : Fld Z h640 a1 "com/example/retinue/retinue/Matching$Batch" "worker" "[I" u2 := Fld.other W640 F631 (Or.inr (slot_ne (Or.inr (hw _ (List.mem_of_getElem? (i := 85) rfl))) (Or.inr (hw _ (List.mem_of_getElem? (i := 83) rfl))) (by decide) (t := (.array .int)) (t' := .int) (by decide) (by decide)))
  have F645 : Fld Z h640 a1 "com/example/retinue/retinue/Matching$Batch" "task" "[I" u3 := Fld.other W640 F632 (Or.inr (slot_ne (Or.inr (hw _ (List.mem_of_getElem? (i := 87) rfl))) (Or.inr (hw _ (List.mem_of_getElem? (i := 83) rfl))) (by decide) (t := (.array .int)) (t' := .int) (by decide) (by decide)))
  have F646 : Fld Z h640 a1 "com/example/retinue/retinue/Matching$Batch" "weight" "[D" u4 := Fld.other W640 F633 (Or.inr (slot_ne (Or.inr (hw _ (List.mem_of_getElem? (i := 89) rfl))) (Or.inr (hw _ (List.mem_of_getElem? (i := 83) rfl))) (by decide) (t := (.array .double)) (t' := .int) (by decide) (by decide)))
  have F647 : Dar Z h640 wa .int n (fun t => .int (w t)) := Dar.other W640 F634 ne607
  have F648 : Dar Z h640 ta .int n (fun t => .int (y t)) := Dar.other W640 F635 ne608
  have F649 : Dar Z h640 da .double n (fun t => .double (d t)) := Dar.other W640 F636 ne609
  have F650 : Fld Z h640 a1 "com/example/retinue/retinue/Matching$Batch" "workers" "I" (.int (2147483647 : Int32)) := Fld.other W640 F637 (Or.inr (slot_ne (Or.inr (hw _ (List.mem_of_getElem? (i := 81) rfl))) (Or.inr (hw _ (List.mem_of_getElem? (i := 83) rfl))) (by decide) (t := .int) (t' := .int) (by decide) (by decide)))
  have F651 : Fld Z h640 a1 "com/example/retinue/retinue/Matching$Batch" "tasks" "I" (.int (2147483647 : Int32)) := Fld.same W640 F630
  have Z652 : n0 ≤ h640.size := by rw [W640.size]; exact Z638
  refine Go.of (g' := (mkF m 122 #[.val (.ref a1), .val (.int (2147483647 : Int32)), .val (.int (2147483647 : Int32)), .val (.ref wa), .val (.ref ta), .val (.ref da), .val (.int (Int32.ofNat n))] [])) st640 ?_
  have A653 := (⟨X640, hx, hby⟩ : Ax _ _ _ _ _ _ _ _ _ _ _ _ _ _ _)
  refine g_aloadN A653 d8_122 rfl rfl (pc' := 123) rfl ?_
  refine g_aloadN A653 d8_123 rfl rfl (pc' := 124) rfl ?_
  obtain ⟨T654, h654, X654, e654, W654, st654⟩ := putF X640 hx hZ hown (host := "") (Or.inl (hw _ (List.mem_of_getElem? (i := 84) rfl))) Via.refl e640 F644 F643 (Or.inr ⟨(hw _ (List.mem_of_getElem? (i := 85) rfl)), rfl, hnm⟩) (hw _ (List.mem_of_getElem? (i := 61) rfl)) (ty := (.array .int)) (by decide) rfl rfl (g := (mkF m 124 #[.val (.ref a1), .val (.int (2147483647 : Int32)), .val (.int (2147483647 : Int32)), .val (.ref wa), .val (.ref ta), .val (.ref da), .val (.int (Int32.ofNat n))] [(.ref wa), (.ref a1)])) rfl rfl (hb hby d8_124)
  have N655 := Fr.snoc X654 N641 g606
  have K656 : Keep h0 h654 [a1] := K642.wr W654 (Or.inl (List.mem_of_getElem? (i := 0) rfl))
  have F657 : Exa Z h654 a1 "com/example/retinue/retinue/Matching$Batch" := Exa.wr W654 F643
  have F658 : Fld Z h654 a1 "com/example/retinue/retinue/Matching$Batch" "task" "[I" u3 := Fld.other W654 F645 (Or.inr (slot_ne (Or.inr (hw _ (List.mem_of_getElem? (i := 87) rfl))) (Or.inr (hw _ (List.mem_of_getElem? (i := 85) rfl))) (by decide) (t := (.array .int)) (t' := (.array .int)) (by decide) (by decide)))
  have F659 : Fld Z h654 a1 "com/example/retinue/retinue/Matching$Batch" "weight" "[D" u4 := Fld.other W654 F646 (Or.inr (slot_ne (Or.inr (hw _ (List.mem_of_getElem? (i := 89) rfl))) (Or.inr (hw _ (List.mem_of_getElem? (i := 85) rfl))) (by decide) (t := (.array .double)) (t' := (.array .int)) (by decide) (by decide)))
  have F660 : Dar Z h654 wa .int n (fun t => .int (w t)) := Dar.other W654 F647 ne607
  have F661 : Dar Z h654 ta .int n (fun t => .int (y t)) := Dar.other W654 F648 ne608
  have F662 : Dar Z h654 da .double n (fun t => .double (d t)) := Dar.other W654 F649 ne609
  have F663 : Fld Z h654 a1 "com/example/retinue/retinue/Matching$Batch" "workers" "I" (.int (2147483647 : Int32)) := Fld.other W654 F650 (Or.inr (slot_ne (Or.inr (hw _ (List.mem_of_getElem? (i := 81) rfl))) (Or.inr (hw _ (List.mem_of_getElem? (i := 85) rfl))) (by decide) (t := .int) (t' := (.array .int)) (by decide) (by decide)))
  have F664 : Fld Z h654 a1 "com/example/retinue/retinue/Matching$Batch" "tasks" "I" (.int (2147483647 : Int32)) := Fld.other W654 F651 (Or.inr (slot_ne (Or.inr (hw _ (List.mem_of_getElem? (i := 83) rfl))) (Or.inr (hw _ (List.mem_of_getElem? (i := 85) rfl))) (by decide) (t := .int) (t' := (.array .int)) (by decide) (by decide)))
  have F665 : Fld Z h654 a1 "com/example/retinue/retinue/Matching$Batch" "worker" "[I" (.ref wa) := Fld.same W654 F644
  have Z666 : n0 ≤ h654.size := by rw [W654.size]; exact Z652
  refine Go.of (g' := (mkF m 127 #[.val (.ref a1), .val (.int (2147483647 : Int32)), .val (.int (2147483647 : Int32)), .val (.ref wa), .val (.ref ta), .val (.ref da), .val (.int (Int32.ofNat n))] [])) st654 ?_
  have A667 := (⟨X654, hx, hby⟩ : Ax _ _ _ _ _ _ _ _ _ _ _ _ _ _ _)
  refine g_aloadN A667 d8_127 rfl rfl (pc' := 128) rfl ?_
  refine g_aload A667 d8_128 rfl rfl (pc' := 130) rfl ?_
  obtain ⟨T668, h668, X668, e668, W668, st668⟩ := putF X654 hx hZ hown (host := "") (Or.inl (hw _ (List.mem_of_getElem? (i := 86) rfl))) Via.refl e654 F658 F657 (Or.inr ⟨(hw _ (List.mem_of_getElem? (i := 87) rfl)), rfl, hnm⟩) (hw _ (List.mem_of_getElem? (i := 61) rfl)) (ty := (.array .int)) (by decide) rfl rfl (g := (mkF m 130 #[.val (.ref a1), .val (.int (2147483647 : Int32)), .val (.int (2147483647 : Int32)), .val (.ref wa), .val (.ref ta), .val (.ref da), .val (.int (Int32.ofNat n))] [(.ref ta), (.ref a1)])) rfl rfl (hb hby d8_130)
  have N669 := Fr.snoc X668 N655 g606
  have K670 : Keep h0 h668 [a1] := K656.wr W668 (Or.inl (List.mem_of_getElem? (i := 0) rfl))
  have F671 : Exa Z h668 a1 "com/example/retinue/retinue/Matching$Batch" := Exa.wr W668 F657
  have F672 : Fld Z h668 a1 "com/example/retinue/retinue/Matching$Batch" "weight" "[D" u4 := Fld.other W668 F659 (Or.inr (slot_ne (Or.inr (hw _ (List.mem_of_getElem? (i := 89) rfl))) (Or.inr (hw _ (List.mem_of_getElem? (i := 87) rfl))) (by decide) (t := (.array .double)) (t' := (.array .int)) (by decide) (by decide)))
  have F673 : Dar Z h668 wa .int n (fun t => .int (w t)) := Dar.other W668 F660 ne607
  have F674 : Dar Z h668 ta .int n (fun t => .int (y t)) := Dar.other W668 F661 ne608
  have F675 : Dar Z h668 da .double n (fun t => .double (d t)) := Dar.other W668 F662 ne609
  have F676 : Fld Z h668 a1 "com/example/retinue/retinue/Matching$Batch" "workers" "I" (.int (2147483647 : Int32)) := Fld.other W668 F663 (Or.inr (slot_ne (Or.inr (hw _ (List.mem_of_getElem? (i := 81) rfl))) (Or.inr (hw _ (List.mem_of_getElem? (i := 87) rfl))) (by decide) (t := .int) (t' := (.array .int)) (by decide) (by decide)))
  have F677 : Fld Z h668 a1 "com/example/retinue/retinue/Matching$Batch" "tasks" "I" (.int (2147483647 : Int32)) := Fld.other W668 F664 (Or.inr (slot_ne (Or.inr (hw _ (List.mem_of_getElem? (i := 83) rfl))) (Or.inr (hw _ (List.mem_of_getElem? (i := 87) rfl))) (by decide) (t := .int) (t' := (.array .int)) (by decide) (by decide)))
  have F678 : Fld Z h668 a1 "com/example/retinue/retinue/Matching$Batch" "worker" "[I" (.ref wa) := Fld.other W668 F665 (Or.inr (slot_ne (Or.inr (hw _ (List.mem_of_getElem? (i := 85) rfl))) (Or.inr (hw _ (List.mem_of_getElem? (i := 87) rfl))) (by decide) (t := (.array .int)) (t' := (.array .int)) (by decide) (by decide)))
  have F679 : Fld Z h668 a1 "com/example/retinue/retinue/Matching$Batch" "task" "[I" (.ref ta) := Fld.same W668 F658
  have Z680 : n0 ≤ h668.size := by rw [W668.size]; exact Z666
  refine Go.of (g' := (mkF m 133 #[.val (.ref a1), .val (.int (2147483647 : Int32)), .val (.int (2147483647 : Int32)), .val (.ref wa), .val (.ref ta), .val (.ref da), .val (.int (Int32.ofNat n))] [])) st668 ?_
  have A681 := (⟨X668, hx, hby⟩ : Ax _ _ _ _ _ _ _ _ _ _ _ _ _ _ _)
  refine g_aloadN A681 d8_133 rfl rfl (pc' := 134) rfl ?_
  refine g_aload A681 d8_134 rfl rfl (pc' := 136) rfl ?_
  obtain ⟨T682, h682, X682, e682, W682, st682⟩ := putF X668 hx hZ hown (host := "") (Or.inl (hw _ (List.mem_of_getElem? (i := 88) rfl))) Via.refl e668 F672 F671 (Or.inr ⟨(hw _ (List.mem_of_getElem? (i := 89) rfl)), rfl, hnm⟩) (hw _ (List.mem_of_getElem? (i := 61) rfl)) (ty := (.array .double)) (by decide) rfl rfl (g := (mkF m 136 #[.val (.ref a1), .val (.int (2147483647 : Int32)), .val (.int (2147483647 : Int32)), .val (.ref wa), .val (.ref ta), .val (.ref da), .val (.int (Int32.ofNat n))] [(.ref da), (.ref a1)])) rfl rfl (hb hby d8_136)
  have N683 := Fr.snoc X682 N669 g606
  have K684 : Keep h0 h682 [a1] := K670.wr W682 (Or.inl (List.mem_of_getElem? (i := 0) rfl))
  have F685 : Exa Z h682 a1 "com/example/retinue/retinue/Matching$Batch" := Exa.wr W682 F671
  have F686 : Dar Z h682 wa .int n (fun t => .int (w t)) := Dar.other W682 F673 ne607
  have F687 : Dar Z h682 ta .int n (fun t => .int (y t)) := Dar.other W682 F674 ne608
  have F688 : Dar Z h682 da .double n (fun t => .double (d t)) := Dar.other W682 F675 ne609
  have F689 : Fld Z h682 a1 "com/example/retinue/retinue/Matching$Batch" "workers" "I" (.int (2147483647 : Int32)) := Fld.other W682 F676 (Or.inr (slot_ne (Or.inr (hw _ (List.mem_of_getElem? (i := 81) rfl))) (Or.inr (hw _ (List.mem_of_getElem? (i := 89) rfl))) (by decide) (t := .int) (t' := (.array .double)) (by decide) (by decide)))
  have F690 : Fld Z h682 a1 "com/example/retinue/retinue/Matching$Batch" "tasks" "I" (.int (2147483647 : Int32)) := Fld.other W682 F677 (Or.inr (slot_ne (Or.inr (hw _ (List.mem_of_getElem? (i := 83) rfl))) (Or.inr (hw _ (List.mem_of_getElem? (i := 89) rfl))) (by decide) (t := .int) (t' := (.array .double)) (by decide) (by decide)))
  have F691 : Fld Z h682 a1 "com/example/retinue/retinue/Matching$Batch" "worker" "[I" (.ref wa) := Fld.other W682 F678 (Or.inr (slot_ne (Or.inr (hw _ (List.mem_of_getElem? (i := 85) rfl))) (Or.inr (hw _ (List.mem_of_getElem? (i := 89) rfl))) (by decide) (t := (.array .int)) (t' := (.array .double)) (by decide) (by decide)))
  have F692 : Fld Z h682 a1 "com/example/retinue/retinue/Matching$Batch" "task" "[I" (.ref ta) := Fld.other W682 F679 (Or.inr (slot_ne (Or.inr (hw _ (List.mem_of_getElem? (i := 87) rfl))) (Or.inr (hw _ (List.mem_of_getElem? (i := 89) rfl))) (by decide) (t := (.array .int)) (t' := (.array .double)) (by decide) (by decide)))
  have F693 : Fld Z h682 a1 "com/example/retinue/retinue/Matching$Batch" "weight" "[D" (.ref da) := Fld.same W682 F672
  have Z694 : n0 ≤ h682.size := by rw [W682.size]; exact Z680
  refine Go.of (g' := (mkF m 139 #[.val (.ref a1), .val (.int (2147483647 : Int32)), .val (.int (2147483647 : Int32)), .val (.ref wa), .val (.ref ta), .val (.ref da), .val (.int (Int32.ofNat n))] [])) st682 ?_
  have A695 := (⟨X682, hx, hby⟩ : Ax _ _ _ _ _ _ _ _ _ _ _ _ _ _ _)
  exact g_retV (Q := Q8 Z a1 wa ta da w y d n u0 u1 u2 u3 u4 h0 n0) A695 d8_139 Bd.notSynchronized Bd.returns (by decide) (by decide) (by rw [e682]; exact ⟨rfl, N683, K684, F691, F692, F693⟩)
theorem d12_0 : decode prog_16_method_8_code 0 = .ok (.aload_n 0, 1) := by decide +kernel
theorem d12_1 : decode prog_16_method_8_code 1 = .ok (.getfield 33, 3) := by decide +kernel
theorem d12_4 : decode prog_16_method_8_code 4 = .ok (.areturn, 1) := by decide +kernel
theorem ef696 (m : MethodId) (a1 : Addr) (x2 : Addr) : entryFrame m #[(.ref a1)] 1 = mkF m 0 #[.val (.ref a1)] [] := by first | (simp [entryFrame, mkF, argsToLocals, Value.category]; done) | rfl
def Q12 (Z : State) (a1 : Addr) (x2 : Addr) (h0 : Heap) (n0 : Nat) (v : Option Value) (h : Heap) (L : List Loc) : Prop := v = some (.ref x2) ∧ Fr n0 L ∧ h = h0
set_option maxRecDepth 65536 in
set_option maxHeartbeats 40000000 in
theorem rm12 (l : Launch) (Z : State) (a0 : Array Value) (hw : ∀ d ∈ tables_1, d.before a0 Z = true) (ws : List Jvm.Cond) (a1 : Addr) (x2 : Addr) (h0 : Heap) (n0 : Nat) (Z0 : n0 ≤ h0.size) (F697 : Fld Z h0 a1 "com/example/retinue/retinue/Matching$Batch" "worker" "[I" (.ref x2)) :
    MetFree l (⟨"com/example/retinue/retinue/Matching$Batch", "worker", "()[I"⟩ : MethodName) (head1 (Jvm.Cond.code (⟨"com/example/retinue/retinue/Matching$Batch", "worker", "()[I"⟩ : MethodName) prog_16_method_8_code 1 (some (.array .int)) :: ws) ({ frames := 0, cells := 0, slots := 0, locals := 0 } : Room)) (fun a U => a = #[(.ref a1)] ∧ Z.Warmed39 U.vm ∧ U.heap = h0) (fun _ _ _ _ _ => True) (fun _ U o U' => ∃ v L, o = .returned v ∧ Q12 Z a1 x2 h0 n0 v U'.heap L ∧ FrameEnd U o U' L 0 0) := by
  refine MetFree.of_bodySF (plainFor_of_name pn_3) hisR ?_
  intro p e s m args below meth c s₁ Bd hml0 hP hK
  obtain ⟨rfl, hZ, hh⟩ := hP
  have hx := Bd.exec
  have hby := Bd.bytes
  have hml : c.maxLocals = 1 := hml0
  have hown : s.vm.findClass "com/example/retinue/retinue/Matching$Batch" = some m.cls := findClass_of_methodNamed Bd.named
  have hnm := (name_of_methodNamed Bd.named Bd.method).1
  have X0 : Stand p l e ({ frames := 0, cells := 0, slots := 0, locals := 0 } : Room) s m #[(.ref a1)] below meth c s₁ [] 0 0 := Stand.of_body Bd
  have e0 : s₁.heap = h0 := by rw [← hh, Bd.state]; rfl
  have N0 := Fr.nil n0
  have A0 := (⟨X0, hx, hby⟩ : Ax _ _ _ _ _ _ _ _ _ _ _ _ _ _ _)
  show Go p e below (fun U o => ∃ v L, o = .returned v ∧ Q12 Z a1 x2 h0 n0 v U.heap L ∧ FrameEnd s o U L 0 0) s₁ (entryFrame m #[(.ref a1)] 1)
  refine Go.cast (ef696 m a1 x2) ?_
  refine g_aloadN A0 d12_0 rfl rfl (pc' := 1) rfl ?_
  obtain ⟨T698, X698, e698, st698⟩ := getF X0 hx hZ hown (host := "") (Or.inl (hw _ (List.mem_of_getElem? (i := 84) rfl))) Via.refl e0 F697 (g := (mkF m 1 #[.val (.ref a1)] [(.ref a1)])) rfl rfl (hb hby d12_1)
  refine Go.of (g' := (mkF m 4 #[.val (.ref a1)] [(.ref x2)])) st698 ?_
  have A699 := (⟨X698, hx, hby⟩ : Ax _ _ _ _ _ _ _ _ _ _ _ _ _ _ _)
  exact g_ret (Q := Q12 Z a1 x2 h0 n0) A699 d12_4 Bd.notSynchronized Bd.returns rfl (Or.inr (Or.inr (Or.inr (Or.inr ⟨rfl, rfl, rfl⟩)))) (by decide) (by decide) (by rw [e698]; exact ⟨rfl, N0, rfl⟩)
theorem d13_0 : decode prog_16_method_9_code 0 = .ok (.aload_n 0, 1) := by decide +kernel
theorem d13_1 : decode prog_16_method_9_code 1 = .ok (.getfield 37, 3) := by decide +kernel
theorem d13_4 : decode prog_16_method_9_code 4 = .ok (.areturn, 1) := by decide +kernel
theorem ef700 (m : MethodId) (a1 : Addr) (x2 : Addr) : entryFrame m #[(.ref a1)] 1 = mkF m 0 #[.val (.ref a1)] [] := by first | (simp [entryFrame, mkF, argsToLocals, Value.category]; done) | rfl
def Q13 (Z : State) (a1 : Addr) (x2 : Addr) (h0 : Heap) (n0 : Nat) (v : Option Value) (h : Heap) (L : List Loc) : Prop := v = some (.ref x2) ∧ Fr n0 L ∧ h = h0
set_option maxRecDepth 65536 in
set_option maxHeartbeats 40000000 in
theorem rm13 (l : Launch) (Z : State) (a0 : Array Value) (hw : ∀ d ∈ tables_1, d.before a0 Z = true) (ws : List Jvm.Cond) (a1 : Addr) (x2 : Addr) (h0 : Heap) (n0 : Nat) (Z0 : n0 ≤ h0.size) (F701 : Fld Z h0 a1 "com/example/retinue/retinue/Matching$Batch" "task" "[I" (.ref x2)) :
    MetFree l (⟨"com/example/retinue/retinue/Matching$Batch", "task", "()[I"⟩ : MethodName) (head1 (Jvm.Cond.code (⟨"com/example/retinue/retinue/Matching$Batch", "task", "()[I"⟩ : MethodName) prog_16_method_9_code 1 (some (.array .int)) :: ws) ({ frames := 0, cells := 0, slots := 0, locals := 0 } : Room)) (fun a U => a = #[(.ref a1)] ∧ Z.Warmed39 U.vm ∧ U.heap = h0) (fun _ _ _ _ _ => True) (fun _ U o U' => ∃ v L, o = .returned v ∧ Q13 Z a1 x2 h0 n0 v U'.heap L ∧ FrameEnd U o U' L 0 0) := by
  refine MetFree.of_bodySF (plainFor_of_name pn_3) hisR ?_
  intro p e s m args below meth c s₁ Bd hml0 hP hK
  obtain ⟨rfl, hZ, hh⟩ := hP
  have hx := Bd.exec
  have hby := Bd.bytes
  have hml : c.maxLocals = 1 := hml0
  have hown : s.vm.findClass "com/example/retinue/retinue/Matching$Batch" = some m.cls := findClass_of_methodNamed Bd.named
  have hnm := (name_of_methodNamed Bd.named Bd.method).1
  have X0 : Stand p l e ({ frames := 0, cells := 0, slots := 0, locals := 0 } : Room) s m #[(.ref a1)] below meth c s₁ [] 0 0 := Stand.of_body Bd
  have e0 : s₁.heap = h0 := by rw [← hh, Bd.state]; rfl
  have N0 := Fr.nil n0
  have A0 := (⟨X0, hx, hby⟩ : Ax _ _ _ _ _ _ _ _ _ _ _ _ _ _ _)
  show Go p e below (fun U o => ∃ v L, o = .returned v ∧ Q13 Z a1 x2 h0 n0 v U.heap L ∧ FrameEnd s o U L 0 0) s₁ (entryFrame m #[(.ref a1)] 1)
  refine Go.cast (ef700 m a1 x2) ?_
  refine g_aloadN A0 d13_0 rfl rfl (pc' := 1) rfl ?_
  obtain ⟨T702, X702, e702, st702⟩ := getF X0 hx hZ hown (host := "") (Or.inl (hw _ (List.mem_of_getElem? (i := 86) rfl))) Via.refl e0 F701 (g := (mkF m 1 #[.val (.ref a1)] [(.ref a1)])) rfl rfl (hb hby d13_1)
  refine Go.of (g' := (mkF m 4 #[.val (.ref a1)] [(.ref x2)])) st702 ?_
  have A703 := (⟨X702, hx, hby⟩ : Ax _ _ _ _ _ _ _ _ _ _ _ _ _ _ _)
  exact g_ret (Q := Q13 Z a1 x2 h0 n0) A703 d13_4 Bd.notSynchronized Bd.returns rfl (Or.inr (Or.inr (Or.inr (Or.inr ⟨rfl, rfl, rfl⟩)))) (by decide) (by decide) (by rw [e702]; exact ⟨rfl, N0, rfl⟩)
theorem d14_0 : decode prog_16_method_10_code 0 = .ok (.aload_n 0, 1) := by decide +kernel
theorem d14_1 : decode prog_16_method_10_code 1 = .ok (.getfield 40, 3) := by decide +kernel
theorem d14_4 : decode prog_16_method_10_code 4 = .ok (.areturn, 1) := by decide +kernel
theorem ef704 (m : MethodId) (a1 : Addr) (x2 : Addr) : entryFrame m #[(.ref a1)] 1 = mkF m 0 #[.val (.ref a1)] [] := by first | (simp [entryFrame, mkF, argsToLocals, Value.category]; done) | rfl
def Q14 (Z : State) (a1 : Addr) (x2 : Addr) (h0 : Heap) (n0 : Nat) (v : Option Value) (h : Heap) (L : List Loc) : Prop := v = some (.ref x2) ∧ Fr n0 L ∧ h = h0
set_option maxRecDepth 65536 in
set_option maxHeartbeats 40000000 in
theorem rm14 (l : Launch) (Z : State) (a0 : Array Value) (hw : ∀ d ∈ tables_1, d.before a0 Z = true) (ws : List Jvm.Cond) (a1 : Addr) (x2 : Addr) (h0 : Heap) (n0 : Nat) (Z0 : n0 ≤ h0.size) (F705 : Fld Z h0 a1 "com/example/retinue/retinue/Matching$Batch" "weight" "[D" (.ref x2)) :
    MetFree l (⟨"com/example/retinue/retinue/Matching$Batch", "weight", "()[D"⟩ : MethodName) (head1 (Jvm.Cond.code (⟨"com/example/retinue/retinue/Matching$Batch", "weight", "()[D"⟩ : MethodName) prog_16_method_10_code 1 (some (.array .double)) :: ws) ({ frames := 0, cells := 0, slots := 0, locals := 0 } : Room)) (fun a U => a = #[(.ref a1)] ∧ Z.Warmed39 U.vm ∧ U.heap = h0) (fun _ _ _ _ _ => True) (fun _ U o U' => ∃ v L, o = .returned v ∧ Q14 Z a1 x2 h0 n0 v U'.heap L ∧ FrameEnd U o U' L 0 0) := by
  refine MetFree.of_bodySF (plainFor_of_name pn_3) hisR ?_
  intro p e s m args below meth c s₁ Bd hml0 hP hK
  obtain ⟨rfl, hZ, hh⟩ := hP
  have hx := Bd.exec
  have hby := Bd.bytes
  have hml : c.maxLocals = 1 := hml0
  have hown : s.vm.findClass "com/example/retinue/retinue/Matching$Batch" = some m.cls := findClass_of_methodNamed Bd.named
  have hnm := (name_of_methodNamed Bd.named Bd.method).1
  have X0 : Stand p l e ({ frames := 0, cells := 0, slots := 0, locals := 0 } : Room) s m #[(.ref a1)] below meth c s₁ [] 0 0 := Stand.of_body Bd
  have e0 : s₁.heap = h0 := by rw [← hh, Bd.state]; rfl
  have N0 := Fr.nil n0
  have A0 := (⟨X0, hx, hby⟩ : Ax _ _ _ _ _ _ _ _ _ _ _ _ _ _ _)
  show Go p e below (fun U o => ∃ v L, o = .returned v ∧ Q14 Z a1 x2 h0 n0 v U.heap L ∧ FrameEnd s o U L 0 0) s₁ (entryFrame m #[(.ref a1)] 1)
  refine Go.cast (ef704 m a1 x2) ?_
  refine g_aloadN A0 d14_0 rfl rfl (pc' := 1) rfl ?_
  obtain ⟨T706, X706, e706, st706⟩ := getF X0 hx hZ hown (host := "") (Or.inl (hw _ (List.mem_of_getElem? (i := 88) rfl))) Via.refl e0 F705 (g := (mkF m 1 #[.val (.ref a1)] [(.ref a1)])) rfl rfl (hb hby d14_1)
  refine Go.of (g' := (mkF m 4 #[.val (.ref a1)] [(.ref x2)])) st706 ?_
  have A707 := (⟨X706, hx, hby⟩ : Ax _ _ _ _ _ _ _ _ _ _ _ _ _ _ _)
  exact g_ret (Q := Q14 Z a1 x2 h0 n0) A707 d14_4 Bd.notSynchronized Bd.returns rfl (Or.inr (Or.inr (Or.inr (Or.inr ⟨rfl, rfl, rfl⟩)))) (by decide) (by decide) (by rw [e706]; exact ⟨rfl, N0, rfl⟩)
theorem d7_0 : decode prog_17_method_3_code 0 = .ok (.new 33, 3) := by decide +kernel
theorem d7_3 : decode prog_17_method_3_code 3 = .ok (.dup, 1) := by decide +kernel
theorem d7_4 : decode prog_17_method_3_code 4 = .ok (.iload_n 1, 1) := by decide +kernel
theorem d7_5 : decode prog_17_method_3_code 5 = .ok (.iload_n 2, 1) := by decide +kernel
theorem d7_6 : decode prog_17_method_3_code 6 = .ok (.aload_n 0, 1) := by decide +kernel
theorem d7_7 : decode prog_17_method_3_code 7 = .ok (.getfield 7, 3) := by decide +kernel
theorem d7_10 : decode prog_17_method_3_code 10 = .ok (.aload_n 0, 1) := by decide +kernel
theorem d7_11 : decode prog_17_method_3_code 11 = .ok (.getfield 20, 3) := by decide +kernel
theorem d7_14 : decode prog_17_method_3_code 14 = .ok (.invokestatic 24, 3) := by decide +kernel
theorem d7_17 : decode prog_17_method_3_code 17 = .ok (.aload_n 0, 1) := by decide +kernel
theorem d7_18 : decode prog_17_method_3_code 18 = .ok (.getfield 13, 3) := by decide +kernel
theorem d7_21 : decode prog_17_method_3_code 21 = .ok (.aload_n 0, 1) := by decide +kernel
theorem d7_22 : decode prog_17_method_3_code 22 = .ok (.getfield 20, 3) := by decide +kernel
theorem d7_25 : decode prog_17_method_3_code 25 = .ok (.invokestatic 24, 3) := by decide +kernel
theorem d7_28 : decode prog_17_method_3_code 28 = .ok (.aload_n 0, 1) := by decide +kernel
theorem d7_29 : decode prog_17_method_3_code 29 = .ok (.getfield 16, 3) := by decide +kernel
theorem d7_32 : decode prog_17_method_3_code 32 = .ok (.aload_n 0, 1) := by decide +kernel
theorem d7_33 : decode prog_17_method_3_code 33 = .ok (.getfield 20, 3) := by decide +kernel
theorem d7_36 : decode prog_17_method_3_code 36 = .ok (.invokestatic 30, 3) := by decide +kernel
theorem d7_39 : decode prog_17_method_3_code 39 = .ok (.invokespecial 35, 3) := by decide +kernel
theorem d7_42 : decode prog_17_method_3_code 42 = .ok (.areturn, 1) := by decide +kernel
theorem ef708 (m : MethodId) (a1 : Addr) (wa : Addr) (ta : Addr) (da : Addr) (w : Nat → Int32) (y : Nat → Int32) (d : Nat → UInt64) : entryFrame m #[(.ref a1), (.int (2147483647 : Int32)), (.int (2147483647 : Int32))] 3 = mkF m 0 #[.val (.ref a1), .val (.int (2147483647 : Int32)), .val (.int (2147483647 : Int32))] [] := by first | (simp [entryFrame, mkF, argsToLocals, Value.category]; done) | rfl
def QT16 (Z : State) (a1 : Addr) (wa : Addr) (ta : Addr) (da : Addr) (w : Nat → Int32) (y : Nat → Int32) (d : Nat → UInt64) (h0 : Heap) (n0 : Nat) (v : Option Value) (h : Heap) (L : List Loc) : Prop := ∃ r : Addr, ∃ wb : Addr, ∃ tb : Addr, ∃ db : Addr, v = some (.ref r) ∧ Fr n0 L ∧ Keep h0 h [] ∧ h0.size ≤ r ∧ Exa Z h r "com/example/retinue/retinue/Matching$Batch" ∧ Fld Z h r "com/example/retinue/retinue/Matching$Batch" "worker" "[I" (.ref wb) ∧ Fld Z h r "com/example/retinue/retinue/Matching$Batch" "task" "[I" (.ref tb) ∧ Fld Z h r "com/example/retinue/retinue/Matching$Batch" "weight" "[D" (.ref db) ∧ Dar Z h wb .int 16 (fun t => .int ((own_pi w 16) t)) ∧ Dar Z h tb .int 16 (fun t => .int ((own_pi y 16) t)) ∧ Dar Z h db .double 16 (fun t => .double ((own_pd d 16) t))
theorem pd_5 : parseMethodDescriptor "(II[I[I[D)V" = some ⟨[.int, .int, (.array .int), (.array .int), (.array .double)], none⟩ := by decide +kernel
set_option maxRecDepth 65536 in
set_option maxHeartbeats 40000000 in
theorem rmT16 (l : Launch) (Z : State) (a0 : Array Value) (hw : ∀ d ∈ tables_1, d.before a0 Z = true) (ws : List Jvm.Cond) (a1 : Addr) (wa : Addr) (ta : Addr) (da : Addr) (w : Nat → Int32) (y : Nat → Int32) (d : Nat → UInt64) (h0 : Heap) (n0 : Nat) (Z0 : n0 ≤ h0.size) (E709 : Exa Z h0 a1 "com/example/retinue/retinue/Matching$Pairs") (F710 : Fld Z h0 a1 "com/example/retinue/retinue/Matching$Pairs" "worker" "[I" (.ref wa)) (F711 : Fld Z h0 a1 "com/example/retinue/retinue/Matching$Pairs" "task" "[I" (.ref ta)) (F712 : Fld Z h0 a1 "com/example/retinue/retinue/Matching$Pairs" "weight" "[D" (.ref da)) (F713 : Fld Z h0 a1 "com/example/retinue/retinue/Matching$Pairs" "count" "I" (.int (16 : Int32))) (V714 : Dar Z h0 wa .int 16 (fun t => .int ((own_pi w 16) t))) (V715 : Dar Z h0 ta .int 16 (fun t => .int ((own_pi y 16) t))) (V716 : Dar Z h0 da .double 16 (fun t => .double ((own_pd d 16) t))) (E717 : Exa Z h0 wa "[I") (E718 : Exa Z h0 ta "[I") (E719 : Exa Z h0 da "[D") (hw1 : ∀ t, t < 16 → ¬ (own_pi w 16) t < 0 ∧ (own_pi w 16) t < (2147483647 : Int32)) (hv1 : ∀ t, t < 16 → ¬ (own_pi y 16) t < 0 ∧ (own_pi y 16) t < (2147483647 : Int32)) (hd1 : ∀ t, t < 16 → Fin64 ((own_pd d 16) t)) :
    MetFree l (⟨"com/example/retinue/retinue/Matching$Pairs", "batch", "(II)Lcom/example/retinue/retinue/Matching$Batch;"⟩ : MethodName) (head1 (Jvm.Cond.code (⟨"com/example/retinue/retinue/Matching$Pairs", "batch", "(II)Lcom/example/retinue/retinue/Matching$Batch;"⟩ : MethodName) prog_17_method_3_code 3 (some (.object "com/example/retinue/retinue/Matching$Batch")) :: ws) ({ frames := 3, cells := 4, slots := 53, locals := 45 } : Room)) (fun a U => a = #[(.ref a1), (.int (2147483647 : Int32)), (.int (2147483647 : Int32))] ∧ Z.Warmed39 U.vm ∧ U.heap = h0) (fun _ _ _ _ _ => True) (fun _ U o U' => ∃ v L, o = .returned v ∧ QT16 Z a1 wa ta da w y d h0 n0 v U'.heap L ∧ FrameEnd U o U' L 4 53) := by
  refine MetFree.of_bodySF (plainFor_of_name pn_2) hisR ?_
  intro p e s m args below meth c s₁ Bd hml0 hP hK
  obtain ⟨rfl, hZ, hh⟩ := hP
  have hx := Bd.exec
  have hby := Bd.bytes
  have hml : c.maxLocals = 3 := hml0
  have hown : s.vm.findClass "com/example/retinue/retinue/Matching$Pairs" = some m.cls := findClass_of_methodNamed Bd.named
  have hnm := (name_of_methodNamed Bd.named Bd.method).1
  have X0 : Stand p l e ({ frames := 3, cells := 4, slots := 53, locals := 45 } : Room) s m #[(.ref a1), (.int (2147483647 : Int32)), (.int (2147483647 : Int32))] below meth c s₁ [] 0 0 := Stand.of_body Bd
  have e0 : s₁.heap = h0 := by rw [← hh, Bd.state]; rfl
  have N0 := Fr.nil n0
  have A0 := (⟨X0, hx, hby⟩ : Ax _ _ _ _ _ _ _ _ _ _ _ _ _ _ _)
  show Go p e below (fun U o => ∃ v L, o = .returned v ∧ QT16 Z a1 wa ta da w y d h0 n0 v U.heap L ∧ FrameEnd s o U L 4 53) s₁ (entryFrame m #[(.ref a1), (.int (2147483647 : Int32)), (.int (2147483647 : Int32))] 3)
  refine Go.cast (ef708 m a1 wa ta da w y d) ?_
  obtain ⟨T720, h720, X720, e720, E720, EA720, D720, -, st720⟩ := newO X0 hx hZ hown (hw _ (List.mem_of_getElem? (i := 60) rfl)) (hw _ (List.mem_of_getElem? (i := 61) rfl)) (hw _ (List.mem_of_getElem? (i := 62) rfl)) e0 (g := (mkF m 0 #[.val (.ref a1), .val (.int (2147483647 : Int32)), .val (.int (2147483647 : Int32))] [])) rfl (hb hby d7_0) (by decide) (by decide)
  obtain ⟨a721, ea721⟩ : ∃ z, z = h0.size := ⟨_, rfl⟩
  rw [← ea721] at EA720 D720 st720
  have ne722 : a1 ≠ a721 := own_ne ea721 E709.lt
  have ne723 : da ≠ a721 := own_ne ea721 V716.lt
  have ne724 : ta ≠ a721 := own_ne ea721 V715.lt
  have ne725 : wa ≠ a721 := own_ne ea721 V714.lt
  have g726 : n0 ≤ a721 := by rw [ea721]; exact Z0
  have gh727 : h0.size ≤ a721 := by rw [ea721]; exact (Keep.refl h0 []).1
  have K728 : Keep h0 h720 [] := (Keep.refl h0 []).ext E720
  have E729 : Exa Z h720 a1 "com/example/retinue/retinue/Matching$Pairs" := Exa.ext E720 E709
  have F730 : Fld Z h720 a1 "com/example/retinue/retinue/Matching$Pairs" "worker" "[I" (.ref wa) := Fld.ext E720 F710
  have F731 : Fld Z h720 a1 "com/example/retinue/retinue/Matching$Pairs" "task" "[I" (.ref ta) := Fld.ext E720 F711
  have F732 : Fld Z h720 a1 "com/example/retinue/retinue/Matching$Pairs" "weight" "[D" (.ref da) := Fld.ext E720 F712
  have F733 : Fld Z h720 a1 "com/example/retinue/retinue/Matching$Pairs" "count" "I" (.int (16 : Int32)) := Fld.ext E720 F713
  have V734 : Dar Z h720 wa .int 16 (fun t => .int ((own_pi w 16) t)) := Dar.ext E720 V714
  have V735 : Dar Z h720 ta .int 16 (fun t => .int ((own_pi y 16) t)) := Dar.ext E720 V715
  have V736 : Dar Z h720 da .double 16 (fun t => .double ((own_pd d 16) t)) := Dar.ext E720 V716
  have E737 : Exa Z h720 wa "[I" := Exa.ext E720 E717
  have E738 : Exa Z h720 ta "[I" := Exa.ext E720 E718
  have E739 : Exa Z h720 da "[D" := Exa.ext E720 E719
  have Z740 : n0 ≤ h720.size := Nat.le_trans Z0 E720.1
  have F741 : Fld Z h720 a721 "com/example/retinue/retinue/Matching$Batch" "workers" "I" (.int (0 : Int32)) := D720 (Or.inr (hw _ (List.mem_of_getElem? (i := 81) rfl))) (ty := .int) (by decide)
  have F742 : Fld Z h720 a721 "com/example/retinue/retinue/Matching$Batch" "tasks" "I" (.int (0 : Int32)) := D720 (Or.inr (hw _ (List.mem_of_getElem? (i := 83) rfl))) (ty := .int) (by decide)
  have F743 : Fld Z h720 a721 "com/example/retinue/retinue/Matching$Batch" "worker" "[I" .null := D720 (Or.inr (hw _ (List.mem_of_getElem? (i := 85) rfl))) (ty := (.array .int)) (by decide)
  have F744 : Fld Z h720 a721 "com/example/retinue/retinue/Matching$Batch" "task" "[I" .null := D720 (Or.inr (hw _ (List.mem_of_getElem? (i := 87) rfl))) (ty := (.array .int)) (by decide)
  have F745 : Fld Z h720 a721 "com/example/retinue/retinue/Matching$Batch" "weight" "[D" .null := D720 (Or.inr (hw _ (List.mem_of_getElem? (i := 89) rfl))) (ty := (.array .double)) (by decide)
  refine Go.of (g' := (mkF m 3 #[.val (.ref a1), .val (.int (2147483647 : Int32)), .val (.int (2147483647 : Int32))] [(.ref a721)])) st720 ?_
  have A746 := (⟨X720, hx, hby⟩ : Ax _ _ _ _ _ _ _ _ _ _ _ _ _ _ _)
  refine g_dup A746 d7_3 rfl (pc' := 4) rfl ?_
  refine g_iloadN A746 d7_4 rfl (pc' := 5) rfl ?_
  refine g_iloadN A746 d7_5 rfl (pc' := 6) rfl ?_
  refine g_aloadN A746 d7_6 rfl rfl (pc' := 7) rfl ?_
  obtain ⟨T747, X747, e747, st747⟩ := getF X720 hx hZ hown (host := "") (Or.inl (hw _ (List.mem_of_getElem? (i := 11) rfl))) Via.refl e720 F730 (g := (mkF m 7 #[.val (.ref a1), .val (.int (2147483647 : Int32)), .val (.int (2147483647 : Int32))] [(.ref a1), (.int (2147483647 : Int32)), (.int (2147483647 : Int32)), (.ref a721), (.ref a721)])) rfl rfl (hb hby d7_7)
  refine Go.of (g' := (mkF m 10 #[.val (.ref a1), .val (.int (2147483647 : Int32)), .val (.int (2147483647 : Int32))] [(.ref wa), (.int (2147483647 : Int32)), (.int (2147483647 : Int32)), (.ref a721), (.ref a721)])) st747 ?_
  have A748 := (⟨X747, hx, hby⟩ : Ax _ _ _ _ _ _ _ _ _ _ _ _ _ _ _)
  refine g_aloadN A748 d7_10 rfl rfl (pc' := 11) rfl ?_
  obtain ⟨T749, X749, e749, st749⟩ := getF X747 hx hZ hown (host := "") (Or.inl (hw _ (List.mem_of_getElem? (i := 23) rfl))) Via.refl e747 F733 (g := (mkF m 11 #[.val (.ref a1), .val (.int (2147483647 : Int32)), .val (.int (2147483647 : Int32))] [(.ref a1), (.ref wa), (.int (2147483647 : Int32)), (.int (2147483647 : Int32)), (.ref a721), (.ref a721)])) rfl rfl (hb hby d7_11)
  refine Go.of (g' := (mkF m 14 #[.val (.ref a1), .val (.int (2147483647 : Int32)), .val (.int (2147483647 : Int32))] [(.int (16 : Int32)), (.ref wa), (.int (2147483647 : Int32)), (.int (2147483647 : Int32)), (.ref a721), (.ref a721)])) st749 ?_
  have A750 := (⟨X749, hx, hby⟩ : Ax _ _ _ _ _ _ _ _ _ _ _ _ _ _ _)
  obtain ⟨vv751, _, ⟨T751, L751, k751, n751⟩, -, X751, ⟨L751c, hQ751, l751, y751, z751⟩, st751⟩ := Jvm.LawKit.callS X749 hx (y := (⟨"java/util/Arrays", "copyOf", "([II)[I"⟩ : MethodName)) hown (mvT hZ (hw _ (List.mem_of_getElem? (i := 39) rfl))) (mvT hZ (hw _ (List.mem_of_getElem? (i := 40) rfl))) (mvT hZ (hw _ (List.mem_of_getElem? (i := 41) rfl))) (mvT hZ (hw _ (List.mem_of_getElem? (i := 42) rfl))) (by decide) (backOf (W := 4) (rmCI16_16 l Z a0 hw [] wa (own_pi w 16) h720 n0 Z740 V734 E737) hZ (hw _ (List.mem_of_getElem? (i := 42) rfl)) (hw _ (List.mem_of_getElem? (i := 41) rfl)) (by decide) (by decide)) (g := (mkF m 14 #[.val (.ref a1), .val (.int (2147483647 : Int32)), .val (.int (2147483647 : Int32))] [(.int (16 : Int32)), (.ref wa), (.int (2147483647 : Int32)), (.int (2147483647 : Int32)), (.ref a721), (.ref a721)])) rfl (by rw [hml]; rfl) (argsL := [(.ref wa), (.int (16 : Int32))]) (rest := [(.int (2147483647 : Int32)), (.int (2147483647 : Int32)), (.ref a721), (.ref a721)]) (lenOf pd_1 rfl) rfl (by show 2 * 0 + _ ≤ _; exact Nat.le_of_eq rfl) (hb hby d7_14) (fun _ _ => ⟨rfl, e749, (by decide : 1 + 1 ≤ _), (by decide : 5 + 16 ≤ _)⟩)
  have hQ751b : QCI16_16 Z wa (own_pi w 16) h720 n0 vv751 T751.heap L751c := hQ751
  clear hQ751
  dsimp only [Pt.U, Pt.locs, Pt.cells, Pt.slots] at X751 l751 y751 z751 st751
  subst y751 z751
  obtain ⟨r752, rfl, Nq753, Kq754, gx755, E756, V757⟩ := hQ751b
  have N758 : Fr n0 L751 := by rw [l751]; exact Fr.app N0 Nq753
  refine Go.of (g' := (mkF m 17 #[.val (.ref a1), .val (.int (2147483647 : Int32)), .val (.int (2147483647 : Int32))] [(.ref r752), (.int (2147483647 : Int32)), (.int (2147483647 : Int32)), (.ref a721), (.ref a721)])) st751 ?_
  have E759 : Exa Z T751.heap a1 "com/example/retinue/retinue/Matching$Pairs" := Exa.keep E729 Kq754
  have F760 : Fld Z T751.heap a1 "com/example/retinue/retinue/Matching$Pairs" "worker" "[I" (.ref wa) := Fld.keep F730 Kq754 nin0
  have F761 : Fld Z T751.heap a1 "com/example/retinue/retinue/Matching$Pairs" "task" "[I" (.ref ta) := Fld.keep F731 Kq754 nin0
  have F762 : Fld Z T751.heap a1 "com/example/retinue/retinue/Matching$Pairs" "weight" "[D" (.ref da) := Fld.keep F732 Kq754 nin0
  have F763 : Fld Z T751.heap a1 "com/example/retinue/retinue/Matching$Pairs" "count" "I" (.int (16 : Int32)) := Fld.keep F733 Kq754 nin0
  have V764 : Dar Z T751.heap wa .int 16 (fun t => .int ((own_pi w 16) t)) := Dar.keep V734 Kq754 nin0
  have V765 : Dar Z T751.heap ta .int 16 (fun t => .int ((own_pi y 16) t)) := Dar.keep V735 Kq754 nin0
  have V766 : Dar Z T751.heap da .double 16 (fun t => .double ((own_pd d 16) t)) := Dar.keep V736 Kq754 nin0
  have E767 : Exa Z T751.heap wa "[I" := Exa.keep E737 Kq754
  have E768 : Exa Z T751.heap ta "[I" := Exa.keep E738 Kq754
  have E769 : Exa Z T751.heap da "[D" := Exa.keep E739 Kq754
  have E770 : Exa Z T751.heap a721 "com/example/retinue/retinue/Matching$Batch" := Exa.keep EA720 Kq754
  have F771 : Fld Z T751.heap a721 "com/example/retinue/retinue/Matching$Batch" "workers" "I" (.int (0 : Int32)) := Fld.keep F741 Kq754 nin0
  have F772 : Fld Z T751.heap a721 "com/example/retinue/retinue/Matching$Batch" "tasks" "I" (.int (0 : Int32)) := Fld.keep F742 Kq754 nin0
  have F773 : Fld Z T751.heap a721 "com/example/retinue/retinue/Matching$Batch" "worker" "[I" .null := Fld.keep F743 Kq754 nin0
  have F774 : Fld Z T751.heap a721 "com/example/retinue/retinue/Matching$Batch" "task" "[I" .null := Fld.keep F744 Kq754 nin0
  have F775 : Fld Z T751.heap a721 "com/example/retinue/retinue/Matching$Batch" "weight" "[D" .null := Fld.keep F745 Kq754 nin0
  have Z776 : n0 ≤ T751.heap.size := Nat.le_trans Z740 Kq754.1
  have K777 : Keep h0 T751.heap [] := K728.trans Kq754 all0
  have A778 := (⟨X751, hx, hby⟩ : Ax _ _ _ _ _ _ _ _ _ _ _ _ _ _ _)
  have g779 : n0 ≤ r752 := Nat.le_trans Z740 gx755
  have gh780 : h0.size ≤ r752 := Nat.le_trans K728.1 gx755
  have ne781 : a1 ≠ r752 := Nat.ne_of_lt (Nat.lt_of_lt_of_le E729.lt gx755)
  have ne782 : a721 ≠ r752 := Nat.ne_of_lt (Nat.lt_of_lt_of_le EA720.lt gx755)
  have ne783 : da ≠ r752 := Nat.ne_of_lt (Nat.lt_of_lt_of_le V736.lt gx755)
  have ne784 : ta ≠ r752 := Nat.ne_of_lt (Nat.lt_of_lt_of_le V735.lt gx755)
  have ne785 : wa ≠ r752 := Nat.ne_of_lt (Nat.lt_of_lt_of_le V734.lt gx755)
  refine g_aloadN A778 d7_17 rfl rfl (pc' := 18) rfl ?_
  obtain ⟨T786, X786, e786, st786⟩ := getF X751 hx hZ hown (host := "") (Or.inl (hw _ (List.mem_of_getElem? (i := 13) rfl))) Via.refl rfl F761 (g := (mkF m 18 #[.val (.ref a1), .val (.int (2147483647 : Int32)), .val (.int (2147483647 : Int32))] [(.ref a1), (.ref r752), (.int (2147483647 : Int32)), (.int (2147483647 : Int32)), (.ref a721), (.ref a721)])) rfl rfl (hb hby d7_18)
  refine Go.of (g' := (mkF m 21 #[.val (.ref a1), .val (.int (2147483647 : Int32)), .val (.int (2147483647 : Int32))] [(.ref ta), (.ref r752), (.int (2147483647 : Int32)), (.int (2147483647 : Int32)), (.ref a721), (.ref a721)])) st786 ?_
  have A787 := (⟨X786, hx, hby⟩ : Ax _ _ _ _ _ _ _ _ _ _ _ _ _ _ _)
  refine g_aloadN A787 d7_21 rfl rfl (pc' := 22) rfl ?_
  obtain ⟨T788, X788, e788, st788⟩ := getF X786 hx hZ hown (host := "") (Or.inl (hw _ (List.mem_of_getElem? (i := 23) rfl))) Via.refl e786 F763 (g := (mkF m 22 #[.val (.ref a1), .val (.int (2147483647 : Int32)), .val (.int (2147483647 : Int32))] [(.ref a1), (.ref ta), (.ref r752), (.int (2147483647 : Int32)), (.int (2147483647 : Int32)), (.ref a721), (.ref a721)])) rfl rfl (hb hby d7_22)
  refine Go.of (g' := (mkF m 25 #[.val (.ref a1), .val (.int (2147483647 : Int32)), .val (.int (2147483647 : Int32))] [(.int (16 : Int32)), (.ref ta), (.ref r752), (.int (2147483647 : Int32)), (.int (2147483647 : Int32)), (.ref a721), (.ref a721)])) st788 ?_
  have A789 := (⟨X788, hx, hby⟩ : Ax _ _ _ _ _ _ _ _ _ _ _ _ _ _ _)
  obtain ⟨vv790, _, ⟨T790, L790, k790, n790⟩, -, X790, ⟨L790c, hQ790, l790, y790, z790⟩, st790⟩ := Jvm.LawKit.callS X788 hx (y := (⟨"java/util/Arrays", "copyOf", "([II)[I"⟩ : MethodName)) hown (mvT hZ (hw _ (List.mem_of_getElem? (i := 39) rfl))) (mvT hZ (hw _ (List.mem_of_getElem? (i := 40) rfl))) (mvT hZ (hw _ (List.mem_of_getElem? (i := 41) rfl))) (mvT hZ (hw _ (List.mem_of_getElem? (i := 42) rfl))) (by decide) (backOf (W := 5) (rmCI16_16 l Z a0 hw [] ta (own_pi y 16) T751.heap n0 Z776 V765 E768) hZ (hw _ (List.mem_of_getElem? (i := 42) rfl)) (hw _ (List.mem_of_getElem? (i := 41) rfl)) (by decide) (by decide)) (g := (mkF m 25 #[.val (.ref a1), .val (.int (2147483647 : Int32)), .val (.int (2147483647 : Int32))] [(.int (16 : Int32)), (.ref ta), (.ref r752), (.int (2147483647 : Int32)), (.int (2147483647 : Int32)), (.ref a721), (.ref a721)])) rfl (by rw [hml]; rfl) (argsL := [(.ref ta), (.int (16 : Int32))]) (rest := [(.ref r752), (.int (2147483647 : Int32)), (.int (2147483647 : Int32)), (.ref a721), (.ref a721)]) (lenOf pd_1 rfl) rfl (by show 2 * 0 + _ ≤ _; exact Nat.le_of_eq rfl) (hb hby d7_25) (fun _ _ => ⟨rfl, e788, (by decide : 2 + 1 ≤ _), (by decide : 21 + 16 ≤ _)⟩)
  have hQ790b : QCI16_16 Z ta (own_pi y 16) T751.heap n0 vv790 T790.heap L790c := hQ790
  clear hQ790
  dsimp only [Pt.U, Pt.locs, Pt.cells, Pt.slots] at X790 l790 y790 z790 st790
  subst y790 z790
  obtain ⟨r791, rfl, Nq792, Kq793, gx794, E795, V796⟩ := hQ790b
  have N797 : Fr n0 L790 := by rw [l790]; exact Fr.app N758 Nq792
  refine Go.of (g' := (mkF m 28 #[.val (.ref a1), .val (.int (2147483647 : Int32)), .val (.int (2147483647 : Int32))] [(.ref r791), (.ref r752), (.int (2147483647 : Int32)), (.int (2147483647 : Int32)), (.ref a721), (.ref a721)])) st790 ?_
  have E798 : Exa Z T790.heap a1 "com/example/retinue/retinue/Matching$Pairs" := Exa.keep E759 Kq793
  have F799 : Fld Z T790.heap a1 "com/example/retinue/retinue/Matching$Pairs" "worker" "[I" (.ref wa) := Fld.keep F760 Kq793 nin0
  have F800 : Fld Z T790.heap a1 "com/example/retinue/retinue/Matching$Pairs" "task" "[I" (.ref ta) := Fld.keep F761 Kq793 nin0
  have F801 : Fld Z T790.heap a1 "com/example/retinue/retinue/Matching$Pairs" "weight" "[D" (.ref da) := Fld.keep F762 Kq793 nin0
  have F802 : Fld Z T790.heap a1 "com/example/retinue/retinue/Matching$Pairs" "count" "I" (.int (16 : Int32)) := Fld.keep F763 Kq793 nin0
  have V803 : Dar Z T790.heap wa .int 16 (fun t => .int ((own_pi w 16) t)) := Dar.keep V764 Kq793 nin0
  have V804 : Dar Z T790.heap ta .int 16 (fun t => .int ((own_pi y 16) t)) := Dar.keep V765 Kq793 nin0
  have V805 : Dar Z T790.heap da .double 16 (fun t => .double ((own_pd d 16) t)) := Dar.keep V766 Kq793 nin0
  have E806 : Exa Z T790.heap wa "[I" := Exa.keep E767 Kq793
  have E807 : Exa Z T790.heap ta "[I" := Exa.keep E768 Kq793
  have E808 : Exa Z T790.heap da "[D" := Exa.keep E769 Kq793
  have E809 : Exa Z T790.heap a721 "com/example/retinue/retinue/Matching$Batch" := Exa.keep E770 Kq793
  have F810 : Fld Z T790.heap a721 "com/example/retinue/retinue/Matching$Batch" "workers" "I" (.int (0 : Int32)) := Fld.keep F771 Kq793 nin0
  have F811 : Fld Z T790.heap a721 "com/example/retinue/retinue/Matching$Batch" "tasks" "I" (.int (0 : Int32)) := Fld.keep F772 Kq793 nin0
  have F812 : Fld Z T790.heap a721 "com/example/retinue/retinue/Matching$Batch" "worker" "[I" .null := Fld.keep F773 Kq793 nin0
  have F813 : Fld Z T790.heap a721 "com/example/retinue/retinue/Matching$Batch" "task" "[I" .null := Fld.keep F774 Kq793 nin0
  have F814 : Fld Z T790.heap a721 "com/example/retinue/retinue/Matching$Batch" "weight" "[D" .null := Fld.keep F775 Kq793 nin0
  have E815 : Exa Z T790.heap r752 "[I" := Exa.keep E756 Kq793
  have V816 : Dar Z T790.heap r752 .int 16 (fun t => .int ((own_pi w 16) t)) := Dar.keep V757 Kq793 nin0
  have Z817 : n0 ≤ T790.heap.size := Nat.le_trans Z776 Kq793.1
  have K818 : Keep h0 T790.heap [] := K777.trans Kq793 all0
  have A819 := (⟨X790, hx, hby⟩ : Ax _ _ _ _ _ _ _ _ _ _ _ _ _ _ _)
  have g820 : n0 ≤ r791 := Nat.le_trans Z776 gx794
  have gh821 : h0.size ≤ r791 := Nat.le_trans K777.1 gx794
  have ne822 : a1 ≠ r791 := Nat.ne_of_lt (Nat.lt_of_lt_of_le E759.lt gx794)
  have ne823 : a721 ≠ r791 := Nat.ne_of_lt (Nat.lt_of_lt_of_le E770.lt gx794)
  have ne824 : da ≠ r791 := Nat.ne_of_lt (Nat.lt_of_lt_of_le V766.lt gx794)
  have ne825 : r752 ≠ r791 := Nat.ne_of_lt (Nat.lt_of_lt_of_le E756.lt gx794)
  have ne826 : ta ≠ r791 := Nat.ne_of_lt (Nat.lt_of_lt_of_le V765.lt gx794)
  have ne827 : wa ≠ r791 := Nat.ne_of_lt (Nat.lt_of_lt_of_le V764.lt gx794)
  refine g_aloadN A819 d7_28 rfl rfl (pc' := 29) rfl ?_
  obtain ⟨T828, X828, e828, st828⟩ := getF X790 hx hZ hown (host := "") (Or.inl (hw _ (List.mem_of_getElem? (i := 16) rfl))) Via.refl rfl F801 (g := (mkF m 29 #[.val (.ref a1), .val (.int (2147483647 : Int32)), .val (.int (2147483647 : Int32))] [(.ref a1), (.ref r791), (.ref r752), (.int (2147483647 : Int32)), (.int (2147483647 : Int32)), (.ref a721), (.ref a721)])) rfl rfl (hb hby d7_29)
  refine Go.of (g' := (mkF m 32 #[.val (.ref a1), .val (.int (2147483647 : Int32)), .val (.int (2147483647 : Int32))] [(.ref da), (.ref r791), (.ref r752), (.int (2147483647 : Int32)), (.int (2147483647 : Int32)), (.ref a721), (.ref a721)])) st828 ?_
  have A829 := (⟨X828, hx, hby⟩ : Ax _ _ _ _ _ _ _ _ _ _ _ _ _ _ _)
  refine g_aloadN A829 d7_32 rfl rfl (pc' := 33) rfl ?_
  obtain ⟨T830, X830, e830, st830⟩ := getF X828 hx hZ hown (host := "") (Or.inl (hw _ (List.mem_of_getElem? (i := 23) rfl))) Via.refl e828 F802 (g := (mkF m 33 #[.val (.ref a1), .val (.int (2147483647 : Int32)), .val (.int (2147483647 : Int32))] [(.ref a1), (.ref da), (.ref r791), (.ref r752), (.int (2147483647 : Int32)), (.int (2147483647 : Int32)), (.ref a721), (.ref a721)])) rfl rfl (hb hby d7_33)
  refine Go.of (g' := (mkF m 36 #[.val (.ref a1), .val (.int (2147483647 : Int32)), .val (.int (2147483647 : Int32))] [(.int (16 : Int32)), (.ref da), (.ref r791), (.ref r752), (.int (2147483647 : Int32)), (.int (2147483647 : Int32)), (.ref a721), (.ref a721)])) st830 ?_
  have A831 := (⟨X830, hx, hby⟩ : Ax _ _ _ _ _ _ _ _ _ _ _ _ _ _ _)
  obtain ⟨vv832, _, ⟨T832, L832, k832, n832⟩, -, X832, ⟨L832c, hQ832, l832, y832, z832⟩, st832⟩ := Jvm.LawKit.callS X830 hx (y := (⟨"java/util/Arrays", "copyOf", "([DI)[D"⟩ : MethodName)) hown (mvT hZ (hw _ (List.mem_of_getElem? (i := 51) rfl))) (mvT hZ (hw _ (List.mem_of_getElem? (i := 52) rfl))) (mvT hZ (hw _ (List.mem_of_getElem? (i := 41) rfl))) (mvT hZ (hw _ (List.mem_of_getElem? (i := 53) rfl))) (by decide) (backOf (W := 6) (rmCD16_16 l Z a0 hw [] da (own_pd d 16) T790.heap n0 Z817 V805 E808) hZ (hw _ (List.mem_of_getElem? (i := 53) rfl)) (hw _ (List.mem_of_getElem? (i := 41) rfl)) (by decide) (by decide)) (g := (mkF m 36 #[.val (.ref a1), .val (.int (2147483647 : Int32)), .val (.int (2147483647 : Int32))] [(.int (16 : Int32)), (.ref da), (.ref r791), (.ref r752), (.int (2147483647 : Int32)), (.int (2147483647 : Int32)), (.ref a721), (.ref a721)])) rfl (by rw [hml]; rfl) (argsL := [(.ref da), (.int (16 : Int32))]) (rest := [(.ref r791), (.ref r752), (.int (2147483647 : Int32)), (.int (2147483647 : Int32)), (.ref a721), (.ref a721)]) (lenOf pd_2 rfl) rfl (by show 2 * 0 + _ ≤ _; exact Nat.le_of_eq rfl) (hb hby d7_36) (fun _ _ => ⟨rfl, e830, (by decide : 3 + 1 ≤ _), (by decide : 37 + 16 ≤ _)⟩)
  have hQ832b : QCD16_16 Z da (own_pd d 16) T790.heap n0 vv832 T832.heap L832c := hQ832
  clear hQ832
  dsimp only [Pt.U, Pt.locs, Pt.cells, Pt.slots] at X832 l832 y832 z832 st832
  subst y832 z832
  obtain ⟨r833, rfl, Nq834, Kq835, gx836, E837, V838⟩ := hQ832b
  have N839 : Fr n0 L832 := by rw [l832]; exact Fr.app N797 Nq834
  refine Go.of (g' := (mkF m 39 #[.val (.ref a1), .val (.int (2147483647 : Int32)), .val (.int (2147483647 : Int32))] [(.ref r833), (.ref r791), (.ref r752), (.int (2147483647 : Int32)), (.int (2147483647 : Int32)), (.ref a721), (.ref a721)])) st832 ?_
  have E840 : Exa Z T832.heap a1 "com/example/retinue/retinue/Matching$Pairs" := Exa.keep E798 Kq835
  have F841 : Fld Z T832.heap a1 "com/example/retinue/retinue/Matching$Pairs" "worker" "[I" (.ref wa) := Fld.keep F799 Kq835 nin0
  have F842 : Fld Z T832.heap a1 "com/example/retinue/retinue/Matching$Pairs" "task" "[I" (.ref ta) := Fld.keep F800 Kq835 nin0
  have F843 : Fld Z T832.heap a1 "com/example/retinue/retinue/Matching$Pairs" "weight" "[D" (.ref da) := Fld.keep F801 Kq835 nin0
  have F844 : Fld Z T832.heap a1 "com/example/retinue/retinue/Matching$Pairs" "count" "I" (.int (16 : Int32)) := Fld.keep F802 Kq835 nin0
  have V845 : Dar Z T832.heap wa .int 16 (fun t => .int ((own_pi w 16) t)) := Dar.keep V803 Kq835 nin0
  have V846 : Dar Z T832.heap ta .int 16 (fun t => .int ((own_pi y 16) t)) := Dar.keep V804 Kq835 nin0
  have V847 : Dar Z T832.heap da .double 16 (fun t => .double ((own_pd d 16) t)) := Dar.keep V805 Kq835 nin0
  have E848 : Exa Z T832.heap wa "[I" := Exa.keep E806 Kq835
  have E849 : Exa Z T832.heap ta "[I" := Exa.keep E807 Kq835
  have E850 : Exa Z T832.heap da "[D" := Exa.keep E808 Kq835
  have E851 : Exa Z T832.heap a721 "com/example/retinue/retinue/Matching$Batch" := Exa.keep E809 Kq835
  have F852 : Fld Z T832.heap a721 "com/example/retinue/retinue/Matching$Batch" "workers" "I" (.int (0 : Int32)) := Fld.keep F810 Kq835 nin0
  have F853 : Fld Z T832.heap a721 "com/example/retinue/retinue/Matching$Batch" "tasks" "I" (.int (0 : Int32)) := Fld.keep F811 Kq835 nin0
  have F854 : Fld Z T832.heap a721 "com/example/retinue/retinue/Matching$Batch" "worker" "[I" .null := Fld.keep F812 Kq835 nin0
  have F855 : Fld Z T832.heap a721 "com/example/retinue/retinue/Matching$Batch" "task" "[I" .null := Fld.keep F813 Kq835 nin0
  have F856 : Fld Z T832.heap a721 "com/example/retinue/retinue/Matching$Batch" "weight" "[D" .null := Fld.keep F814 Kq835 nin0
  have E857 : Exa Z T832.heap r752 "[I" := Exa.keep E815 Kq835
  have V858 : Dar Z T832.heap r752 .int 16 (fun t => .int ((own_pi w 16) t)) := Dar.keep V816 Kq835 nin0
  have E859 : Exa Z T832.heap r791 "[I" := Exa.keep E795 Kq835
  have V860 : Dar Z T832.heap r791 .int 16 (fun t => .int ((own_pi y 16) t)) := Dar.keep V796 Kq835 nin0
  have Z861 : n0 ≤ T832.heap.size := Nat.le_trans Z817 Kq835.1
  have K862 : Keep h0 T832.heap [] := K818.trans Kq835 all0
  have A863 := (⟨X832, hx, hby⟩ : Ax _ _ _ _ _ _ _ _ _ _ _ _ _ _ _)
  have g864 : n0 ≤ r833 := Nat.le_trans Z817 gx836
  have gh865 : h0.size ≤ r833 := Nat.le_trans K818.1 gx836
  have ne866 : a1 ≠ r833 := Nat.ne_of_lt (Nat.lt_of_lt_of_le E798.lt gx836)
  have ne867 : a721 ≠ r833 := Nat.ne_of_lt (Nat.lt_of_lt_of_le E809.lt gx836)
  have ne868 : da ≠ r833 := Nat.ne_of_lt (Nat.lt_of_lt_of_le V805.lt gx836)
  have ne869 : r752 ≠ r833 := Nat.ne_of_lt (Nat.lt_of_lt_of_le E815.lt gx836)
  have ne870 : r791 ≠ r833 := Nat.ne_of_lt (Nat.lt_of_lt_of_le E795.lt gx836)
  have ne871 : ta ≠ r833 := Nat.ne_of_lt (Nat.lt_of_lt_of_le V804.lt gx836)
  have ne872 : wa ≠ r833 := Nat.ne_of_lt (Nat.lt_of_lt_of_le V803.lt gx836)
  have hp873 : 16 ≤ 17 := (by decide)
  obtain ⟨vv874, _, ⟨T874, L874, k874, n874⟩, -, X874, ⟨L874c, hQ874, l874, y874, z874⟩, st874⟩ := X832.specialBack hx (y := (⟨"com/example/retinue/retinue/Matching$Batch", "<init>", "(II[I[I[D)V"⟩ : MethodName)) rfl hown (mvT hZ (hw _ (List.mem_of_getElem? (i := 63) rfl))) (mvT hZ (hw _ (List.mem_of_getElem? (i := 64) rfl))) (mvT hZ (hw _ (List.mem_of_getElem? (i := 65) rfl))) (by decide) (backOf (W := 1) (rm8 l Z a0 hw [] a721 r752 r791 r833 (own_pi w 16) (own_pi y 16) (own_pd d 16) 16 (.int (0 : Int32)) (.int (0 : Int32)) .null .null .null T832.heap n0 Z861 E851 F852 F853 F854 F855 F856 V858 V860 V838 g726 (Ne.symm ne782) (Ne.symm ne823) (Ne.symm ne867) hw1 hv1 hd1 hp873) hZ (hw _ (List.mem_of_getElem? (i := 65) rfl)) (hw _ (List.mem_of_getElem? (i := 62) rfl)) (by decide) (by decide)) (g := (mkF m 39 #[.val (.ref a1), .val (.int (2147483647 : Int32)), .val (.int (2147483647 : Int32))] [(.ref r833), (.ref r791), (.ref r752), (.int (2147483647 : Int32)), (.int (2147483647 : Int32)), (.ref a721), (.ref a721)])) rfl (by rw [hml]; rfl) (Steps.refl _) (a := a721) (argsL := [(.int (2147483647 : Int32)), (.int (2147483647 : Int32)), (.ref r752), (.ref r791), (.ref r833)]) (rest := [(.ref a721)]) (lenOf pd_5 rfl) rfl (by show 2 * 0 + _ ≤ _; exact Nat.le_of_eq rfl) (hb hby d7_39) (fun _ _ => ⟨rfl, rfl, (by decide : 4 + 0 ≤ _), (by decide : 53 + 0 ≤ _)⟩)
  have hQ874b : Q8 Z a721 r752 r791 r833 (own_pi w 16) (own_pi y 16) (own_pd d 16) 16 (.int (0 : Int32)) (.int (0 : Int32)) .null .null .null T832.heap n0 vv874 T874.heap L874c := hQ874
  clear hQ874
  dsimp only [Pt.U, Pt.locs, Pt.cells, Pt.slots] at X874 l874 y874 z874 st874
  subst y874 z874
  obtain ⟨rfl, Nq875, Kq876, F877, F878, F879⟩ := hQ874b
  have N880 : Fr n0 L874 := by rw [l874]; exact Fr.app N839 Nq875
  refine Go.tr (g' := (mkF m 42 #[.val (.ref a1), .val (.int (2147483647 : Int32)), .val (.int (2147483647 : Int32))] [(.ref a721)])) st874 ?_
  have E881 : Exa Z T874.heap a1 "com/example/retinue/retinue/Matching$Pairs" := Exa.keep E840 Kq876
  have F882 : Fld Z T874.heap a1 "com/example/retinue/retinue/Matching$Pairs" "worker" "[I" (.ref wa) := Fld.keep F841 Kq876 (ninS ne722 nin0)
  have F883 : Fld Z T874.heap a1 "com/example/retinue/retinue/Matching$Pairs" "task" "[I" (.ref ta) := Fld.keep F842 Kq876 (ninS ne722 nin0)
  have F884 : Fld Z T874.heap a1 "com/example/retinue/retinue/Matching$Pairs" "weight" "[D" (.ref da) := Fld.keep F843 Kq876 (ninS ne722 nin0)
  have F885 : Fld Z T874.heap a1 "com/example/retinue/retinue/Matching$Pairs" "count" "I" (.int (16 : Int32)) := Fld.keep F844 Kq876 (ninS ne722 nin0)
  have V886 : Dar Z T874.heap wa .int 16 (fun t => .int ((own_pi w 16) t)) := Dar.keep V845 Kq876 (ninS ne725 nin0)
  have V887 : Dar Z T874.heap ta .int 16 (fun t => .int ((own_pi y 16) t)) := Dar.keep V846 Kq876 (ninS ne724 nin0)
  have V888 : Dar Z T874.heap da .double 16 (fun t => .double ((own_pd d 16) t)) := Dar.keep V847 Kq876 (ninS ne723 nin0)
  have E889 : Exa Z T874.heap wa "[I" := Exa.keep E848 Kq876
  have E890 : Exa Z T874.heap ta "[I" := Exa.keep E849 Kq876
  have E891 : Exa Z T874.heap da "[D" := Exa.keep E850 Kq876
  have E892 : Exa Z T874.heap a721 "com/example/retinue/retinue/Matching$Batch" := Exa.keep E851 Kq876
  have E893 : Exa Z T874.heap r752 "[I" := Exa.keep E857 Kq876
  have V894 : Dar Z T874.heap r752 .int 16 (fun t => .int ((own_pi w 16) t)) := Dar.keep V858 Kq876 (ninS (Ne.symm ne782) nin0)
  have E895 : Exa Z T874.heap r791 "[I" := Exa.keep E859 Kq876
  have V896 : Dar Z T874.heap r791 .int 16 (fun t => .int ((own_pi y 16) t)) := Dar.keep V860 Kq876 (ninS (Ne.symm ne823) nin0)
  have E897 : Exa Z T874.heap r833 "[D" := Exa.keep E837 Kq876
  have V898 : Dar Z T874.heap r833 .double 16 (fun t => .double ((own_pd d 16) t)) := Dar.keep V838 Kq876 (ninS (Ne.symm ne867) nin0)
  have Z899 : n0 ≤ T874.heap.size := Nat.le_trans Z861 Kq876.1
  have K900 : Keep h0 T874.heap [] := K862.trans Kq876 (allS (Or.inr gh727) all0)
  have A901 := (⟨X874, hx, hby⟩ : Ax _ _ _ _ _ _ _ _ _ _ _ _ _ _ _)
  exact g_ret (Q := QT16 Z a1 wa ta da w y d h0 n0) A901 d7_42 Bd.notSynchronized Bd.returns rfl (Or.inr (Or.inr (Or.inr (Or.inr ⟨rfl, rfl, rfl⟩)))) (by decide) (by decide) ⟨a721, r752, r791, r833, rfl, N880, K900, gh727, E892, F877, F878, F879, V894, V896, V898⟩
theorem ef902 (m : MethodId) (a1 : Addr) (wa : Addr) (ta : Addr) (da : Addr) (w : Nat → Int32) (y : Nat → Int32) (d : Nat → UInt64) : entryFrame m #[(.ref a1), (.int (2147483647 : Int32)), (.int (2147483647 : Int32))] 3 = mkF m 0 #[.val (.ref a1), .val (.int (2147483647 : Int32)), .val (.int (2147483647 : Int32))] [] := by first | (simp [entryFrame, mkF, argsToLocals, Value.category]; done) | rfl
def QT17 (Z : State) (a1 : Addr) (wa : Addr) (ta : Addr) (da : Addr) (w : Nat → Int32) (y : Nat → Int32) (d : Nat → UInt64) (h0 : Heap) (n0 : Nat) (v : Option Value) (h : Heap) (L : List Loc) : Prop := ∃ r : Addr, ∃ wb : Addr, ∃ tb : Addr, ∃ db : Addr, v = some (.ref r) ∧ Fr n0 L ∧ Keep h0 h [] ∧ h0.size ≤ r ∧ Exa Z h r "com/example/retinue/retinue/Matching$Batch" ∧ Fld Z h r "com/example/retinue/retinue/Matching$Batch" "worker" "[I" (.ref wb) ∧ Fld Z h r "com/example/retinue/retinue/Matching$Batch" "task" "[I" (.ref tb) ∧ Fld Z h r "com/example/retinue/retinue/Matching$Batch" "weight" "[D" (.ref db) ∧ Dar Z h wb .int 17 (fun t => .int ((own_pi w 17) t)) ∧ Dar Z h tb .int 17 (fun t => .int ((own_pi y 17) t)) ∧ Dar Z h db .double 17 (fun t => .double ((own_pd d 17) t))
set_option maxRecDepth 65536 in
set_option maxHeartbeats 40000000 in
theorem rmT17 (l : Launch) (Z : State) (a0 : Array Value) (hw : ∀ d ∈ tables_1, d.before a0 Z = true) (ws : List Jvm.Cond) (a1 : Addr) (wa : Addr) (ta : Addr) (da : Addr) (w : Nat → Int32) (y : Nat → Int32) (d : Nat → UInt64) (h0 : Heap) (n0 : Nat) (Z0 : n0 ≤ h0.size) (E903 : Exa Z h0 a1 "com/example/retinue/retinue/Matching$Pairs") (F904 : Fld Z h0 a1 "com/example/retinue/retinue/Matching$Pairs" "worker" "[I" (.ref wa)) (F905 : Fld Z h0 a1 "com/example/retinue/retinue/Matching$Pairs" "task" "[I" (.ref ta)) (F906 : Fld Z h0 a1 "com/example/retinue/retinue/Matching$Pairs" "weight" "[D" (.ref da)) (F907 : Fld Z h0 a1 "com/example/retinue/retinue/Matching$Pairs" "count" "I" (.int (17 : Int32))) (V908 : Dar Z h0 wa .int 32 (fun t => .int ((own_pi w 17) t))) (V909 : Dar Z h0 ta .int 32 (fun t => .int ((own_pi y 17) t))) (V910 : Dar Z h0 da .double 32 (fun t => .double ((own_pd d 17) t))) (hw1 : ∀ t, t < 17 → ¬ (own_pi w 17) t < 0 ∧ (own_pi w 17) t < (2147483647 : Int32)) (hv1 : ∀ t, t < 17 → ¬ (own_pi y 17) t < 0 ∧ (own_pi y 17) t < (2147483647 : Int32)) (hd1 : ∀ t, t < 17 → Fin64 ((own_pd d 17) t)) :
    MetFree l (⟨"com/example/retinue/retinue/Matching$Pairs", "batch", "(II)Lcom/example/retinue/retinue/Matching$Batch;"⟩ : MethodName) (head1 (Jvm.Cond.code (⟨"com/example/retinue/retinue/Matching$Pairs", "batch", "(II)Lcom/example/retinue/retinue/Matching$Batch;"⟩ : MethodName) prog_17_method_3_code 3 (some (.object "com/example/retinue/retinue/Matching$Batch")) :: ws) ({ frames := 3, cells := 4, slots := 56, locals := 45 } : Room)) (fun a U => a = #[(.ref a1), (.int (2147483647 : Int32)), (.int (2147483647 : Int32))] ∧ Z.Warmed39 U.vm ∧ U.heap = h0) (fun _ _ _ _ _ => True) (fun _ U o U' => ∃ v L, o = .returned v ∧ QT17 Z a1 wa ta da w y d h0 n0 v U'.heap L ∧ FrameEnd U o U' L 4 56) := by
  refine MetFree.of_bodySF (plainFor_of_name pn_2) hisR ?_
  intro p e s m args below meth c s₁ Bd hml0 hP hK
  obtain ⟨rfl, hZ, hh⟩ := hP
  have hx := Bd.exec
  have hby := Bd.bytes
  have hml : c.maxLocals = 3 := hml0
  have hown : s.vm.findClass "com/example/retinue/retinue/Matching$Pairs" = some m.cls := findClass_of_methodNamed Bd.named
  have hnm := (name_of_methodNamed Bd.named Bd.method).1
  have X0 : Stand p l e ({ frames := 3, cells := 4, slots := 56, locals := 45 } : Room) s m #[(.ref a1), (.int (2147483647 : Int32)), (.int (2147483647 : Int32))] below meth c s₁ [] 0 0 := Stand.of_body Bd
  have e0 : s₁.heap = h0 := by rw [← hh, Bd.state]; rfl
  have N0 := Fr.nil n0
  have A0 := (⟨X0, hx, hby⟩ : Ax _ _ _ _ _ _ _ _ _ _ _ _ _ _ _)
  show Go p e below (fun U o => ∃ v L, o = .returned v ∧ QT17 Z a1 wa ta da w y d h0 n0 v U.heap L ∧ FrameEnd s o U L 4 56) s₁ (entryFrame m #[(.ref a1), (.int (2147483647 : Int32)), (.int (2147483647 : Int32))] 3)
  refine Go.cast (ef902 m a1 wa ta da w y d) ?_
  obtain ⟨T911, h911, X911, e911, E911, EA911, D911, -, st911⟩ := newO X0 hx hZ hown (hw _ (List.mem_of_getElem? (i := 60) rfl)) (hw _ (List.mem_of_getElem? (i := 61) rfl)) (hw _ (List.mem_of_getElem? (i := 62) rfl)) e0 (g := (mkF m 0 #[.val (.ref a1), .val (.int (2147483647 : Int32)), .val (.int (2147483647 : Int32))] [])) rfl (hb hby d7_0) (by decide) (by decide)
  obtain ⟨a912, ea912⟩ : ∃ z, z = h0.size := ⟨_, rfl⟩
  rw [← ea912] at EA911 D911 st911
  have ne913 : a1 ≠ a912 := own_ne ea912 E903.lt
  have ne914 : da ≠ a912 := own_ne ea912 V910.lt
  have ne915 : ta ≠ a912 := own_ne ea912 V909.lt
  have ne916 : wa ≠ a912 := own_ne ea912 V908.lt
  have g917 : n0 ≤ a912 := by rw [ea912]; exact Z0
  have gh918 : h0.size ≤ a912 := by rw [ea912]; exact (Keep.refl h0 []).1
  have K919 : Keep h0 h911 [] := (Keep.refl h0 []).ext E911
  have E920 : Exa Z h911 a1 "com/example/retinue/retinue/Matching$Pairs" := Exa.ext E911 E903
  have F921 : Fld Z h911 a1 "com/example/retinue/retinue/Matching$Pairs" "worker" "[I" (.ref wa) := Fld.ext E911 F904
  have F922 : Fld Z h911 a1 "com/example/retinue/retinue/Matching$Pairs" "task" "[I" (.ref ta) := Fld.ext E911 F905
  have F923 : Fld Z h911 a1 "com/example/retinue/retinue/Matching$Pairs" "weight" "[D" (.ref da) := Fld.ext E911 F906
  have F924 : Fld Z h911 a1 "com/example/retinue/retinue/Matching$Pairs" "count" "I" (.int (17 : Int32)) := Fld.ext E911 F907
  have V925 : Dar Z h911 wa .int 32 (fun t => .int ((own_pi w 17) t)) := Dar.ext E911 V908
  have V926 : Dar Z h911 ta .int 32 (fun t => .int ((own_pi y 17) t)) := Dar.ext E911 V909
  have V927 : Dar Z h911 da .double 32 (fun t => .double ((own_pd d 17) t)) := Dar.ext E911 V910
  have Z928 : n0 ≤ h911.size := Nat.le_trans Z0 E911.1
  have F929 : Fld Z h911 a912 "com/example/retinue/retinue/Matching$Batch" "workers" "I" (.int (0 : Int32)) := D911 (Or.inr (hw _ (List.mem_of_getElem? (i := 81) rfl))) (ty := .int) (by decide)
  have F930 : Fld Z h911 a912 "com/example/retinue/retinue/Matching$Batch" "tasks" "I" (.int (0 : Int32)) := D911 (Or.inr (hw _ (List.mem_of_getElem? (i := 83) rfl))) (ty := .int) (by decide)
  have F931 : Fld Z h911 a912 "com/example/retinue/retinue/Matching$Batch" "worker" "[I" .null := D911 (Or.inr (hw _ (List.mem_of_getElem? (i := 85) rfl))) (ty := (.array .int)) (by decide)
  have F932 : Fld Z h911 a912 "com/example/retinue/retinue/Matching$Batch" "task" "[I" .null := D911 (Or.inr (hw _ (List.mem_of_getElem? (i := 87) rfl))) (ty := (.array .int)) (by decide)
  have F933 : Fld Z h911 a912 "com/example/retinue/retinue/Matching$Batch" "weight" "[D" .null := D911 (Or.inr (hw _ (List.mem_of_getElem? (i := 89) rfl))) (ty := (.array .double)) (by decide)
  refine Go.of (g' := (mkF m 3 #[.val (.ref a1), .val (.int (2147483647 : Int32)), .val (.int (2147483647 : Int32))] [(.ref a912)])) st911 ?_
  have A934 := (⟨X911, hx, hby⟩ : Ax _ _ _ _ _ _ _ _ _ _ _ _ _ _ _)
  refine g_dup A934 d7_3 rfl (pc' := 4) rfl ?_
  refine g_iloadN A934 d7_4 rfl (pc' := 5) rfl ?_
  refine g_iloadN A934 d7_5 rfl (pc' := 6) rfl ?_
  refine g_aloadN A934 d7_6 rfl rfl (pc' := 7) rfl ?_
  obtain ⟨T935, X935, e935, st935⟩ := getF X911 hx hZ hown (host := "") (Or.inl (hw _ (List.mem_of_getElem? (i := 11) rfl))) Via.refl e911 F921 (g := (mkF m 7 #[.val (.ref a1), .val (.int (2147483647 : Int32)), .val (.int (2147483647 : Int32))] [(.ref a1), (.int (2147483647 : Int32)), (.int (2147483647 : Int32)), (.ref a912), (.ref a912)])) rfl rfl (hb hby d7_7)
  refine Go.of (g' := (mkF m 10 #[.val (.ref a1), .val (.int (2147483647 : Int32)), .val (.int (2147483647 : Int32))] [(.ref wa), (.int (2147483647 : Int32)), (.int (2147483647 : Int32)), (.ref a912), (.ref a912)])) st935 ?_
  have A936 := (⟨X935, hx, hby⟩ : Ax _ _ _ _ _ _ _ _ _ _ _ _ _ _ _)
  refine g_aloadN A936 d7_10 rfl rfl (pc' := 11) rfl ?_
  obtain ⟨T937, X937, e937, st937⟩ := getF X935 hx hZ hown (host := "") (Or.inl (hw _ (List.mem_of_getElem? (i := 23) rfl))) Via.refl e935 F924 (g := (mkF m 11 #[.val (.ref a1), .val (.int (2147483647 : Int32)), .val (.int (2147483647 : Int32))] [(.ref a1), (.ref wa), (.int (2147483647 : Int32)), (.int (2147483647 : Int32)), (.ref a912), (.ref a912)])) rfl rfl (hb hby d7_11)
  refine Go.of (g' := (mkF m 14 #[.val (.ref a1), .val (.int (2147483647 : Int32)), .val (.int (2147483647 : Int32))] [(.int (17 : Int32)), (.ref wa), (.int (2147483647 : Int32)), (.int (2147483647 : Int32)), (.ref a912), (.ref a912)])) st937 ?_
  have A938 := (⟨X937, hx, hby⟩ : Ax _ _ _ _ _ _ _ _ _ _ _ _ _ _ _)
  obtain ⟨vv939, _, ⟨T939, L939, k939, n939⟩, -, X939, ⟨L939c, hQ939, l939, y939, z939⟩, st939⟩ := Jvm.LawKit.callS X937 hx (y := (⟨"java/util/Arrays", "copyOf", "([II)[I"⟩ : MethodName)) hown (mvT hZ (hw _ (List.mem_of_getElem? (i := 39) rfl))) (mvT hZ (hw _ (List.mem_of_getElem? (i := 40) rfl))) (mvT hZ (hw _ (List.mem_of_getElem? (i := 41) rfl))) (mvT hZ (hw _ (List.mem_of_getElem? (i := 42) rfl))) (by decide) (backOf (W := 4) (rmCI32_17 l Z a0 hw [] wa (own_pi w 17) h911 n0 Z928 V925) hZ (hw _ (List.mem_of_getElem? (i := 42) rfl)) (hw _ (List.mem_of_getElem? (i := 41) rfl)) (by decide) (by decide)) (g := (mkF m 14 #[.val (.ref a1), .val (.int (2147483647 : Int32)), .val (.int (2147483647 : Int32))] [(.int (17 : Int32)), (.ref wa), (.int (2147483647 : Int32)), (.int (2147483647 : Int32)), (.ref a912), (.ref a912)])) rfl (by rw [hml]; rfl) (argsL := [(.ref wa), (.int (17 : Int32))]) (rest := [(.int (2147483647 : Int32)), (.int (2147483647 : Int32)), (.ref a912), (.ref a912)]) (lenOf pd_1 rfl) rfl (by show 2 * 0 + _ ≤ _; exact Nat.le_of_eq rfl) (hb hby d7_14) (fun _ _ => ⟨rfl, e937, (by decide : 1 + 1 ≤ _), (by decide : 5 + 17 ≤ _)⟩)
  have hQ939b : QCI32_17 Z wa (own_pi w 17) h911 n0 vv939 T939.heap L939c := hQ939
  clear hQ939
  dsimp only [Pt.U, Pt.locs, Pt.cells, Pt.slots] at X939 l939 y939 z939 st939
  subst y939 z939
  obtain ⟨r940, rfl, Nq941, Kq942, gx943, E944, V945⟩ := hQ939b
  have N946 : Fr n0 L939 := by rw [l939]; exact Fr.app N0 Nq941
  refine Go.of (g' := (mkF m 17 #[.val (.ref a1), .val (.int (2147483647 : Int32)), .val (.int (2147483647 : Int32))] [(.ref r940), (.int (2147483647 : Int32)), (.int (2147483647 : Int32)), (.ref a912), (.ref a912)])) st939 ?_
  have E947 : Exa Z T939.heap a1 "com/example/retinue/retinue/Matching$Pairs" := Exa.keep E920 Kq942
  have F948 : Fld Z T939.heap a1 "com/example/retinue/retinue/Matching$Pairs" "worker" "[I" (.ref wa) := Fld.keep F921 Kq942 nin0
  have F949 : Fld Z T939.heap a1 "com/example/retinue/retinue/Matching$Pairs" "task" "[I" (.ref ta) := Fld.keep F922 Kq942 nin0
  have F950 : Fld Z T939.heap a1 "com/example/retinue/retinue/Matching$Pairs" "weight" "[D" (.ref da) := Fld.keep F923 Kq942 nin0
  have F951 : Fld Z T939.heap a1 "com/example/retinue/retinue/Matching$Pairs" "count" "I" (.int (17 : Int32)) := Fld.keep F924 Kq942 nin0
  have V952 : Dar Z T939.heap wa .int 32 (fun t => .int ((own_pi w 17) t)) := Dar.keep V925 Kq942 nin0
  have V953 : Dar Z T939.heap ta .int 32 (fun t => .int ((own_pi y 17) t)) := Dar.keep V926 Kq942 nin0
  have V954 : Dar Z T939.heap da .double 32 (fun t => .double ((own_pd d 17) t)) := Dar.keep V927 Kq942 nin0
  have E955 : Exa Z T939.heap a912 "com/example/retinue/retinue/Matching$Batch" := Exa.keep EA911 Kq942
  have F956 : Fld Z T939.heap a912 "com/example/retinue/retinue/Matching$Batch" "workers" "I" (.int (0 : Int32)) := Fld.keep F929 Kq942 nin0
  have F957 : Fld Z T939.heap a912 "com/example/retinue/retinue/Matching$Batch" "tasks" "I" (.int (0 : Int32)) := Fld.keep F930 Kq942 nin0
  have F958 : Fld Z T939.heap a912 "com/example/retinue/retinue/Matching$Batch" "worker" "[I" .null := Fld.keep F931 Kq942 nin0
  have F959 : Fld Z T939.heap a912 "com/example/retinue/retinue/Matching$Batch" "task" "[I" .null := Fld.keep F932 Kq942 nin0
  have F960 : Fld Z T939.heap a912 "com/example/retinue/retinue/Matching$Batch" "weight" "[D" .null := Fld.keep F933 Kq942 nin0
  have Z961 : n0 ≤ T939.heap.size := Nat.le_trans Z928 Kq942.1
  have K962 : Keep h0 T939.heap [] := K919.trans Kq942 all0
  have A963 := (⟨X939, hx, hby⟩ : Ax _ _ _ _ _ _ _ _ _ _ _ _ _ _ _)
  have g964 : n0 ≤ r940 := Nat.le_trans Z928 gx943
  have gh965 : h0.size ≤ r940 := Nat.le_trans K919.1 gx943
  have ne966 : a1 ≠ r940 := Nat.ne_of_lt (Nat.lt_of_lt_of_le E920.lt gx943)
  have ne967 : a912 ≠ r940 := Nat.ne_of_lt (Nat.lt_of_lt_of_le EA911.lt gx943)
  have ne968 : da ≠ r940 := Nat.ne_of_lt (Nat.lt_of_lt_of_le V927.lt gx943)
  have ne969 : ta ≠ r940 := Nat.ne_of_lt (Nat.lt_of_lt_of_le V926.lt gx943)
  have ne970 : wa ≠ r940 := Nat.ne_of_lt (Nat.lt_of_lt_of_le V925.lt gx943)
  have V971 : Dar Z T939.heap r940 .int 17 (fun t => .int ((own_pi w 17) t)) := Dar.congr V945 (fun t _ => congrArg Value.int (own_piP _ _ _))
  refine g_aloadN A963 d7_17 rfl rfl (pc' := 18) rfl ?_
  obtain ⟨T972, X972, e972, st972⟩ := getF X939 hx hZ hown (host := "") (Or.inl (hw _ (List.mem_of_getElem? (i := 13) rfl))) Via.refl rfl F949 (g := (mkF m 18 #[.val (.ref a1), .val (.int (2147483647 : Int32)), .val (.int (2147483647 : Int32))] [(.ref a1), (.ref r940), (.int (2147483647 : Int32)), (.int (2147483647 : Int32)), (.ref a912), (.ref a912)])) rfl rfl (hb hby d7_18)
  refine Go.of (g' := (mkF m 21 #[.val (.ref a1), .val (.int (2147483647 : Int32)), .val (.int (2147483647 : Int32))] [(.ref ta), (.ref r940), (.int (2147483647 : Int32)), (.int (2147483647 : Int32)), (.ref a912), (.ref a912)])) st972 ?_
  have A973 := (⟨X972, hx, hby⟩ : Ax _ _ _ _ _ _ _ _ _ _ _ _ _ _ _)
  refine g_aloadN A973 d7_21 rfl rfl (pc' := 22) rfl ?_
  obtain ⟨T974, X974, e974, st974⟩ := getF X972 hx hZ hown (host := "") (Or.inl (hw _ (List.mem_of_getElem? (i := 23) rfl))) Via.refl e972 F951 (g := (mkF m 22 #[.val (.ref a1), .val (.int (2147483647 : Int32)), .val (.int (2147483647 : Int32))] [(.ref a1), (.ref ta), (.ref r940), (.int (2147483647 : Int32)), (.int (2147483647 : Int32)), (.ref a912), (.ref a912)])) rfl rfl (hb hby d7_22)
  refine Go.of (g' := (mkF m 25 #[.val (.ref a1), .val (.int (2147483647 : Int32)), .val (.int (2147483647 : Int32))] [(.int (17 : Int32)), (.ref ta), (.ref r940), (.int (2147483647 : Int32)), (.int (2147483647 : Int32)), (.ref a912), (.ref a912)])) st974 ?_
  have A975 := (⟨X974, hx, hby⟩ : Ax _ _ _ _ _ _ _ _ _ _ _ _ _ _ _)
  obtain ⟨vv976, _, ⟨T976, L976, k976, n976⟩, -, X976, ⟨L976c, hQ976, l976, y976, z976⟩, st976⟩ := Jvm.LawKit.callS X974 hx (y := (⟨"java/util/Arrays", "copyOf", "([II)[I"⟩ : MethodName)) hown (mvT hZ (hw _ (List.mem_of_getElem? (i := 39) rfl))) (mvT hZ (hw _ (List.mem_of_getElem? (i := 40) rfl))) (mvT hZ (hw _ (List.mem_of_getElem? (i := 41) rfl))) (mvT hZ (hw _ (List.mem_of_getElem? (i := 42) rfl))) (by decide) (backOf (W := 5) (rmCI32_17 l Z a0 hw [] ta (own_pi y 17) T939.heap n0 Z961 V953) hZ (hw _ (List.mem_of_getElem? (i := 42) rfl)) (hw _ (List.mem_of_getElem? (i := 41) rfl)) (by decide) (by decide)) (g := (mkF m 25 #[.val (.ref a1), .val (.int (2147483647 : Int32)), .val (.int (2147483647 : Int32))] [(.int (17 : Int32)), (.ref ta), (.ref r940), (.int (2147483647 : Int32)), (.int (2147483647 : Int32)), (.ref a912), (.ref a912)])) rfl (by rw [hml]; rfl) (argsL := [(.ref ta), (.int (17 : Int32))]) (rest := [(.ref r940), (.int (2147483647 : Int32)), (.int (2147483647 : Int32)), (.ref a912), (.ref a912)]) (lenOf pd_1 rfl) rfl (by show 2 * 0 + _ ≤ _; exact Nat.le_of_eq rfl) (hb hby d7_25) (fun _ _ => ⟨rfl, e974, (by decide : 2 + 1 ≤ _), (by decide : 22 + 17 ≤ _)⟩)
  have hQ976b : QCI32_17 Z ta (own_pi y 17) T939.heap n0 vv976 T976.heap L976c := hQ976
  clear hQ976
  dsimp only [Pt.U, Pt.locs, Pt.cells, Pt.slots] at X976 l976 y976 z976 st976
  subst y976 z976
  obtain ⟨r977, rfl, Nq978, Kq979, gx980, E981, V982⟩ := hQ976b
  have N983 : Fr n0 L976 := by rw [l976]; exact Fr.app N946 Nq978
  refine Go.of (g' := (mkF m 28 #[.val (.ref a1), .val (.int (2147483647 : Int32)), .val (.int (2147483647 : Int32))] [(.ref r977), (.ref r940), (.int (2147483647 : Int32)), (.int (2147483647 : Int32)), (.ref a912), (.ref a912)])) st976 ?_
  have E984 : Exa Z T976.heap a1 "com/example/retinue/retinue/Matching$Pairs" := Exa.keep E947 Kq979
  have F985 : Fld Z T976.heap a1 "com/example/retinue/retinue/Matching$Pairs" "worker" "[I" (.ref wa) := Fld.keep F948 Kq979 nin0
  have F986 : Fld Z T976.heap a1 "com/example/retinue/retinue/Matching$Pairs" "task" "[I" (.ref ta) := Fld.keep F949 Kq979 nin0
  have F987 : Fld Z T976.heap a1 "com/example/retinue/retinue/Matching$Pairs" "weight" "[D" (.ref da) := Fld.keep F950 Kq979 nin0
  have F988 : Fld Z T976.heap a1 "com/example/retinue/retinue/Matching$Pairs" "count" "I" (.int (17 : Int32)) := Fld.keep F951 Kq979 nin0
  have V989 : Dar Z T976.heap wa .int 32 (fun t => .int ((own_pi w 17) t)) := Dar.keep V952 Kq979 nin0
  have V990 : Dar Z T976.heap ta .int 32 (fun t => .int ((own_pi y 17) t)) := Dar.keep V953 Kq979 nin0
  have V991 : Dar Z T976.heap da .double 32 (fun t => .double ((own_pd d 17) t)) := Dar.keep V954 Kq979 nin0
  have E992 : Exa Z T976.heap a912 "com/example/retinue/retinue/Matching$Batch" := Exa.keep E955 Kq979
  have F993 : Fld Z T976.heap a912 "com/example/retinue/retinue/Matching$Batch" "workers" "I" (.int (0 : Int32)) := Fld.keep F956 Kq979 nin0
  have F994 : Fld Z T976.heap a912 "com/example/retinue/retinue/Matching$Batch" "tasks" "I" (.int (0 : Int32)) := Fld.keep F957 Kq979 nin0
  have F995 : Fld Z T976.heap a912 "com/example/retinue/retinue/Matching$Batch" "worker" "[I" .null := Fld.keep F958 Kq979 nin0
  have F996 : Fld Z T976.heap a912 "com/example/retinue/retinue/Matching$Batch" "task" "[I" .null := Fld.keep F959 Kq979 nin0
  have F997 : Fld Z T976.heap a912 "com/example/retinue/retinue/Matching$Batch" "weight" "[D" .null := Fld.keep F960 Kq979 nin0
  have E998 : Exa Z T976.heap r940 "[I" := Exa.keep E944 Kq979
  have V999 : Dar Z T976.heap r940 .int 17 (fun t => .int ((own_pi w 17) t)) := Dar.keep V971 Kq979 nin0
  have Z1000 : n0 ≤ T976.heap.size := Nat.le_trans Z961 Kq979.1
  have K1001 : Keep h0 T976.heap [] := K962.trans Kq979 all0
  have A1002 := (⟨X976, hx, hby⟩ : Ax _ _ _ _ _ _ _ _ _ _ _ _ _ _ _)
  have g1003 : n0 ≤ r977 := Nat.le_trans Z961 gx980
  have gh1004 : h0.size ≤ r977 := Nat.le_trans K962.1 gx980
  have ne1005 : a1 ≠ r977 := Nat.ne_of_lt (Nat.lt_of_lt_of_le E947.lt gx980)
  have ne1006 : a912 ≠ r977 := Nat.ne_of_lt (Nat.lt_of_lt_of_le E955.lt gx980)
  have ne1007 : da ≠ r977 := Nat.ne_of_lt (Nat.lt_of_lt_of_le V954.lt gx980)
  have ne1008 : r940 ≠ r977 := Nat.ne_of_lt (Nat.lt_of_lt_of_le E944.lt gx980)
  have ne1009 : ta ≠ r977 := Nat.ne_of_lt (Nat.lt_of_lt_of_le V953.lt gx980)
  have ne1010 : wa ≠ r977 := Nat.ne_of_lt (Nat.lt_of_lt_of_le V952.lt gx980)
  have V1011 : Dar Z T976.heap r977 .int 17 (fun t => .int ((own_pi y 17) t)) := Dar.congr V982 (fun t _ => congrArg Value.int (own_piP _ _ _))
  refine g_aloadN A1002 d7_28 rfl rfl (pc' := 29) rfl ?_
  obtain ⟨T1012, X1012, e1012, st1012⟩ := getF X976 hx hZ hown (host := "") (Or.inl (hw _ (List.mem_of_getElem? (i := 16) rfl))) Via.refl rfl F987 (g := (mkF m 29 #[.val (.ref a1), .val (.int (2147483647 : Int32)), .val (.int (2147483647 : Int32))] [(.ref a1), (.ref r977), (.ref r940), (.int (2147483647 : Int32)), (.int (2147483647 : Int32)), (.ref a912), (.ref a912)])) rfl rfl (hb hby d7_29)
  refine Go.of (g' := (mkF m 32 #[.val (.ref a1), .val (.int (2147483647 : Int32)), .val (.int (2147483647 : Int32))] [(.ref da), (.ref r977), (.ref r940), (.int (2147483647 : Int32)), (.int (2147483647 : Int32)), (.ref a912), (.ref a912)])) st1012 ?_
  have A1013 := (⟨X1012, hx, hby⟩ : Ax _ _ _ _ _ _ _ _ _ _ _ _ _ _ _)
  refine g_aloadN A1013 d7_32 rfl rfl (pc' := 33) rfl ?_
  obtain ⟨T1014, X1014, e1014, st1014⟩ := getF X1012 hx hZ hown (host := "") (Or.inl (hw _ (List.mem_of_getElem? (i := 23) rfl))) Via.refl e1012 F988 (g := (mkF m 33 #[.val (.ref a1), .val (.int (2147483647 : Int32)), .val (.int (2147483647 : Int32))] [(.ref a1), (.ref da), (.ref r977), (.ref r940), (.int (2147483647 : Int32)), (.int (2147483647 : Int32)), (.ref a912), (.ref a912)])) rfl rfl (hb hby d7_33)
  refine Go.of (g' := (mkF m 36 #[.val (.ref a1), .val (.int (2147483647 : Int32)), .val (.int (2147483647 : Int32))] [(.int (17 : Int32)), (.ref da), (.ref r977), (.ref r940), (.int (2147483647 : Int32)), (.int (2147483647 : Int32)), (.ref a912), (.ref a912)])) st1014 ?_
  have A1015 := (⟨X1014, hx, hby⟩ : Ax _ _ _ _ _ _ _ _ _ _ _ _ _ _ _)
  obtain ⟨vv1016, _, ⟨T1016, L1016, k1016, n1016⟩, -, X1016, ⟨L1016c, hQ1016, l1016, y1016, z1016⟩, st1016⟩ := Jvm.LawKit.callS X1014 hx (y := (⟨"java/util/Arrays", "copyOf", "([DI)[D"⟩ : MethodName)) hown (mvT hZ (hw _ (List.mem_of_getElem? (i := 51) rfl))) (mvT hZ (hw _ (List.mem_of_getElem? (i := 52) rfl))) (mvT hZ (hw _ (List.mem_of_getElem? (i := 41) rfl))) (mvT hZ (hw _ (List.mem_of_getElem? (i := 53) rfl))) (by decide) (backOf (W := 6) (rmCD32_17 l Z a0 hw [] da (own_pd d 17) T976.heap n0 Z1000 V991) hZ (hw _ (List.mem_of_getElem? (i := 53) rfl)) (hw _ (List.mem_of_getElem? (i := 41) rfl)) (by decide) (by decide)) (g := (mkF m 36 #[.val (.ref a1), .val (.int (2147483647 : Int32)), .val (.int (2147483647 : Int32))] [(.int (17 : Int32)), (.ref da), (.ref r977), (.ref r940), (.int (2147483647 : Int32)), (.int (2147483647 : Int32)), (.ref a912), (.ref a912)])) rfl (by rw [hml]; rfl) (argsL := [(.ref da), (.int (17 : Int32))]) (rest := [(.ref r977), (.ref r940), (.int (2147483647 : Int32)), (.int (2147483647 : Int32)), (.ref a912), (.ref a912)]) (lenOf pd_2 rfl) rfl (by show 2 * 0 + _ ≤ _; exact Nat.le_of_eq rfl) (hb hby d7_36) (fun _ _ => ⟨rfl, e1014, (by decide : 3 + 1 ≤ _), (by decide : 39 + 17 ≤ _)⟩)
  have hQ1016b : QCD32_17 Z da (own_pd d 17) T976.heap n0 vv1016 T1016.heap L1016c := hQ1016
  clear hQ1016
  dsimp only [Pt.U, Pt.locs, Pt.cells, Pt.slots] at X1016 l1016 y1016 z1016 st1016
  subst y1016 z1016
  obtain ⟨r1017, rfl, Nq1018, Kq1019, gx1020, E1021, V1022⟩ := hQ1016b
  have N1023 : Fr n0 L1016 := by rw [l1016]; exact Fr.app N983 Nq1018
  refine Go.of (g' := (mkF m 39 #[.val (.ref a1), .val (.int (2147483647 : Int32)), .val (.int (2147483647 : Int32))] [(.ref r1017), (.ref r977), (.ref r940), (.int (2147483647 : Int32)), (.int (2147483647 : Int32)), (.ref a912), (.ref a912)])) st1016 ?_
  have E1024 : Exa Z T1016.heap a1 "com/example/retinue/retinue/Matching$Pairs" := Exa.keep E984 Kq1019
  have F1025 : Fld Z T1016.heap a1 "com/example/retinue/retinue/Matching$Pairs" "worker" "[I" (.ref wa) := Fld.keep F985 Kq1019 nin0
  have F1026 : Fld Z T1016.heap a1 "com/example/retinue/retinue/Matching$Pairs" "task" "[I" (.ref ta) := Fld.keep F986 Kq1019 nin0
  have F1027 : Fld Z T1016.heap a1 "com/example/retinue/retinue/Matching$Pairs" "weight" "[D" (.ref da) := Fld.keep F987 Kq1019 nin0
  have F1028 : Fld Z T1016.heap a1 "com/example/retinue/retinue/Matching$Pairs" "count" "I" (.int (17 : Int32)) := Fld.keep F988 Kq1019 nin0
  have V1029 : Dar Z T1016.heap wa .int 32 (fun t => .int ((own_pi w 17) t)) := Dar.keep V989 Kq1019 nin0
  have V1030 : Dar Z T1016.heap ta .int 32 (fun t => .int ((own_pi y 17) t)) := Dar.keep V990 Kq1019 nin0
  have V1031 : Dar Z T1016.heap da .double 32 (fun t => .double ((own_pd d 17) t)) := Dar.keep V991 Kq1019 nin0
  have E1032 : Exa Z T1016.heap a912 "com/example/retinue/retinue/Matching$Batch" := Exa.keep E992 Kq1019
  have F1033 : Fld Z T1016.heap a912 "com/example/retinue/retinue/Matching$Batch" "workers" "I" (.int (0 : Int32)) := Fld.keep F993 Kq1019 nin0
  have F1034 : Fld Z T1016.heap a912 "com/example/retinue/retinue/Matching$Batch" "tasks" "I" (.int (0 : Int32)) := Fld.keep F994 Kq1019 nin0
  have F1035 : Fld Z T1016.heap a912 "com/example/retinue/retinue/Matching$Batch" "worker" "[I" .null := Fld.keep F995 Kq1019 nin0
  have F1036 : Fld Z T1016.heap a912 "com/example/retinue/retinue/Matching$Batch" "task" "[I" .null := Fld.keep F996 Kq1019 nin0
  have F1037 : Fld Z T1016.heap a912 "com/example/retinue/retinue/Matching$Batch" "weight" "[D" .null := Fld.keep F997 Kq1019 nin0
  have E1038 : Exa Z T1016.heap r940 "[I" := Exa.keep E998 Kq1019
  have V1039 : Dar Z T1016.heap r940 .int 17 (fun t => .int ((own_pi w 17) t)) := Dar.keep V999 Kq1019 nin0
  have E1040 : Exa Z T1016.heap r977 "[I" := Exa.keep E981 Kq1019
  have V1041 : Dar Z T1016.heap r977 .int 17 (fun t => .int ((own_pi y 17) t)) := Dar.keep V1011 Kq1019 nin0
  have Z1042 : n0 ≤ T1016.heap.size := Nat.le_trans Z1000 Kq1019.1
  have K1043 : Keep h0 T1016.heap [] := K1001.trans Kq1019 all0
  have A1044 := (⟨X1016, hx, hby⟩ : Ax _ _ _ _ _ _ _ _ _ _ _ _ _ _ _)
  have g1045 : n0 ≤ r1017 := Nat.le_trans Z1000 gx1020
  have gh1046 : h0.size ≤ r1017 := Nat.le_trans K1001.1 gx1020
  have ne1047 : a1 ≠ r1017 := Nat.ne_of_lt (Nat.lt_of_lt_of_le E984.lt gx1020)
  have ne1048 : a912 ≠ r1017 := Nat.ne_of_lt (Nat.lt_of_lt_of_le E992.lt gx1020)
  have ne1049 : da ≠ r1017 := Nat.ne_of_lt (Nat.lt_of_lt_of_le V991.lt gx1020)
  have ne1050 : r940 ≠ r1017 := Nat.ne_of_lt (Nat.lt_of_lt_of_le E998.lt gx1020)
  have ne1051 : r977 ≠ r1017 := Nat.ne_of_lt (Nat.lt_of_lt_of_le E981.lt gx1020)
  have ne1052 : ta ≠ r1017 := Nat.ne_of_lt (Nat.lt_of_lt_of_le V990.lt gx1020)
  have ne1053 : wa ≠ r1017 := Nat.ne_of_lt (Nat.lt_of_lt_of_le V989.lt gx1020)
  have V1054 : Dar Z T1016.heap r1017 .double 17 (fun t => .double ((own_pd d 17) t)) := Dar.congr V1022 (fun t _ => congrArg Value.double (own_pdP _ _ _))
  have hp1055 : 17 ≤ 17 := (by decide)
  obtain ⟨vv1056, _, ⟨T1056, L1056, k1056, n1056⟩, -, X1056, ⟨L1056c, hQ1056, l1056, y1056, z1056⟩, st1056⟩ := X1016.specialBack hx (y := (⟨"com/example/retinue/retinue/Matching$Batch", "<init>", "(II[I[I[D)V"⟩ : MethodName)) rfl hown (mvT hZ (hw _ (List.mem_of_getElem? (i := 63) rfl))) (mvT hZ (hw _ (List.mem_of_getElem? (i := 64) rfl))) (mvT hZ (hw _ (List.mem_of_getElem? (i := 65) rfl))) (by decide) (backOf (W := 1) (rm8 l Z a0 hw [] a912 r940 r977 r1017 (own_pi w 17) (own_pi y 17) (own_pd d 17) 17 (.int (0 : Int32)) (.int (0 : Int32)) .null .null .null T1016.heap n0 Z1042 E1032 F1033 F1034 F1035 F1036 F1037 V1039 V1041 V1054 g917 (Ne.symm ne967) (Ne.symm ne1006) (Ne.symm ne1048) hw1 hv1 hd1 hp1055) hZ (hw _ (List.mem_of_getElem? (i := 65) rfl)) (hw _ (List.mem_of_getElem? (i := 62) rfl)) (by decide) (by decide)) (g := (mkF m 39 #[.val (.ref a1), .val (.int (2147483647 : Int32)), .val (.int (2147483647 : Int32))] [(.ref r1017), (.ref r977), (.ref r940), (.int (2147483647 : Int32)), (.int (2147483647 : Int32)), (.ref a912), (.ref a912)])) rfl (by rw [hml]; rfl) (Steps.refl _) (a := a912) (argsL := [(.int (2147483647 : Int32)), (.int (2147483647 : Int32)), (.ref r940), (.ref r977), (.ref r1017)]) (rest := [(.ref a912)]) (lenOf pd_5 rfl) rfl (by show 2 * 0 + _ ≤ _; exact Nat.le_of_eq rfl) (hb hby d7_39) (fun _ _ => ⟨rfl, rfl, (by decide : 4 + 0 ≤ _), (by decide : 56 + 0 ≤ _)⟩)
  have hQ1056b : Q8 Z a912 r940 r977 r1017 (own_pi w 17) (own_pi y 17) (own_pd d 17) 17 (.int (0 : Int32)) (.int (0 : Int32)) .null .null .null T1016.heap n0 vv1056 T1056.heap L1056c := hQ1056
  clear hQ1056
  dsimp only [Pt.U, Pt.locs, Pt.cells, Pt.slots] at X1056 l1056 y1056 z1056 st1056
  subst y1056 z1056
  obtain ⟨rfl, Nq1057, Kq1058, F1059, F1060, F1061⟩ := hQ1056b
  have N1062 : Fr n0 L1056 := by rw [l1056]; exact Fr.app N1023 Nq1057
  refine Go.tr (g' := (mkF m 42 #[.val (.ref a1), .val (.int (2147483647 : Int32)), .val (.int (2147483647 : Int32))] [(.ref a912)])) st1056 ?_
  have E1063 : Exa Z T1056.heap a1 "com/example/retinue/retinue/Matching$Pairs" := Exa.keep E1024 Kq1058
  have F1064 : Fld Z T1056.heap a1 "com/example/retinue/retinue/Matching$Pairs" "worker" "[I" (.ref wa) := Fld.keep F1025 Kq1058 (ninS ne913 nin0)
  have F1065 : Fld Z T1056.heap a1 "com/example/retinue/retinue/Matching$Pairs" "task" "[I" (.ref ta) := Fld.keep F1026 Kq1058 (ninS ne913 nin0)
  have F1066 : Fld Z T1056.heap a1 "com/example/retinue/retinue/Matching$Pairs" "weight" "[D" (.ref da) := Fld.keep F1027 Kq1058 (ninS ne913 nin0)
  have F1067 : Fld Z T1056.heap a1 "com/example/retinue/retinue/Matching$Pairs" "count" "I" (.int (17 : Int32)) := Fld.keep F1028 Kq1058 (ninS ne913 nin0)
  have V1068 : Dar Z T1056.heap wa .int 32 (fun t => .int ((own_pi w 17) t)) := Dar.keep V1029 Kq1058 (ninS ne916 nin0)
  have V1069 : Dar Z T1056.heap ta .int 32 (fun t => .int ((own_pi y 17) t)) := Dar.keep V1030 Kq1058 (ninS ne915 nin0)
  have V1070 : Dar Z T1056.heap da .double 32 (fun t => .double ((own_pd d 17) t)) := Dar.keep V1031 Kq1058 (ninS ne914 nin0)
  have E1071 : Exa Z T1056.heap a912 "com/example/retinue/retinue/Matching$Batch" := Exa.keep E1032 Kq1058
  have E1072 : Exa Z T1056.heap r940 "[I" := Exa.keep E1038 Kq1058
  have V1073 : Dar Z T1056.heap r940 .int 17 (fun t => .int ((own_pi w 17) t)) := Dar.keep V1039 Kq1058 (ninS (Ne.symm ne967) nin0)
  have E1074 : Exa Z T1056.heap r977 "[I" := Exa.keep E1040 Kq1058
  have V1075 : Dar Z T1056.heap r977 .int 17 (fun t => .int ((own_pi y 17) t)) := Dar.keep V1041 Kq1058 (ninS (Ne.symm ne1006) nin0)
  have E1076 : Exa Z T1056.heap r1017 "[D" := Exa.keep E1021 Kq1058
  have V1077 : Dar Z T1056.heap r1017 .double 17 (fun t => .double ((own_pd d 17) t)) := Dar.keep V1054 Kq1058 (ninS (Ne.symm ne1048) nin0)
  have Z1078 : n0 ≤ T1056.heap.size := Nat.le_trans Z1042 Kq1058.1
  have K1079 : Keep h0 T1056.heap [] := K1043.trans Kq1058 (allS (Or.inr gh918) all0)
  have A1080 := (⟨X1056, hx, hby⟩ : Ax _ _ _ _ _ _ _ _ _ _ _ _ _ _ _)
  exact g_ret (Q := QT17 Z a1 wa ta da w y d h0 n0) A1080 d7_42 Bd.notSynchronized Bd.returns rfl (Or.inr (Or.inr (Or.inr (Or.inr ⟨rfl, rfl, rfl⟩)))) (by decide) (by decide) ⟨a912, r940, r977, r1017, rfl, N1062, K1079, gh918, E1071, F1059, F1060, F1061, V1073, V1075, V1077⟩
theorem d15_0 : decode method_2_code 0 = .ok (.aload_n 0, 1) := by decide +kernel
theorem d15_1 : decode method_2_code 1 = .ok (.iload_n 3, 1) := by decide +kernel
theorem d15_2 : decode method_2_code 2 = .ok (.iaload, 1) := by decide +kernel
theorem d15_3 : decode method_2_code 3 = .ok (.iload 4, 2) := by decide +kernel
theorem d15_5 : decode method_2_code 5 = .ok (.iload_n 3, 1) := by decide +kernel
theorem d15_6 : decode method_2_code 6 = .ok (.iadd, 1) := by decide +kernel
theorem d15_7 : decode method_2_code 7 = .ok (.if_icmp .ne 29, 3) := by decide +kernel
theorem d15_10 : decode method_2_code 10 = .ok (.aload_n 1, 1) := by decide +kernel
theorem d15_11 : decode method_2_code 11 = .ok (.iload_n 3, 1) := by decide +kernel
theorem d15_12 : decode method_2_code 12 = .ok (.iaload, 1) := by decide +kernel
theorem d15_13 : decode method_2_code 13 = .ok (.iload 5, 2) := by decide +kernel
theorem d15_15 : decode method_2_code 15 = .ok (.iload_n 3, 1) := by decide +kernel
theorem d15_16 : decode method_2_code 16 = .ok (.iadd, 1) := by decide +kernel
theorem d15_17 : decode method_2_code 17 = .ok (.if_icmp .ne 19, 3) := by decide +kernel
theorem d15_20 : decode method_2_code 20 = .ok (.aload_n 2, 1) := by decide +kernel
theorem d15_21 : decode method_2_code 21 = .ok (.iload_n 3, 1) := by decide +kernel
theorem d15_22 : decode method_2_code 22 = .ok (.daload, 1) := by decide +kernel
theorem d15_23 : decode method_2_code 23 = .ok (.dload 6, 2) := by decide +kernel
theorem d15_25 : decode method_2_code 25 = .ok (.iload_n 3, 1) := by decide +kernel
theorem d15_26 : decode method_2_code 26 = .ok (.i2d, 1) := by decide +kernel
theorem d15_27 : decode method_2_code 27 = .ok (.dadd, 1) := by decide +kernel
theorem d15_28 : decode method_2_code 28 = .ok (.dcmp .l, 1) := by decide +kernel
theorem d15_29 : decode method_2_code 29 = .ok (.ifCond .ne 7, 3) := by decide +kernel
theorem d15_32 : decode method_2_code 32 = .ok (.iconst 1, 1) := by decide +kernel
theorem d15_33 : decode method_2_code 33 = .ok (.goto 4, 3) := by decide +kernel
theorem d15_36 : decode method_2_code 36 = .ok (.iconst 0, 1) := by decide +kernel
theorem d15_37 : decode method_2_code 37 = .ok (.ireturn, 1) := by decide +kernel
theorem pn_4 : plainName "com/example/retinue/retinue/PairsAddPinLaw" = true := by first | (simp [plainName, overriddenIn]; done) | decide +kernel
theorem ef1081 (m : MethodId) (wk : Addr) (tk : Addr) (wt : Addr) (k : Nat) (pp : Int32) (rr : Int32) (x : UInt64) (n : Nat) (fw : Nat → Value) (fy : Nat → Value) (fd : Nat → Value) (y1 : Int32) (y2 : Int32) (y3 : UInt64) : entryFrame m #[(.ref wk), (.ref tk), (.ref wt), (.int (Int32.ofNat k)), (.int pp), (.int rr), (.double x)] 8 = mkF m 0 #[.val (.ref wk), .val (.ref tk), .val (.ref wt), .val (.int (Int32.ofNat k)), .val (.int pp), .val (.int rr), .val (.double x), .second] [] := by first | (simp [entryFrame, mkF, argsToLocals, Value.category]; done) | rfl
def Q15 (Z : State) (wk : Addr) (tk : Addr) (wt : Addr) (k : Nat) (pp : Int32) (rr : Int32) (x : UInt64) (n : Nat) (fw : Nat → Value) (fy : Nat → Value) (fd : Nat → Value) (y1 : Int32) (y2 : Int32) (y3 : UInt64) (h0 : Heap) (n0 : Nat) (v : Option Value) (h : Heap) (L : List Loc) : Prop := v = some (.int (1 : Int32)) ∧ Fr n0 L ∧ h = h0
set_option maxRecDepth 65536 in
set_option maxHeartbeats 40000000 in
theorem rm15 (l : Launch) (Z : State) (a0 : Array Value) (hw : ∀ d ∈ tables_1, d.before a0 Z = true) (ws : List Jvm.Cond) (wk : Addr) (tk : Addr) (wt : Addr) (k : Nat) (pp : Int32) (rr : Int32) (x : UInt64) (n : Nat) (fw : Nat → Value) (fy : Nat → Value) (fd : Nat → Value) (y1 : Int32) (y2 : Int32) (y3 : UInt64) (h0 : Heap) (n0 : Nat) (Z0 : n0 ≤ h0.size) (V1082 : Dar Z h0 wk .int n fw) (V1083 : Dar Z h0 tk .int n fy) (V1084 : Dar Z h0 wt .double n fd) (hk : k < n) (hf1 : fw k = .int y1) (hf2 : fy k = .int y2) (hf3 : fd k = .double y3) (e1 : y1 = (pp + (Int32.ofNat k))) (e2 : y2 = (rr + (Int32.ofNat k))) (e3 : FP.dcmp y3 (FP.dadd x (FP.i2d (Int32.ofNat k))) = some .eq) (hx1 : Fin64 x) :
    MetFree l (⟨"com/example/retinue/retinue/PairsAddPinLaw", "at", "([I[I[DIIID)Z"⟩ : MethodName) (head1 (Jvm.Cond.code (⟨"com/example/retinue/retinue/PairsAddPinLaw", "at", "([I[I[DIIID)Z"⟩ : MethodName) method_2_code 8 (some .boolean) :: ws) ({ frames := 0, cells := 0, slots := 0, locals := 0 } : Room)) (fun a U => a = #[(.ref wk), (.ref tk), (.ref wt), (.int (Int32.ofNat k)), (.int pp), (.int rr), (.double x)] ∧ Z.Warmed39 U.vm ∧ U.heap = h0) (fun _ _ _ _ _ => True) (fun _ U o U' => ∃ v L, o = .returned v ∧ Q15 Z wk tk wt k pp rr x n fw fy fd y1 y2 y3 h0 n0 v U'.heap L ∧ FrameEnd U o U' L 0 0) := by
  refine MetFree.of_bodySF (plainFor_of_name pn_4) hisR ?_
  intro p e s m args below meth c s₁ Bd hml0 hP hK
  obtain ⟨rfl, hZ, hh⟩ := hP
  have hx := Bd.exec
  have hby := Bd.bytes
  have hml : c.maxLocals = 8 := hml0
  have hown : s.vm.findClass "com/example/retinue/retinue/PairsAddPinLaw" = some m.cls := findClass_of_methodNamed Bd.named
  have hnm := (name_of_methodNamed Bd.named Bd.method).1
  have X0 : Stand p l e ({ frames := 0, cells := 0, slots := 0, locals := 0 } : Room) s m #[(.ref wk), (.ref tk), (.ref wt), (.int (Int32.ofNat k)), (.int pp), (.int rr), (.double x)] below meth c s₁ [] 0 0 := Stand.of_body Bd
  have e0 : s₁.heap = h0 := by rw [← hh, Bd.state]; rfl
  have N0 := Fr.nil n0
  have A0 := (⟨X0, hx, hby⟩ : Ax _ _ _ _ _ _ _ _ _ _ _ _ _ _ _)
  show Go p e below (fun U o => ∃ v L, o = .returned v ∧ Q15 Z wk tk wt k pp rr x n fw fy fd y1 y2 y3 h0 n0 v U.heap L ∧ FrameEnd s o U L 0 0) s₁ (entryFrame m #[(.ref wk), (.ref tk), (.ref wt), (.int (Int32.ofNat k)), (.int pp), (.int rr), (.double x)] 8)
  refine Go.cast (ef1081 m wk tk wt k pp rr x n fw fy fd y1 y2 y3) ?_
  refine g_aloadN A0 d15_0 rfl rfl (pc' := 1) rfl ?_
  refine g_iloadN A0 d15_1 rfl (pc' := 2) rfl ?_
  refine g_iaload A0 hZ e0 V1082 (i := k) hk rfl (x := y1) hf1 d15_2 (pc' := 3) rfl ?_
  refine g_iload A0 d15_3 rfl (pc' := 5) rfl ?_
  refine g_iloadN A0 d15_5 rfl (pc' := 6) rfl ?_
  refine g_iadd A0 d15_6 (pc' := 7) rfl ?_
  refine g_icN A0 d15_7 (c2_ne_f e1) (pc' := 10) rfl ?_
  refine g_aloadN A0 d15_10 rfl rfl (pc' := 11) rfl ?_
  refine g_iloadN A0 d15_11 rfl (pc' := 12) rfl ?_
  refine g_iaload A0 hZ e0 V1083 (i := k) hk rfl (x := y2) hf2 d15_12 (pc' := 13) rfl ?_
  refine g_iload A0 d15_13 rfl (pc' := 15) rfl ?_
  refine g_iloadN A0 d15_15 rfl (pc' := 16) rfl ?_
  refine g_iadd A0 d15_16 (pc' := 17) rfl ?_
  refine g_icN A0 d15_17 (c2_ne_f e2) (pc' := 20) rfl ?_
  refine g_aloadN A0 d15_20 rfl rfl (pc' := 21) rfl ?_
  refine g_iloadN A0 d15_21 rfl (pc' := 22) rfl ?_
  refine g_daload A0 hZ e0 V1084 (i := k) hk rfl (x := y3) hf3 d15_22 (pc' := 23) rfl ?_
  refine g_dload A0 d15_23 rfl (pc' := 25) rfl ?_
  refine g_iloadN A0 d15_25 rfl (pc' := 26) rfl ?_
  refine g_i2d A0 d15_26 (pc' := 27) rfl ?_
  refine g_dadd A0 d15_27 (own_ndadd hx1 (i2d_fin (Int32.ofNat k))) (pc' := 28) rfl ?_
  refine g_dcmp A0 d15_28 (pc' := 29) rfl ?_
  refine g_ifN A0 d15_29 (d_l_ne_f e3) (pc' := 32) rfl ?_
  refine g_iconst A0 d15_32 (v := (1 : Int32)) rfl (pc' := 33) rfl ?_
  refine g_goto A0 d15_33 (pc' := 37) rfl ?_
  exact g_ret (Q := Q15 Z wk tk wt k pp rr x n fw fy fd y1 y2 y3 h0 n0) A0 d15_37 Bd.notSynchronized Bd.returns rfl (Or.inl ⟨rfl, by simp, _, rfl⟩) (by decide) (by decide) (by rw [e0]; exact ⟨rfl, N0, rfl⟩)
theorem ef1085 (m : MethodId) (p0 : Int32) (p1 : Int32) (p2 : Int32) (p3 : Int32) : entryFrame m #[(.int p0), (.int p1), (.int p2), (.int p3)] maxLocals = mkF m 0 #[.val (.int p0), .val (.int p1), .val (.int p2), .val (.int p3), .unset, .unset, .unset, .unset, .unset, .unset, .unset, .unset, .unset, .unset, .unset, .unset] [] := by first | (simp [entryFrame, mkF, argsToLocals, Value.category, maxLocals]; done) | rfl
def Q0 (Z : State) (p0 : Int32) (p1 : Int32) (p2 : Int32) (p3 : Int32) (h0 : Heap) (n0 : Nat) (v : Option Value) (h : Heap) (L : List Loc) : Prop := v = some (.int 1) ∧ Fr n0 L
theorem pd_6 : parseMethodDescriptor "(IID)V" = some ⟨[.int, .int, .double], none⟩ := by decide +kernel
theorem pd_7 : parseMethodDescriptor "(II)Lcom/example/retinue/retinue/Matching$Batch;" = some ⟨[.int, .int], some (.object "com/example/retinue/retinue/Matching$Batch")⟩ := by decide +kernel
theorem pd_8 : parseMethodDescriptor "()[I" = some ⟨[], some (.array .int)⟩ := by decide +kernel
theorem pd_9 : parseMethodDescriptor "()[D" = some ⟨[], some (.array .double)⟩ := by decide +kernel
theorem pd_10 : parseMethodDescriptor "([I[I[DIIID)Z" = some ⟨[(.array .int), (.array .int), (.array .double), .int, .int, .int, .double], some .boolean⟩ := by decide +kernel
set_option maxRecDepth 65536 in
set_option maxHeartbeats 40000000 in
theorem rm0 (l : Launch) (Z : State) (a0 : Array Value) (hw : ∀ d ∈ tables_1, d.before a0 Z = true) (ws : List Jvm.Cond) (p0 : Int32) (p1 : Int32) (p2 : Int32) (p3 : Int32) (h0 : Heap) (n0 : Nat) (Z0 : n0 ≤ h0.size)  :
    MetFree l x (head1 (Jvm.Cond.code x code maxLocals ret :: ws) room_1) (fun a U => a = #[(.int p0), (.int p1), (.int p2), (.int p3)] ∧ Z.Warmed39 U.vm ∧ U.heap = h0) (fun _ _ _ _ _ => True) (fun _ U o U' => ∃ v L, o = .returned v ∧ Q0 Z p0 p1 p2 p3 h0 n0 v U'.heap L ∧ FrameEnd U o U' L 11 204) := by
  refine MetFree.of_bodySF (plainFor_of_name pn_4) hisR ?_
  intro p e s m args below meth c s₁ Bd hml0 hP hK
  obtain ⟨rfl, hZ, hh⟩ := hP
  have hx := Bd.exec
  have hby := Bd.bytes
  have hml : c.maxLocals = 16 := hml0
  have hown : s.vm.findClass "com/example/retinue/retinue/PairsAddPinLaw" = some m.cls := findClass_of_methodNamed Bd.named
  have hnm := (name_of_methodNamed Bd.named Bd.method).1
  have X0 : Stand p l e room_1 s m #[(.int p0), (.int p1), (.int p2), (.int p3)] below meth c s₁ [] 0 0 := Stand.of_body Bd
  have e0 : s₁.heap = h0 := by rw [← hh, Bd.state]; rfl
  have N0 := Fr.nil n0
  have A0 := (⟨X0, hx, hby⟩ : Ax _ _ _ _ _ _ _ _ _ _ _ _ _ _ _)
  show Go p e below (fun U o => ∃ v L, o = .returned v ∧ Q0 Z p0 p1 p2 p3 h0 n0 v U.heap L ∧ FrameEnd s o U L 11 204) s₁ (entryFrame m #[(.int p0), (.int p1), (.int p2), (.int p3)] maxLocals)
  refine Go.cast (ef1085 m p0 p1 p2 p3) ?_
  refine g_iloadN A0 at_0 rfl (pc' := 1) rfl ?_
  refine g_ldcI A0 hZ hown (hw _ (List.mem_of_getElem? (i := 0) rfl)) at_1 (pc' := 3) rfl ?_
  refine g_iand A0 at_3 (pc' := 4) rfl ?_
  obtain ⟨pp1086, hpp1086⟩ : ∃ z : Int32, z = (p0 &&& (1073741823 : Int32)) := ⟨_, rfl⟩
  rw [← hpp1086]
  refine g_istore A0 at_4 (ls' := #[.val (.int p0), .val (.int p1), .val (.int p2), .val (.int p3), .val (.int pp1086), .unset, .unset, .unset, .unset, .unset, .unset, .unset, .unset, .unset, .unset, .unset]) rfl (pc' := 6) rfl ?_
  refine g_iloadN A0 at_6 rfl (pc' := 7) rfl ?_
  refine g_ldcI A0 hZ hown (hw _ (List.mem_of_getElem? (i := 0) rfl)) at_7 (pc' := 9) rfl ?_
  refine g_iand A0 at_9 (pc' := 10) rfl ?_
  obtain ⟨rr1087, hrr1087⟩ : ∃ z : Int32, z = (p1 &&& (1073741823 : Int32)) := ⟨_, rfl⟩
  rw [← hrr1087]
  refine g_istore A0 at_10 (ls' := #[.val (.int p0), .val (.int p1), .val (.int p2), .val (.int p3), .val (.int pp1086), .val (.int rr1087), .unset, .unset, .unset, .unset, .unset, .unset, .unset, .unset, .unset, .unset]) rfl (pc' := 12) rfl ?_
  refine g_iloadN A0 at_12 rfl (pc' := 13) rfl ?_
  refine g_i2d A0 at_13 (pc' := 14) rfl ?_
  refine g_dstore A0 at_14 (ls' := #[.val (.int p0), .val (.int p1), .val (.int p2), .val (.int p3), .val (.int pp1086), .val (.int rr1087), .val (.double (FP.i2d p2)), .second, .unset, .unset, .unset, .unset, .unset, .unset, .unset, .unset]) rfl (pc' := 16) rfl ?_
  refine g_iloadN A0 at_16 rfl (pc' := 17) rfl ?_
  refine g_iconst A0 at_17 (v := (1 : Int32)) rfl (pc' := 18) rfl ?_
  refine g_iand A0 at_18 (pc' := 19) rfl ?_
  obtain ⟨v1088, hv1088⟩ : ∃ z : Int32, z = if ¬ ((p3 &&& (1 : Int32)) = 0) then (1 : Int32) else 0 := ⟨_, rfl⟩
  have sg1089 : ∀ {P : State → Outcome → Prop}, Go p e below P s₁ (mkF m 27 #[.val (.int p0), .val (.int p1), .val (.int p2), .val (.int p3), .val (.int pp1086), .val (.int rr1087), .val (.double (FP.i2d p2)), .second, .unset, .unset, .unset, .unset, .unset, .unset, .unset, .unset] [(.int v1088)]) → Go p e below P s₁ (mkF m 19 #[.val (.int p0), .val (.int p1), .val (.int p2), .val (.int p3), .val (.int pp1086), .val (.int rr1087), .val (.double (FP.i2d p2)), .second, .unset, .unset, .unset, .unset, .unset, .unset, .unset, .unset] [(.int (p3 &&& (1 : Int32)))]) := by
    intro P hr
    by_cases c1090 : (p3 &&& (1 : Int32)) = 0
    · skip
      refine g_ifY A0 at_19 (c0_eq_t c1090) (pc' := 26) rfl ?_
      refine g_iconst A0 at_26 (v := (0 : Int32)) rfl (pc' := 27) rfl ?_
      obtain rfl : v1088 = (0 : Int32) := hv1088.trans (if_neg (fun q => q c1090))
      exact hr
    · skip
      refine g_ifN A0 at_19 (c0_eq_f c1090) (pc' := 22) rfl ?_
      refine g_iconst A0 at_22 (v := (1 : Int32)) rfl (pc' := 23) rfl ?_
      refine g_goto A0 at_23 (pc' := 27) rfl ?_
      obtain rfl : v1088 = (1 : Int32) := hv1088.trans (if_pos c1090)
      exact hr
  refine sg1089 ?_
  refine g_istore A0 at_27 (ls' := #[.val (.int p0), .val (.int p1), .val (.int p2), .val (.int p3), .val (.int pp1086), .val (.int rr1087), .val (.double (FP.i2d p2)), .second, .val (.int v1088), .unset, .unset, .unset, .unset, .unset, .unset, .unset]) rfl (pc' := 29) rfl ?_
  obtain ⟨T1091, h1091, X1091, e1091, E1091, EA1091, D1091, -, st1091⟩ := newO X0 hx hZ hown (hw _ (List.mem_of_getElem? (i := 1) rfl)) (hw _ (List.mem_of_getElem? (i := 2) rfl)) (hw _ (List.mem_of_getElem? (i := 3) rfl)) e0 (g := (mkF m 29 #[.val (.int p0), .val (.int p1), .val (.int p2), .val (.int p3), .val (.int pp1086), .val (.int rr1087), .val (.double (FP.i2d p2)), .second, .val (.int v1088), .unset, .unset, .unset, .unset, .unset, .unset, .unset] [])) rfl (hb hby at_29) (by decide) (by decide)
  obtain ⟨a1092, ea1092⟩ : ∃ z, z = h0.size := ⟨_, rfl⟩
  rw [← ea1092] at EA1091 D1091 st1091
  have g1093 : n0 ≤ a1092 := by rw [ea1092]; exact Z0
  have gh1094 : h0.size ≤ a1092 := by rw [ea1092]; exact (Keep.refl h0 []).1
  have K1095 : Keep h0 h1091 [] := (Keep.refl h0 []).ext E1091
  have Z1096 : n0 ≤ h1091.size := Nat.le_trans Z0 E1091.1
  have F1097 : Fld Z h1091 a1092 "com/example/retinue/retinue/Matching$Pairs" "worker" "[I" .null := D1091 (Or.inl (hw _ (List.mem_of_getElem? (i := 12) rfl))) (ty := (.array .int)) (by decide)
  have F1098 : Fld Z h1091 a1092 "com/example/retinue/retinue/Matching$Pairs" "task" "[I" .null := D1091 (Or.inl (hw _ (List.mem_of_getElem? (i := 14) rfl))) (ty := (.array .int)) (by decide)
  have F1099 : Fld Z h1091 a1092 "com/example/retinue/retinue/Matching$Pairs" "weight" "[D" .null := D1091 (Or.inl (hw _ (List.mem_of_getElem? (i := 17) rfl))) (ty := (.array .double)) (by decide)
  have F1100 : Fld Z h1091 a1092 "com/example/retinue/retinue/Matching$Pairs" "count" "I" (.int (0 : Int32)) := D1091 (Or.inl (hw _ (List.mem_of_getElem? (i := 24) rfl))) (ty := .int) (by decide)
  refine Go.of (g' := (mkF m 32 #[.val (.int p0), .val (.int p1), .val (.int p2), .val (.int p3), .val (.int pp1086), .val (.int rr1087), .val (.double (FP.i2d p2)), .second, .val (.int v1088), .unset, .unset, .unset, .unset, .unset, .unset, .unset] [(.ref a1092)])) st1091 ?_
  have A1101 := (⟨X1091, hx, hby⟩ : Ax _ _ _ _ _ _ _ _ _ _ _ _ _ _ _)
  refine g_dup A1101 at_32 rfl (pc' := 33) rfl ?_
  obtain ⟨vv1102, _, ⟨T1102, L1102, k1102, n1102⟩, -, X1102, ⟨L1102c, hQ1102, l1102, y1102, z1102⟩, st1102⟩ := X1091.specialBack hx (y := (⟨"com/example/retinue/retinue/Matching$Pairs", "<init>", "()V"⟩ : MethodName)) rfl hown (mvT hZ (hw _ (List.mem_of_getElem? (i := 4) rfl))) (mvT hZ (hw _ (List.mem_of_getElem? (i := 5) rfl))) (mvT hZ (hw _ (List.mem_of_getElem? (i := 6) rfl))) (by decide) (backOf (W := 1) (rm1 l Z a0 hw [] a1092 (own_w pp1086) (own_w rr1087) (own_d p2 p3) .null .null .null (.int (0 : Int32)) h1091 n0 Z1096 EA1091 F1097 F1098 F1099 F1100 g1093) hZ (hw _ (List.mem_of_getElem? (i := 6) rfl)) (hw _ (List.mem_of_getElem? (i := 3) rfl)) (by decide) (by decide)) (g := (mkF m 33 #[.val (.int p0), .val (.int p1), .val (.int p2), .val (.int p3), .val (.int pp1086), .val (.int rr1087), .val (.double (FP.i2d p2)), .second, .val (.int v1088), .unset, .unset, .unset, .unset, .unset, .unset, .unset] [(.ref a1092), (.ref a1092)])) rfl (by rw [hml]; rfl) (Steps.refl _) (a := a1092) (argsL := []) (rest := [(.ref a1092)]) (lenOf pd_4 rfl) rfl (by show 2 * 0 + _ ≤ _; exact Nat.le_of_eq rfl) (hb hby at_33) (fun _ _ => ⟨rfl, e1091, (by decide : 1 + 3 ≤ _), (by decide : 4 + 48 ≤ _)⟩)
  have hQ1102b : Q1 Z a1092 (own_w pp1086) (own_w rr1087) (own_d p2 p3) .null .null .null (.int (0 : Int32)) h1091 n0 vv1102 T1102.heap L1102c := hQ1102
  clear hQ1102
  dsimp only [Pt.U, Pt.locs, Pt.cells, Pt.slots] at X1102 l1102 y1102 z1102 st1102
  subst y1102 z1102
  obtain ⟨wa1103, ta1104, da1105, rfl, Nq1106, Kq1107, gx1108, gx1109, gx1110, F1111, F1112, F1113, F1114, V1115, V1116, V1117, E1118, E1119, E1120, ne1121, ne1122, ne1123⟩ := hQ1102b
  have N1124 : Fr n0 L1102 := by rw [l1102]; exact Fr.app N0 Nq1106
  refine Go.tr (g' := (mkF m 36 #[.val (.int p0), .val (.int p1), .val (.int p2), .val (.int p3), .val (.int pp1086), .val (.int rr1087), .val (.double (FP.i2d p2)), .second, .val (.int v1088), .unset, .unset, .unset, .unset, .unset, .unset, .unset] [(.ref a1092)])) st1102 ?_
  have E1125 : Exa Z T1102.heap a1092 "com/example/retinue/retinue/Matching$Pairs" := Exa.keep EA1091 Kq1107
  have Z1126 : n0 ≤ T1102.heap.size := Nat.le_trans Z1096 Kq1107.1
  have K1127 : Keep h0 T1102.heap [] := K1095.trans Kq1107 (allS (Or.inr gh1094) all0)
  have A1128 := (⟨X1102, hx, hby⟩ : Ax _ _ _ _ _ _ _ _ _ _ _ _ _ _ _)
  have g1129 : n0 ≤ wa1103 := Nat.le_trans Z1096 gx1108
  have gh1130 : h0.size ≤ wa1103 := Nat.le_trans K1095.1 gx1108
  have ne1131 : a1092 ≠ wa1103 := Nat.ne_of_lt (Nat.lt_of_lt_of_le EA1091.lt gx1108)
  have g1132 : n0 ≤ ta1104 := Nat.le_trans Z1096 gx1109
  have gh1133 : h0.size ≤ ta1104 := Nat.le_trans K1095.1 gx1109
  have ne1134 : a1092 ≠ ta1104 := Nat.ne_of_lt (Nat.lt_of_lt_of_le EA1091.lt gx1109)
  have g1135 : n0 ≤ da1105 := Nat.le_trans Z1096 gx1110
  have gh1136 : h0.size ≤ da1105 := Nat.le_trans K1095.1 gx1110
  have ne1137 : a1092 ≠ da1105 := Nat.ne_of_lt (Nat.lt_of_lt_of_le EA1091.lt gx1110)
  refine g_astore A1128 at_36 rfl (ls' := #[.val (.int p0), .val (.int p1), .val (.int p2), .val (.int p3), .val (.int pp1086), .val (.int rr1087), .val (.double (FP.i2d p2)), .second, .val (.int v1088), .val (.ref a1092), .unset, .unset, .unset, .unset, .unset, .unset]) rfl (pc' := 38) rfl ?_
  refine g_aload A1128 at_38 rfl rfl (pc' := 40) rfl ?_
  refine g_iload A1128 at_40 rfl (pc' := 42) rfl ?_
  refine g_iload A1128 at_42 rfl (pc' := 44) rfl ?_
  refine g_dload A1128 at_44 rfl (pc' := 46) rfl ?_
  have hp1138 : 0 < 16 := (by decide)
  obtain ⟨cq1140, kq1140, q1140a, q1140b, q1140c⟩ := isOf hZ rfl E1125
  obtain ⟨vv1139, _, ⟨T1139, L1139, k1139, n1139⟩, -, X1139, ⟨L1139c, hQ1139, l1139, y1139, z1139⟩, st1139⟩ := X1102.virtualBack hx (y := (⟨"com/example/retinue/retinue/Matching$Pairs", "add", "(IID)V"⟩ : MethodName)) (z := (⟨"com/example/retinue/retinue/Matching$Pairs", "add", "(IID)V"⟩ : MethodName)) hown (mvT hZ (hw _ (List.mem_of_getElem? (i := 18) rfl))) (mvT hZ (hw _ (List.mem_of_getElem? (i := 19) rfl))) (notFace_of_selects (args := #[]) (mvT hZ (hw _ (List.mem_of_getElem? (i := 21) rfl)))) (mvT hZ (hw _ (List.mem_of_getElem? (i := 21) rfl))) (mvT hZ (hw _ (List.mem_of_getElem? (i := 20) rfl))) (by decide) (backOf (W := 0) (rm3 l Z a0 hw [] a1092 pp1086 rr1087 (FP.i2d p2) wa1103 ta1104 da1105 (own_w pp1086) (own_w rr1087) (own_d p2 p3) 0 T1102.heap n0 Z1126 E1125 F1111 F1112 F1113 F1114 V1115 V1116 V1117 g1093 g1129 g1132 g1135 ne1131 ne1134 ne1137 ne1121 ne1122 ne1123 hp1138 rfl rfl rfl) hZ (hw _ (List.mem_of_getElem? (i := 22) rfl)) (hw _ (List.mem_of_getElem? (i := 3) rfl)) (by decide) (by decide)) q1140a q1140c (g := (mkF m 46 #[.val (.int p0), .val (.int p1), .val (.int p2), .val (.int p3), .val (.int pp1086), .val (.int rr1087), .val (.double (FP.i2d p2)), .second, .val (.int v1088), .val (.ref a1092), .unset, .unset, .unset, .unset, .unset, .unset] [(.double (FP.i2d p2)), (.int rr1087), (.int pp1086), (.ref a1092)])) rfl (by rw [hml]; rfl) (Steps.refl _) (argsL := [(.int pp1086), (.int rr1087), (.double (FP.i2d p2))]) (rest := []) (lenOf pd_6 rfl) rfl (by show 2 * 0 + _ ≤ _; exact Nat.le_of_eq rfl) (hb hby at_46) (fun _ _ => ⟨rfl, rfl, (by decide : 4 + 0 ≤ _), (by decide : 52 + 0 ≤ _)⟩)
  have hQ1139b : Q3 Z a1092 pp1086 rr1087 (FP.i2d p2) wa1103 ta1104 da1105 (own_w pp1086) (own_w rr1087) (own_d p2 p3) 0 T1102.heap n0 vv1139 T1139.heap L1139c := hQ1139
  clear hQ1139
  dsimp only [Pt.U, Pt.locs, Pt.cells, Pt.slots] at X1139 l1139 y1139 z1139 st1139
  subst y1139 z1139
  obtain ⟨rfl, Nq1141, Kq1142, F1143, F1144, F1145, F1146, V1147, V1148, V1149⟩ := hQ1139b
  have N1150 : Fr n0 L1139 := by rw [l1139]; exact Fr.app N1124 Nq1141
  refine Go.tr (g' := (mkF m 49 #[.val (.int p0), .val (.int p1), .val (.int p2), .val (.int p3), .val (.int pp1086), .val (.int rr1087), .val (.double (FP.i2d p2)), .second, .val (.int v1088), .val (.ref a1092), .unset, .unset, .unset, .unset, .unset, .unset] [])) st1139 ?_
  have E1151 : Exa Z T1139.heap a1092 "com/example/retinue/retinue/Matching$Pairs" := Exa.keep E1125 Kq1142
  have E1152 : Exa Z T1139.heap wa1103 "[I" := Exa.keep E1118 Kq1142
  have E1153 : Exa Z T1139.heap ta1104 "[I" := Exa.keep E1119 Kq1142
  have E1154 : Exa Z T1139.heap da1105 "[D" := Exa.keep E1120 Kq1142
  have Z1155 : n0 ≤ T1139.heap.size := Nat.le_trans Z1126 Kq1142.1
  have K1156 : Keep h0 T1139.heap [] := K1127.trans Kq1142 (allS (Or.inr gh1094) (allS (Or.inr gh1130) (allS (Or.inr gh1133) (allS (Or.inr gh1136) all0))))
  have A1157 := (⟨X1139, hx, hby⟩ : Ax _ _ _ _ _ _ _ _ _ _ _ _ _ _ _)
  refine g_aload A1157 at_49 rfl rfl (pc' := 51) rfl ?_
  refine g_iload A1157 at_51 rfl (pc' := 53) rfl ?_
  refine g_iconst A1157 at_53 (v := (1 : Int32)) rfl (pc' := 54) rfl ?_
  refine g_iadd A1157 at_54 (pc' := 55) rfl ?_
  refine g_iload A1157 at_55 rfl (pc' := 57) rfl ?_
  refine g_iconst A1157 at_57 (v := (1 : Int32)) rfl (pc' := 58) rfl ?_
  refine g_iadd A1157 at_58 (pc' := 59) rfl ?_
  refine g_dload A1157 at_59 rfl (pc' := 61) rfl ?_
  refine g_dconst1 A1157 at_61 (pc' := 62) rfl ?_
  refine g_dadd A1157 at_62 (own_ndadd (i2d_fin p2) (by unfold Fin64; decide : Fin64 (4607182418800017408 : UInt64))) (pc' := 63) rfl ?_
  have hp1158 : 1 < 16 := (by decide)
  have hp1159 : (FP.dadd (FP.i2d p2) (4607182418800017408 : UInt64)) = (own_d p2 p3) 1 := (show _ = FP.dadd (FP.i2d p2) (FP.i2d (Int32.ofNat 1)) from congrArg _ (by decide +kernel))
  obtain ⟨cq1161, kq1161, q1161a, q1161b, q1161c⟩ := isOf hZ rfl E1151
  obtain ⟨vv1160, _, ⟨T1160, L1160, k1160, n1160⟩, -, X1160, ⟨L1160c, hQ1160, l1160, y1160, z1160⟩, st1160⟩ := X1139.virtualBack hx (y := (⟨"com/example/retinue/retinue/Matching$Pairs", "add", "(IID)V"⟩ : MethodName)) (z := (⟨"com/example/retinue/retinue/Matching$Pairs", "add", "(IID)V"⟩ : MethodName)) hown (mvT hZ (hw _ (List.mem_of_getElem? (i := 18) rfl))) (mvT hZ (hw _ (List.mem_of_getElem? (i := 19) rfl))) (notFace_of_selects (args := #[]) (mvT hZ (hw _ (List.mem_of_getElem? (i := 21) rfl)))) (mvT hZ (hw _ (List.mem_of_getElem? (i := 21) rfl))) (mvT hZ (hw _ (List.mem_of_getElem? (i := 20) rfl))) (by decide) (backOf (W := 0) (rm3 l Z a0 hw [] a1092 (pp1086 + (1 : Int32)) (rr1087 + (1 : Int32)) (FP.dadd (FP.i2d p2) (4607182418800017408 : UInt64)) wa1103 ta1104 da1105 (own_w pp1086) (own_w rr1087) (own_d p2 p3) 1 T1139.heap n0 Z1155 E1151 F1143 F1144 F1145 F1146 V1147 V1148 V1149 g1093 g1129 g1132 g1135 ne1131 ne1134 ne1137 ne1121 ne1122 ne1123 hp1158 rfl rfl hp1159) hZ (hw _ (List.mem_of_getElem? (i := 22) rfl)) (hw _ (List.mem_of_getElem? (i := 3) rfl)) (by decide) (by decide)) q1161a q1161c (g := (mkF m 63 #[.val (.int p0), .val (.int p1), .val (.int p2), .val (.int p3), .val (.int pp1086), .val (.int rr1087), .val (.double (FP.i2d p2)), .second, .val (.int v1088), .val (.ref a1092), .unset, .unset, .unset, .unset, .unset, .unset] [(.double (FP.dadd (FP.i2d p2) (4607182418800017408 : UInt64))), (.int (rr1087 + (1 : Int32))), (.int (pp1086 + (1 : Int32))), (.ref a1092)])) rfl (by rw [hml]; rfl) (Steps.refl _) (argsL := [(.int (pp1086 + (1 : Int32))), (.int (rr1087 + (1 : Int32))), (.double (FP.dadd (FP.i2d p2) (4607182418800017408 : UInt64)))]) (rest := []) (lenOf pd_6 rfl) rfl (by show 2 * 0 + _ ≤ _; exact Nat.le_of_eq rfl) (hb hby at_63) (fun _ _ => ⟨rfl, rfl, (by decide : 4 + 0 ≤ _), (by decide : 52 + 0 ≤ _)⟩)
  have hQ1160b : Q3 Z a1092 (pp1086 + (1 : Int32)) (rr1087 + (1 : Int32)) (FP.dadd (FP.i2d p2) (4607182418800017408 : UInt64)) wa1103 ta1104 da1105 (own_w pp1086) (own_w rr1087) (own_d p2 p3) 1 T1139.heap n0 vv1160 T1160.heap L1160c := hQ1160
  clear hQ1160
  dsimp only [Pt.U, Pt.locs, Pt.cells, Pt.slots] at X1160 l1160 y1160 z1160 st1160
  subst y1160 z1160
  obtain ⟨rfl, Nq1162, Kq1163, F1164, F1165, F1166, F1167, V1168, V1169, V1170⟩ := hQ1160b
  have N1171 : Fr n0 L1160 := by rw [l1160]; exact Fr.app N1150 Nq1162
  refine Go.tr (g' := (mkF m 66 #[.val (.int p0), .val (.int p1), .val (.int p2), .val (.int p3), .val (.int pp1086), .val (.int rr1087), .val (.double (FP.i2d p2)), .second, .val (.int v1088), .val (.ref a1092), .unset, .unset, .unset, .unset, .unset, .unset] [])) st1160 ?_
  have E1172 : Exa Z T1160.heap a1092 "com/example/retinue/retinue/Matching$Pairs" := Exa.keep E1151 Kq1163
  have E1173 : Exa Z T1160.heap wa1103 "[I" := Exa.keep E1152 Kq1163
  have E1174 : Exa Z T1160.heap ta1104 "[I" := Exa.keep E1153 Kq1163
  have E1175 : Exa Z T1160.heap da1105 "[D" := Exa.keep E1154 Kq1163
  have Z1176 : n0 ≤ T1160.heap.size := Nat.le_trans Z1155 Kq1163.1
  have K1177 : Keep h0 T1160.heap [] := K1156.trans Kq1163 (allS (Or.inr gh1094) (allS (Or.inr gh1130) (allS (Or.inr gh1133) (allS (Or.inr gh1136) all0))))
  have A1178 := (⟨X1160, hx, hby⟩ : Ax _ _ _ _ _ _ _ _ _ _ _ _ _ _ _)
  refine g_aload A1178 at_66 rfl rfl (pc' := 68) rfl ?_
  refine g_iload A1178 at_68 rfl (pc' := 70) rfl ?_
  refine g_iconst A1178 at_70 (v := (2 : Int32)) rfl (pc' := 71) rfl ?_
  refine g_iadd A1178 at_71 (pc' := 72) rfl ?_
  refine g_iload A1178 at_72 rfl (pc' := 74) rfl ?_
  refine g_iconst A1178 at_74 (v := (2 : Int32)) rfl (pc' := 75) rfl ?_
  refine g_iadd A1178 at_75 (pc' := 76) rfl ?_
  refine g_dload A1178 at_76 rfl (pc' := 78) rfl ?_
  refine g_ldcD A1178 hZ hown (hw _ (List.mem_of_getElem? (i := 25) rfl)) at_78 (pc' := 81) rfl ?_
  refine g_dadd A1178 at_81 (own_ndadd (i2d_fin p2) (by unfold Fin64; decide : Fin64 (4611686018427387904 : UInt64))) (pc' := 82) rfl ?_
  have hp1179 : 2 < 16 := (by decide)
  have hp1180 : (FP.dadd (FP.i2d p2) (4611686018427387904 : UInt64)) = (own_d p2 p3) 2 := (show _ = FP.dadd (FP.i2d p2) (FP.i2d (Int32.ofNat 2)) from congrArg _ (by decide +kernel))
  obtain ⟨cq1182, kq1182, q1182a, q1182b, q1182c⟩ := isOf hZ rfl E1172
  obtain ⟨vv1181, _, ⟨T1181, L1181, k1181, n1181⟩, -, X1181, ⟨L1181c, hQ1181, l1181, y1181, z1181⟩, st1181⟩ := X1160.virtualBack hx (y := (⟨"com/example/retinue/retinue/Matching$Pairs", "add", "(IID)V"⟩ : MethodName)) (z := (⟨"com/example/retinue/retinue/Matching$Pairs", "add", "(IID)V"⟩ : MethodName)) hown (mvT hZ (hw _ (List.mem_of_getElem? (i := 18) rfl))) (mvT hZ (hw _ (List.mem_of_getElem? (i := 19) rfl))) (notFace_of_selects (args := #[]) (mvT hZ (hw _ (List.mem_of_getElem? (i := 21) rfl)))) (mvT hZ (hw _ (List.mem_of_getElem? (i := 21) rfl))) (mvT hZ (hw _ (List.mem_of_getElem? (i := 20) rfl))) (by decide) (backOf (W := 0) (rm3 l Z a0 hw [] a1092 (pp1086 + (2 : Int32)) (rr1087 + (2 : Int32)) (FP.dadd (FP.i2d p2) (4611686018427387904 : UInt64)) wa1103 ta1104 da1105 (own_w pp1086) (own_w rr1087) (own_d p2 p3) 2 T1160.heap n0 Z1176 E1172 F1164 F1165 F1166 F1167 V1168 V1169 V1170 g1093 g1129 g1132 g1135 ne1131 ne1134 ne1137 ne1121 ne1122 ne1123 hp1179 rfl rfl hp1180) hZ (hw _ (List.mem_of_getElem? (i := 22) rfl)) (hw _ (List.mem_of_getElem? (i := 3) rfl)) (by decide) (by decide)) q1182a q1182c (g := (mkF m 82 #[.val (.int p0), .val (.int p1), .val (.int p2), .val (.int p3), .val (.int pp1086), .val (.int rr1087), .val (.double (FP.i2d p2)), .second, .val (.int v1088), .val (.ref a1092), .unset, .unset, .unset, .unset, .unset, .unset] [(.double (FP.dadd (FP.i2d p2) (4611686018427387904 : UInt64))), (.int (rr1087 + (2 : Int32))), (.int (pp1086 + (2 : Int32))), (.ref a1092)])) rfl (by rw [hml]; rfl) (Steps.refl _) (argsL := [(.int (pp1086 + (2 : Int32))), (.int (rr1087 + (2 : Int32))), (.double (FP.dadd (FP.i2d p2) (4611686018427387904 : UInt64)))]) (rest := []) (lenOf pd_6 rfl) rfl (by show 2 * 0 + _ ≤ _; exact Nat.le_of_eq rfl) (hb hby at_82) (fun _ _ => ⟨rfl, rfl, (by decide : 4 + 0 ≤ _), (by decide : 52 + 0 ≤ _)⟩)
  have hQ1181b : Q3 Z a1092 (pp1086 + (2 : Int32)) (rr1087 + (2 : Int32)) (FP.dadd (FP.i2d p2) (4611686018427387904 : UInt64)) wa1103 ta1104 da1105 (own_w pp1086) (own_w rr1087) (own_d p2 p3) 2 T1160.heap n0 vv1181 T1181.heap L1181c := hQ1181
  clear hQ1181
  dsimp only [Pt.U, Pt.locs, Pt.cells, Pt.slots] at X1181 l1181 y1181 z1181 st1181
  subst y1181 z1181
  obtain ⟨rfl, Nq1183, Kq1184, F1185, F1186, F1187, F1188, V1189, V1190, V1191⟩ := hQ1181b
  have N1192 : Fr n0 L1181 := by rw [l1181]; exact Fr.app N1171 Nq1183
  refine Go.tr (g' := (mkF m 85 #[.val (.int p0), .val (.int p1), .val (.int p2), .val (.int p3), .val (.int pp1086), .val (.int rr1087), .val (.double (FP.i2d p2)), .second, .val (.int v1088), .val (.ref a1092), .unset, .unset, .unset, .unset, .unset, .unset] [])) st1181 ?_
  have E1193 : Exa Z T1181.heap a1092 "com/example/retinue/retinue/Matching$Pairs" := Exa.keep E1172 Kq1184
  have E1194 : Exa Z T1181.heap wa1103 "[I" := Exa.keep E1173 Kq1184
  have E1195 : Exa Z T1181.heap ta1104 "[I" := Exa.keep E1174 Kq1184
  have E1196 : Exa Z T1181.heap da1105 "[D" := Exa.keep E1175 Kq1184
  have Z1197 : n0 ≤ T1181.heap.size := Nat.le_trans Z1176 Kq1184.1
  have K1198 : Keep h0 T1181.heap [] := K1177.trans Kq1184 (allS (Or.inr gh1094) (allS (Or.inr gh1130) (allS (Or.inr gh1133) (allS (Or.inr gh1136) all0))))
  have A1199 := (⟨X1181, hx, hby⟩ : Ax _ _ _ _ _ _ _ _ _ _ _ _ _ _ _)
  refine g_aload A1199 at_85 rfl rfl (pc' := 87) rfl ?_
  refine g_iload A1199 at_87 rfl (pc' := 89) rfl ?_
  refine g_iconst A1199 at_89 (v := (3 : Int32)) rfl (pc' := 90) rfl ?_
  refine g_iadd A1199 at_90 (pc' := 91) rfl ?_
  refine g_iload A1199 at_91 rfl (pc' := 93) rfl ?_
  refine g_iconst A1199 at_93 (v := (3 : Int32)) rfl (pc' := 94) rfl ?_
  refine g_iadd A1199 at_94 (pc' := 95) rfl ?_
  refine g_dload A1199 at_95 rfl (pc' := 97) rfl ?_
  refine g_ldcD A1199 hZ hown (hw _ (List.mem_of_getElem? (i := 26) rfl)) at_97 (pc' := 100) rfl ?_
  refine g_dadd A1199 at_100 (own_ndadd (i2d_fin p2) (by unfold Fin64; decide : Fin64 (4613937818241073152 : UInt64))) (pc' := 101) rfl ?_
  have hp1200 : 3 < 16 := (by decide)
  have hp1201 : (FP.dadd (FP.i2d p2) (4613937818241073152 : UInt64)) = (own_d p2 p3) 3 := (show _ = FP.dadd (FP.i2d p2) (FP.i2d (Int32.ofNat 3)) from congrArg _ (by decide +kernel))
  obtain ⟨cq1203, kq1203, q1203a, q1203b, q1203c⟩ := isOf hZ rfl E1193
  obtain ⟨vv1202, _, ⟨T1202, L1202, k1202, n1202⟩, -, X1202, ⟨L1202c, hQ1202, l1202, y1202, z1202⟩, st1202⟩ := X1181.virtualBack hx (y := (⟨"com/example/retinue/retinue/Matching$Pairs", "add", "(IID)V"⟩ : MethodName)) (z := (⟨"com/example/retinue/retinue/Matching$Pairs", "add", "(IID)V"⟩ : MethodName)) hown (mvT hZ (hw _ (List.mem_of_getElem? (i := 18) rfl))) (mvT hZ (hw _ (List.mem_of_getElem? (i := 19) rfl))) (notFace_of_selects (args := #[]) (mvT hZ (hw _ (List.mem_of_getElem? (i := 21) rfl)))) (mvT hZ (hw _ (List.mem_of_getElem? (i := 21) rfl))) (mvT hZ (hw _ (List.mem_of_getElem? (i := 20) rfl))) (by decide) (backOf (W := 0) (rm3 l Z a0 hw [] a1092 (pp1086 + (3 : Int32)) (rr1087 + (3 : Int32)) (FP.dadd (FP.i2d p2) (4613937818241073152 : UInt64)) wa1103 ta1104 da1105 (own_w pp1086) (own_w rr1087) (own_d p2 p3) 3 T1181.heap n0 Z1197 E1193 F1185 F1186 F1187 F1188 V1189 V1190 V1191 g1093 g1129 g1132 g1135 ne1131 ne1134 ne1137 ne1121 ne1122 ne1123 hp1200 rfl rfl hp1201) hZ (hw _ (List.mem_of_getElem? (i := 22) rfl)) (hw _ (List.mem_of_getElem? (i := 3) rfl)) (by decide) (by decide)) q1203a q1203c (g := (mkF m 101 #[.val (.int p0), .val (.int p1), .val (.int p2), .val (.int p3), .val (.int pp1086), .val (.int rr1087), .val (.double (FP.i2d p2)), .second, .val (.int v1088), .val (.ref a1092), .unset, .unset, .unset, .unset, .unset, .unset] [(.double (FP.dadd (FP.i2d p2) (4613937818241073152 : UInt64))), (.int (rr1087 + (3 : Int32))), (.int (pp1086 + (3 : Int32))), (.ref a1092)])) rfl (by rw [hml]; rfl) (Steps.refl _) (argsL := [(.int (pp1086 + (3 : Int32))), (.int (rr1087 + (3 : Int32))), (.double (FP.dadd (FP.i2d p2) (4613937818241073152 : UInt64)))]) (rest := []) (lenOf pd_6 rfl) rfl (by show 2 * 0 + _ ≤ _; exact Nat.le_of_eq rfl) (hb hby at_101) (fun _ _ => ⟨rfl, rfl, (by decide : 4 + 0 ≤ _), (by decide : 52 + 0 ≤ _)⟩)
  have hQ1202b : Q3 Z a1092 (pp1086 + (3 : Int32)) (rr1087 + (3 : Int32)) (FP.dadd (FP.i2d p2) (4613937818241073152 : UInt64)) wa1103 ta1104 da1105 (own_w pp1086) (own_w rr1087) (own_d p2 p3) 3 T1181.heap n0 vv1202 T1202.heap L1202c := hQ1202
  clear hQ1202
  dsimp only [Pt.U, Pt.locs, Pt.cells, Pt.slots] at X1202 l1202 y1202 z1202 st1202
  subst y1202 z1202
  obtain ⟨rfl, Nq1204, Kq1205, F1206, F1207, F1208, F1209, V1210, V1211, V1212⟩ := hQ1202b
  have N1213 : Fr n0 L1202 := by rw [l1202]; exact Fr.app N1192 Nq1204
  refine Go.tr (g' := (mkF m 104 #[.val (.int p0), .val (.int p1), .val (.int p2), .val (.int p3), .val (.int pp1086), .val (.int rr1087), .val (.double (FP.i2d p2)), .second, .val (.int v1088), .val (.ref a1092), .unset, .unset, .unset, .unset, .unset, .unset] [])) st1202 ?_
  have E1214 : Exa Z T1202.heap a1092 "com/example/retinue/retinue/Matching$Pairs" := Exa.keep E1193 Kq1205
  have E1215 : Exa Z T1202.heap wa1103 "[I" := Exa.keep E1194 Kq1205
  have E1216 : Exa Z T1202.heap ta1104 "[I" := Exa.keep E1195 Kq1205
  have E1217 : Exa Z T1202.heap da1105 "[D" := Exa.keep E1196 Kq1205
  have Z1218 : n0 ≤ T1202.heap.size := Nat.le_trans Z1197 Kq1205.1
  have K1219 : Keep h0 T1202.heap [] := K1198.trans Kq1205 (allS (Or.inr gh1094) (allS (Or.inr gh1130) (allS (Or.inr gh1133) (allS (Or.inr gh1136) all0))))
  have A1220 := (⟨X1202, hx, hby⟩ : Ax _ _ _ _ _ _ _ _ _ _ _ _ _ _ _)
  refine g_aload A1220 at_104 rfl rfl (pc' := 106) rfl ?_
  refine g_iload A1220 at_106 rfl (pc' := 108) rfl ?_
  refine g_iconst A1220 at_108 (v := (4 : Int32)) rfl (pc' := 109) rfl ?_
  refine g_iadd A1220 at_109 (pc' := 110) rfl ?_
  refine g_iload A1220 at_110 rfl (pc' := 112) rfl ?_
  refine g_iconst A1220 at_112 (v := (4 : Int32)) rfl (pc' := 113) rfl ?_
  refine g_iadd A1220 at_113 (pc' := 114) rfl ?_
  refine g_dload A1220 at_114 rfl (pc' := 116) rfl ?_
  refine g_ldcD A1220 hZ hown (hw _ (List.mem_of_getElem? (i := 27) rfl)) at_116 (pc' := 119) rfl ?_
  refine g_dadd A1220 at_119 (own_ndadd (i2d_fin p2) (by unfold Fin64; decide : Fin64 (4616189618054758400 : UInt64))) (pc' := 120) rfl ?_
  have hp1221 : 4 < 16 := (by decide)
  have hp1222 : (FP.dadd (FP.i2d p2) (4616189618054758400 : UInt64)) = (own_d p2 p3) 4 := (show _ = FP.dadd (FP.i2d p2) (FP.i2d (Int32.ofNat 4)) from congrArg _ (by decide +kernel))
  obtain ⟨cq1224, kq1224, q1224a, q1224b, q1224c⟩ := isOf hZ rfl E1214
  obtain ⟨vv1223, _, ⟨T1223, L1223, k1223, n1223⟩, -, X1223, ⟨L1223c, hQ1223, l1223, y1223, z1223⟩, st1223⟩ := X1202.virtualBack hx (y := (⟨"com/example/retinue/retinue/Matching$Pairs", "add", "(IID)V"⟩ : MethodName)) (z := (⟨"com/example/retinue/retinue/Matching$Pairs", "add", "(IID)V"⟩ : MethodName)) hown (mvT hZ (hw _ (List.mem_of_getElem? (i := 18) rfl))) (mvT hZ (hw _ (List.mem_of_getElem? (i := 19) rfl))) (notFace_of_selects (args := #[]) (mvT hZ (hw _ (List.mem_of_getElem? (i := 21) rfl)))) (mvT hZ (hw _ (List.mem_of_getElem? (i := 21) rfl))) (mvT hZ (hw _ (List.mem_of_getElem? (i := 20) rfl))) (by decide) (backOf (W := 0) (rm3 l Z a0 hw [] a1092 (pp1086 + (4 : Int32)) (rr1087 + (4 : Int32)) (FP.dadd (FP.i2d p2) (4616189618054758400 : UInt64)) wa1103 ta1104 da1105 (own_w pp1086) (own_w rr1087) (own_d p2 p3) 4 T1202.heap n0 Z1218 E1214 F1206 F1207 F1208 F1209 V1210 V1211 V1212 g1093 g1129 g1132 g1135 ne1131 ne1134 ne1137 ne1121 ne1122 ne1123 hp1221 rfl rfl hp1222) hZ (hw _ (List.mem_of_getElem? (i := 22) rfl)) (hw _ (List.mem_of_getElem? (i := 3) rfl)) (by decide) (by decide)) q1224a q1224c (g := (mkF m 120 #[.val (.int p0), .val (.int p1), .val (.int p2), .val (.int p3), .val (.int pp1086), .val (.int rr1087), .val (.double (FP.i2d p2)), .second, .val (.int v1088), .val (.ref a1092), .unset, .unset, .unset, .unset, .unset, .unset] [(.double (FP.dadd (FP.i2d p2) (4616189618054758400 : UInt64))), (.int (rr1087 + (4 : Int32))), (.int (pp1086 + (4 : Int32))), (.ref a1092)])) rfl (by rw [hml]; rfl) (Steps.refl _) (argsL := [(.int (pp1086 + (4 : Int32))), (.int (rr1087 + (4 : Int32))), (.double (FP.dadd (FP.i2d p2) (4616189618054758400 : UInt64)))]) (rest := []) (lenOf pd_6 rfl) rfl (by show 2 * 0 + _ ≤ _; exact Nat.le_of_eq rfl) (hb hby at_120) (fun _ _ => ⟨rfl, rfl, (by decide : 4 + 0 ≤ _), (by decide : 52 + 0 ≤ _)⟩)
  have hQ1223b : Q3 Z a1092 (pp1086 + (4 : Int32)) (rr1087 + (4 : Int32)) (FP.dadd (FP.i2d p2) (4616189618054758400 : UInt64)) wa1103 ta1104 da1105 (own_w pp1086) (own_w rr1087) (own_d p2 p3) 4 T1202.heap n0 vv1223 T1223.heap L1223c := hQ1223
  clear hQ1223
  dsimp only [Pt.U, Pt.locs, Pt.cells, Pt.slots] at X1223 l1223 y1223 z1223 st1223
  subst y1223 z1223
  obtain ⟨rfl, Nq1225, Kq1226, F1227, F1228, F1229, F1230, V1231, V1232, V1233⟩ := hQ1223b
  have N1234 : Fr n0 L1223 := by rw [l1223]; exact Fr.app N1213 Nq1225
  refine Go.tr (g' := (mkF m 123 #[.val (.int p0), .val (.int p1), .val (.int p2), .val (.int p3), .val (.int pp1086), .val (.int rr1087), .val (.double (FP.i2d p2)), .second, .val (.int v1088), .val (.ref a1092), .unset, .unset, .unset, .unset, .unset, .unset] [])) st1223 ?_
  have E1235 : Exa Z T1223.heap a1092 "com/example/retinue/retinue/Matching$Pairs" := Exa.keep E1214 Kq1226
  have E1236 : Exa Z T1223.heap wa1103 "[I" := Exa.keep E1215 Kq1226
  have E1237 : Exa Z T1223.heap ta1104 "[I" := Exa.keep E1216 Kq1226
  have E1238 : Exa Z T1223.heap da1105 "[D" := Exa.keep E1217 Kq1226
  have Z1239 : n0 ≤ T1223.heap.size := Nat.le_trans Z1218 Kq1226.1
  have K1240 : Keep h0 T1223.heap [] := K1219.trans Kq1226 (allS (Or.inr gh1094) (allS (Or.inr gh1130) (allS (Or.inr gh1133) (allS (Or.inr gh1136) all0))))
  have A1241 := (⟨X1223, hx, hby⟩ : Ax _ _ _ _ _ _ _ _ _ _ _ _ _ _ _)
  refine g_aload A1241 at_123 rfl rfl (pc' := 125) rfl ?_
  refine g_iload A1241 at_125 rfl (pc' := 127) rfl ?_
  refine g_iconst A1241 at_127 (v := (5 : Int32)) rfl (pc' := 128) rfl ?_
  refine g_iadd A1241 at_128 (pc' := 129) rfl ?_
  refine g_iload A1241 at_129 rfl (pc' := 131) rfl ?_
  refine g_iconst A1241 at_131 (v := (5 : Int32)) rfl (pc' := 132) rfl ?_
  refine g_iadd A1241 at_132 (pc' := 133) rfl ?_
  refine g_dload A1241 at_133 rfl (pc' := 135) rfl ?_
  refine g_ldcD A1241 hZ hown (hw _ (List.mem_of_getElem? (i := 28) rfl)) at_135 (pc' := 138) rfl ?_
  refine g_dadd A1241 at_138 (own_ndadd (i2d_fin p2) (by unfold Fin64; decide : Fin64 (4617315517961601024 : UInt64))) (pc' := 139) rfl ?_
  have hp1242 : 5 < 16 := (by decide)
  have hp1243 : (FP.dadd (FP.i2d p2) (4617315517961601024 : UInt64)) = (own_d p2 p3) 5 := (show _ = FP.dadd (FP.i2d p2) (FP.i2d (Int32.ofNat 5)) from congrArg _ (by decide +kernel))
  obtain ⟨cq1245, kq1245, q1245a, q1245b, q1245c⟩ := isOf hZ rfl E1235
  obtain ⟨vv1244, _, ⟨T1244, L1244, k1244, n1244⟩, -, X1244, ⟨L1244c, hQ1244, l1244, y1244, z1244⟩, st1244⟩ := X1223.virtualBack hx (y := (⟨"com/example/retinue/retinue/Matching$Pairs", "add", "(IID)V"⟩ : MethodName)) (z := (⟨"com/example/retinue/retinue/Matching$Pairs", "add", "(IID)V"⟩ : MethodName)) hown (mvT hZ (hw _ (List.mem_of_getElem? (i := 18) rfl))) (mvT hZ (hw _ (List.mem_of_getElem? (i := 19) rfl))) (notFace_of_selects (args := #[]) (mvT hZ (hw _ (List.mem_of_getElem? (i := 21) rfl)))) (mvT hZ (hw _ (List.mem_of_getElem? (i := 21) rfl))) (mvT hZ (hw _ (List.mem_of_getElem? (i := 20) rfl))) (by decide) (backOf (W := 0) (rm3 l Z a0 hw [] a1092 (pp1086 + (5 : Int32)) (rr1087 + (5 : Int32)) (FP.dadd (FP.i2d p2) (4617315517961601024 : UInt64)) wa1103 ta1104 da1105 (own_w pp1086) (own_w rr1087) (own_d p2 p3) 5 T1223.heap n0 Z1239 E1235 F1227 F1228 F1229 F1230 V1231 V1232 V1233 g1093 g1129 g1132 g1135 ne1131 ne1134 ne1137 ne1121 ne1122 ne1123 hp1242 rfl rfl hp1243) hZ (hw _ (List.mem_of_getElem? (i := 22) rfl)) (hw _ (List.mem_of_getElem? (i := 3) rfl)) (by decide) (by decide)) q1245a q1245c (g := (mkF m 139 #[.val (.int p0), .val (.int p1), .val (.int p2), .val (.int p3), .val (.int pp1086), .val (.int rr1087), .val (.double (FP.i2d p2)), .second, .val (.int v1088), .val (.ref a1092), .unset, .unset, .unset, .unset, .unset, .unset] [(.double (FP.dadd (FP.i2d p2) (4617315517961601024 : UInt64))), (.int (rr1087 + (5 : Int32))), (.int (pp1086 + (5 : Int32))), (.ref a1092)])) rfl (by rw [hml]; rfl) (Steps.refl _) (argsL := [(.int (pp1086 + (5 : Int32))), (.int (rr1087 + (5 : Int32))), (.double (FP.dadd (FP.i2d p2) (4617315517961601024 : UInt64)))]) (rest := []) (lenOf pd_6 rfl) rfl (by show 2 * 0 + _ ≤ _; exact Nat.le_of_eq rfl) (hb hby at_139) (fun _ _ => ⟨rfl, rfl, (by decide : 4 + 0 ≤ _), (by decide : 52 + 0 ≤ _)⟩)
  have hQ1244b : Q3 Z a1092 (pp1086 + (5 : Int32)) (rr1087 + (5 : Int32)) (FP.dadd (FP.i2d p2) (4617315517961601024 : UInt64)) wa1103 ta1104 da1105 (own_w pp1086) (own_w rr1087) (own_d p2 p3) 5 T1223.heap n0 vv1244 T1244.heap L1244c := hQ1244
  clear hQ1244
  dsimp only [Pt.U, Pt.locs, Pt.cells, Pt.slots] at X1244 l1244 y1244 z1244 st1244
  subst y1244 z1244
  obtain ⟨rfl, Nq1246, Kq1247, F1248, F1249, F1250, F1251, V1252, V1253, V1254⟩ := hQ1244b
  have N1255 : Fr n0 L1244 := by rw [l1244]; exact Fr.app N1234 Nq1246
  refine Go.tr (g' := (mkF m 142 #[.val (.int p0), .val (.int p1), .val (.int p2), .val (.int p3), .val (.int pp1086), .val (.int rr1087), .val (.double (FP.i2d p2)), .second, .val (.int v1088), .val (.ref a1092), .unset, .unset, .unset, .unset, .unset, .unset] [])) st1244 ?_
  have E1256 : Exa Z T1244.heap a1092 "com/example/retinue/retinue/Matching$Pairs" := Exa.keep E1235 Kq1247
  have E1257 : Exa Z T1244.heap wa1103 "[I" := Exa.keep E1236 Kq1247
  have E1258 : Exa Z T1244.heap ta1104 "[I" := Exa.keep E1237 Kq1247
  have E1259 : Exa Z T1244.heap da1105 "[D" := Exa.keep E1238 Kq1247
  have Z1260 : n0 ≤ T1244.heap.size := Nat.le_trans Z1239 Kq1247.1
  have K1261 : Keep h0 T1244.heap [] := K1240.trans Kq1247 (allS (Or.inr gh1094) (allS (Or.inr gh1130) (allS (Or.inr gh1133) (allS (Or.inr gh1136) all0))))
  have A1262 := (⟨X1244, hx, hby⟩ : Ax _ _ _ _ _ _ _ _ _ _ _ _ _ _ _)
  refine g_aload A1262 at_142 rfl rfl (pc' := 144) rfl ?_
  refine g_iload A1262 at_144 rfl (pc' := 146) rfl ?_
  refine g_bipush A1262 at_146 (v := (6 : Int32)) rfl (pc' := 148) rfl ?_
  refine g_iadd A1262 at_148 (pc' := 149) rfl ?_
  refine g_iload A1262 at_149 rfl (pc' := 151) rfl ?_
  refine g_bipush A1262 at_151 (v := (6 : Int32)) rfl (pc' := 153) rfl ?_
  refine g_iadd A1262 at_153 (pc' := 154) rfl ?_
  refine g_dload A1262 at_154 rfl (pc' := 156) rfl ?_
  refine g_ldcD A1262 hZ hown (hw _ (List.mem_of_getElem? (i := 29) rfl)) at_156 (pc' := 159) rfl ?_
  refine g_dadd A1262 at_159 (own_ndadd (i2d_fin p2) (by unfold Fin64; decide : Fin64 (4618441417868443648 : UInt64))) (pc' := 160) rfl ?_
  have hp1263 : 6 < 16 := (by decide)
  have hp1264 : (FP.dadd (FP.i2d p2) (4618441417868443648 : UInt64)) = (own_d p2 p3) 6 := (show _ = FP.dadd (FP.i2d p2) (FP.i2d (Int32.ofNat 6)) from congrArg _ (by decide +kernel))
  obtain ⟨cq1266, kq1266, q1266a, q1266b, q1266c⟩ := isOf hZ rfl E1256
  obtain ⟨vv1265, _, ⟨T1265, L1265, k1265, n1265⟩, -, X1265, ⟨L1265c, hQ1265, l1265, y1265, z1265⟩, st1265⟩ := X1244.virtualBack hx (y := (⟨"com/example/retinue/retinue/Matching$Pairs", "add", "(IID)V"⟩ : MethodName)) (z := (⟨"com/example/retinue/retinue/Matching$Pairs", "add", "(IID)V"⟩ : MethodName)) hown (mvT hZ (hw _ (List.mem_of_getElem? (i := 18) rfl))) (mvT hZ (hw _ (List.mem_of_getElem? (i := 19) rfl))) (notFace_of_selects (args := #[]) (mvT hZ (hw _ (List.mem_of_getElem? (i := 21) rfl)))) (mvT hZ (hw _ (List.mem_of_getElem? (i := 21) rfl))) (mvT hZ (hw _ (List.mem_of_getElem? (i := 20) rfl))) (by decide) (backOf (W := 0) (rm3 l Z a0 hw [] a1092 (pp1086 + (6 : Int32)) (rr1087 + (6 : Int32)) (FP.dadd (FP.i2d p2) (4618441417868443648 : UInt64)) wa1103 ta1104 da1105 (own_w pp1086) (own_w rr1087) (own_d p2 p3) 6 T1244.heap n0 Z1260 E1256 F1248 F1249 F1250 F1251 V1252 V1253 V1254 g1093 g1129 g1132 g1135 ne1131 ne1134 ne1137 ne1121 ne1122 ne1123 hp1263 rfl rfl hp1264) hZ (hw _ (List.mem_of_getElem? (i := 22) rfl)) (hw _ (List.mem_of_getElem? (i := 3) rfl)) (by decide) (by decide)) q1266a q1266c (g := (mkF m 160 #[.val (.int p0), .val (.int p1), .val (.int p2), .val (.int p3), .val (.int pp1086), .val (.int rr1087), .val (.double (FP.i2d p2)), .second, .val (.int v1088), .val (.ref a1092), .unset, .unset, .unset, .unset, .unset, .unset] [(.double (FP.dadd (FP.i2d p2) (4618441417868443648 : UInt64))), (.int (rr1087 + (6 : Int32))), (.int (pp1086 + (6 : Int32))), (.ref a1092)])) rfl (by rw [hml]; rfl) (Steps.refl _) (argsL := [(.int (pp1086 + (6 : Int32))), (.int (rr1087 + (6 : Int32))), (.double (FP.dadd (FP.i2d p2) (4618441417868443648 : UInt64)))]) (rest := []) (lenOf pd_6 rfl) rfl (by show 2 * 0 + _ ≤ _; exact Nat.le_of_eq rfl) (hb hby at_160) (fun _ _ => ⟨rfl, rfl, (by decide : 4 + 0 ≤ _), (by decide : 52 + 0 ≤ _)⟩)
  have hQ1265b : Q3 Z a1092 (pp1086 + (6 : Int32)) (rr1087 + (6 : Int32)) (FP.dadd (FP.i2d p2) (4618441417868443648 : UInt64)) wa1103 ta1104 da1105 (own_w pp1086) (own_w rr1087) (own_d p2 p3) 6 T1244.heap n0 vv1265 T1265.heap L1265c := hQ1265
  clear hQ1265
  dsimp only [Pt.U, Pt.locs, Pt.cells, Pt.slots] at X1265 l1265 y1265 z1265 st1265
  subst y1265 z1265
  obtain ⟨rfl, Nq1267, Kq1268, F1269, F1270, F1271, F1272, V1273, V1274, V1275⟩ := hQ1265b
  have N1276 : Fr n0 L1265 := by rw [l1265]; exact Fr.app N1255 Nq1267
  refine Go.tr (g' := (mkF m 163 #[.val (.int p0), .val (.int p1), .val (.int p2), .val (.int p3), .val (.int pp1086), .val (.int rr1087), .val (.double (FP.i2d p2)), .second, .val (.int v1088), .val (.ref a1092), .unset, .unset, .unset, .unset, .unset, .unset] [])) st1265 ?_
  have E1277 : Exa Z T1265.heap a1092 "com/example/retinue/retinue/Matching$Pairs" := Exa.keep E1256 Kq1268
  have E1278 : Exa Z T1265.heap wa1103 "[I" := Exa.keep E1257 Kq1268
  have E1279 : Exa Z T1265.heap ta1104 "[I" := Exa.keep E1258 Kq1268
  have E1280 : Exa Z T1265.heap da1105 "[D" := Exa.keep E1259 Kq1268
  have Z1281 : n0 ≤ T1265.heap.size := Nat.le_trans Z1260 Kq1268.1
  have K1282 : Keep h0 T1265.heap [] := K1261.trans Kq1268 (allS (Or.inr gh1094) (allS (Or.inr gh1130) (allS (Or.inr gh1133) (allS (Or.inr gh1136) all0))))
  have A1283 := (⟨X1265, hx, hby⟩ : Ax _ _ _ _ _ _ _ _ _ _ _ _ _ _ _)
  refine g_aload A1283 at_163 rfl rfl (pc' := 165) rfl ?_
  refine g_iload A1283 at_165 rfl (pc' := 167) rfl ?_
  refine g_bipush A1283 at_167 (v := (7 : Int32)) rfl (pc' := 169) rfl ?_
  refine g_iadd A1283 at_169 (pc' := 170) rfl ?_
  refine g_iload A1283 at_170 rfl (pc' := 172) rfl ?_
  refine g_bipush A1283 at_172 (v := (7 : Int32)) rfl (pc' := 174) rfl ?_
  refine g_iadd A1283 at_174 (pc' := 175) rfl ?_
  refine g_dload A1283 at_175 rfl (pc' := 177) rfl ?_
  refine g_ldcD A1283 hZ hown (hw _ (List.mem_of_getElem? (i := 30) rfl)) at_177 (pc' := 180) rfl ?_
  refine g_dadd A1283 at_180 (own_ndadd (i2d_fin p2) (by unfold Fin64; decide : Fin64 (4619567317775286272 : UInt64))) (pc' := 181) rfl ?_
  have hp1284 : 7 < 16 := (by decide)
  have hp1285 : (FP.dadd (FP.i2d p2) (4619567317775286272 : UInt64)) = (own_d p2 p3) 7 := (show _ = FP.dadd (FP.i2d p2) (FP.i2d (Int32.ofNat 7)) from congrArg _ (by decide +kernel))
  obtain ⟨cq1287, kq1287, q1287a, q1287b, q1287c⟩ := isOf hZ rfl E1277
  obtain ⟨vv1286, _, ⟨T1286, L1286, k1286, n1286⟩, -, X1286, ⟨L1286c, hQ1286, l1286, y1286, z1286⟩, st1286⟩ := X1265.virtualBack hx (y := (⟨"com/example/retinue/retinue/Matching$Pairs", "add", "(IID)V"⟩ : MethodName)) (z := (⟨"com/example/retinue/retinue/Matching$Pairs", "add", "(IID)V"⟩ : MethodName)) hown (mvT hZ (hw _ (List.mem_of_getElem? (i := 18) rfl))) (mvT hZ (hw _ (List.mem_of_getElem? (i := 19) rfl))) (notFace_of_selects (args := #[]) (mvT hZ (hw _ (List.mem_of_getElem? (i := 21) rfl)))) (mvT hZ (hw _ (List.mem_of_getElem? (i := 21) rfl))) (mvT hZ (hw _ (List.mem_of_getElem? (i := 20) rfl))) (by decide) (backOf (W := 0) (rm3 l Z a0 hw [] a1092 (pp1086 + (7 : Int32)) (rr1087 + (7 : Int32)) (FP.dadd (FP.i2d p2) (4619567317775286272 : UInt64)) wa1103 ta1104 da1105 (own_w pp1086) (own_w rr1087) (own_d p2 p3) 7 T1265.heap n0 Z1281 E1277 F1269 F1270 F1271 F1272 V1273 V1274 V1275 g1093 g1129 g1132 g1135 ne1131 ne1134 ne1137 ne1121 ne1122 ne1123 hp1284 rfl rfl hp1285) hZ (hw _ (List.mem_of_getElem? (i := 22) rfl)) (hw _ (List.mem_of_getElem? (i := 3) rfl)) (by decide) (by decide)) q1287a q1287c (g := (mkF m 181 #[.val (.int p0), .val (.int p1), .val (.int p2), .val (.int p3), .val (.int pp1086), .val (.int rr1087), .val (.double (FP.i2d p2)), .second, .val (.int v1088), .val (.ref a1092), .unset, .unset, .unset, .unset, .unset, .unset] [(.double (FP.dadd (FP.i2d p2) (4619567317775286272 : UInt64))), (.int (rr1087 + (7 : Int32))), (.int (pp1086 + (7 : Int32))), (.ref a1092)])) rfl (by rw [hml]; rfl) (Steps.refl _) (argsL := [(.int (pp1086 + (7 : Int32))), (.int (rr1087 + (7 : Int32))), (.double (FP.dadd (FP.i2d p2) (4619567317775286272 : UInt64)))]) (rest := []) (lenOf pd_6 rfl) rfl (by show 2 * 0 + _ ≤ _; exact Nat.le_of_eq rfl) (hb hby at_181) (fun _ _ => ⟨rfl, rfl, (by decide : 4 + 0 ≤ _), (by decide : 52 + 0 ≤ _)⟩)
  have hQ1286b : Q3 Z a1092 (pp1086 + (7 : Int32)) (rr1087 + (7 : Int32)) (FP.dadd (FP.i2d p2) (4619567317775286272 : UInt64)) wa1103 ta1104 da1105 (own_w pp1086) (own_w rr1087) (own_d p2 p3) 7 T1265.heap n0 vv1286 T1286.heap L1286c := hQ1286
  clear hQ1286
  dsimp only [Pt.U, Pt.locs, Pt.cells, Pt.slots] at X1286 l1286 y1286 z1286 st1286
  subst y1286 z1286
  obtain ⟨rfl, Nq1288, Kq1289, F1290, F1291, F1292, F1293, V1294, V1295, V1296⟩ := hQ1286b
  have N1297 : Fr n0 L1286 := by rw [l1286]; exact Fr.app N1276 Nq1288
  refine Go.tr (g' := (mkF m 184 #[.val (.int p0), .val (.int p1), .val (.int p2), .val (.int p3), .val (.int pp1086), .val (.int rr1087), .val (.double (FP.i2d p2)), .second, .val (.int v1088), .val (.ref a1092), .unset, .unset, .unset, .unset, .unset, .unset] [])) st1286 ?_
  have E1298 : Exa Z T1286.heap a1092 "com/example/retinue/retinue/Matching$Pairs" := Exa.keep E1277 Kq1289
  have E1299 : Exa Z T1286.heap wa1103 "[I" := Exa.keep E1278 Kq1289
  have E1300 : Exa Z T1286.heap ta1104 "[I" := Exa.keep E1279 Kq1289
  have E1301 : Exa Z T1286.heap da1105 "[D" := Exa.keep E1280 Kq1289
  have Z1302 : n0 ≤ T1286.heap.size := Nat.le_trans Z1281 Kq1289.1
  have K1303 : Keep h0 T1286.heap [] := K1282.trans Kq1289 (allS (Or.inr gh1094) (allS (Or.inr gh1130) (allS (Or.inr gh1133) (allS (Or.inr gh1136) all0))))
  have A1304 := (⟨X1286, hx, hby⟩ : Ax _ _ _ _ _ _ _ _ _ _ _ _ _ _ _)
  refine g_aload A1304 at_184 rfl rfl (pc' := 186) rfl ?_
  refine g_iload A1304 at_186 rfl (pc' := 188) rfl ?_
  refine g_bipush A1304 at_188 (v := (8 : Int32)) rfl (pc' := 190) rfl ?_
  refine g_iadd A1304 at_190 (pc' := 191) rfl ?_
  refine g_iload A1304 at_191 rfl (pc' := 193) rfl ?_
  refine g_bipush A1304 at_193 (v := (8 : Int32)) rfl (pc' := 195) rfl ?_
  refine g_iadd A1304 at_195 (pc' := 196) rfl ?_
  refine g_dload A1304 at_196 rfl (pc' := 198) rfl ?_
  refine g_ldcD A1304 hZ hown (hw _ (List.mem_of_getElem? (i := 31) rfl)) at_198 (pc' := 201) rfl ?_
  refine g_dadd A1304 at_201 (own_ndadd (i2d_fin p2) (by unfold Fin64; decide : Fin64 (4620693217682128896 : UInt64))) (pc' := 202) rfl ?_
  have hp1305 : 8 < 16 := (by decide)
  have hp1306 : (FP.dadd (FP.i2d p2) (4620693217682128896 : UInt64)) = (own_d p2 p3) 8 := (show _ = FP.dadd (FP.i2d p2) (FP.i2d (Int32.ofNat 8)) from congrArg _ (by decide +kernel))
  obtain ⟨cq1308, kq1308, q1308a, q1308b, q1308c⟩ := isOf hZ rfl E1298
  obtain ⟨vv1307, _, ⟨T1307, L1307, k1307, n1307⟩, -, X1307, ⟨L1307c, hQ1307, l1307, y1307, z1307⟩, st1307⟩ := X1286.virtualBack hx (y := (⟨"com/example/retinue/retinue/Matching$Pairs", "add", "(IID)V"⟩ : MethodName)) (z := (⟨"com/example/retinue/retinue/Matching$Pairs", "add", "(IID)V"⟩ : MethodName)) hown (mvT hZ (hw _ (List.mem_of_getElem? (i := 18) rfl))) (mvT hZ (hw _ (List.mem_of_getElem? (i := 19) rfl))) (notFace_of_selects (args := #[]) (mvT hZ (hw _ (List.mem_of_getElem? (i := 21) rfl)))) (mvT hZ (hw _ (List.mem_of_getElem? (i := 21) rfl))) (mvT hZ (hw _ (List.mem_of_getElem? (i := 20) rfl))) (by decide) (backOf (W := 0) (rm3 l Z a0 hw [] a1092 (pp1086 + (8 : Int32)) (rr1087 + (8 : Int32)) (FP.dadd (FP.i2d p2) (4620693217682128896 : UInt64)) wa1103 ta1104 da1105 (own_w pp1086) (own_w rr1087) (own_d p2 p3) 8 T1286.heap n0 Z1302 E1298 F1290 F1291 F1292 F1293 V1294 V1295 V1296 g1093 g1129 g1132 g1135 ne1131 ne1134 ne1137 ne1121 ne1122 ne1123 hp1305 rfl rfl hp1306) hZ (hw _ (List.mem_of_getElem? (i := 22) rfl)) (hw _ (List.mem_of_getElem? (i := 3) rfl)) (by decide) (by decide)) q1308a q1308c (g := (mkF m 202 #[.val (.int p0), .val (.int p1), .val (.int p2), .val (.int p3), .val (.int pp1086), .val (.int rr1087), .val (.double (FP.i2d p2)), .second, .val (.int v1088), .val (.ref a1092), .unset, .unset, .unset, .unset, .unset, .unset] [(.double (FP.dadd (FP.i2d p2) (4620693217682128896 : UInt64))), (.int (rr1087 + (8 : Int32))), (.int (pp1086 + (8 : Int32))), (.ref a1092)])) rfl (by rw [hml]; rfl) (Steps.refl _) (argsL := [(.int (pp1086 + (8 : Int32))), (.int (rr1087 + (8 : Int32))), (.double (FP.dadd (FP.i2d p2) (4620693217682128896 : UInt64)))]) (rest := []) (lenOf pd_6 rfl) rfl (by show 2 * 0 + _ ≤ _; exact Nat.le_of_eq rfl) (hb hby at_202) (fun _ _ => ⟨rfl, rfl, (by decide : 4 + 0 ≤ _), (by decide : 52 + 0 ≤ _)⟩)
  have hQ1307b : Q3 Z a1092 (pp1086 + (8 : Int32)) (rr1087 + (8 : Int32)) (FP.dadd (FP.i2d p2) (4620693217682128896 : UInt64)) wa1103 ta1104 da1105 (own_w pp1086) (own_w rr1087) (own_d p2 p3) 8 T1286.heap n0 vv1307 T1307.heap L1307c := hQ1307
  clear hQ1307
  dsimp only [Pt.U, Pt.locs, Pt.cells, Pt.slots] at X1307 l1307 y1307 z1307 st1307
  subst y1307 z1307
  obtain ⟨rfl, Nq1309, Kq1310, F1311, F1312, F1313, F1314, V1315, V1316, V1317⟩ := hQ1307b
  have N1318 : Fr n0 L1307 := by rw [l1307]; exact Fr.app N1297 Nq1309
  refine Go.tr (g' := (mkF m 205 #[.val (.int p0), .val (.int p1), .val (.int p2), .val (.int p3), .val (.int pp1086), .val (.int rr1087), .val (.double (FP.i2d p2)), .second, .val (.int v1088), .val (.ref a1092), .unset, .unset, .unset, .unset, .unset, .unset] [])) st1307 ?_
  have E1319 : Exa Z T1307.heap a1092 "com/example/retinue/retinue/Matching$Pairs" := Exa.keep E1298 Kq1310
  have E1320 : Exa Z T1307.heap wa1103 "[I" := Exa.keep E1299 Kq1310
  have E1321 : Exa Z T1307.heap ta1104 "[I" := Exa.keep E1300 Kq1310
  have E1322 : Exa Z T1307.heap da1105 "[D" := Exa.keep E1301 Kq1310
  have Z1323 : n0 ≤ T1307.heap.size := Nat.le_trans Z1302 Kq1310.1
  have K1324 : Keep h0 T1307.heap [] := K1303.trans Kq1310 (allS (Or.inr gh1094) (allS (Or.inr gh1130) (allS (Or.inr gh1133) (allS (Or.inr gh1136) all0))))
  have A1325 := (⟨X1307, hx, hby⟩ : Ax _ _ _ _ _ _ _ _ _ _ _ _ _ _ _)
  refine g_aload A1325 at_205 rfl rfl (pc' := 207) rfl ?_
  refine g_iload A1325 at_207 rfl (pc' := 209) rfl ?_
  refine g_bipush A1325 at_209 (v := (9 : Int32)) rfl (pc' := 211) rfl ?_
  refine g_iadd A1325 at_211 (pc' := 212) rfl ?_
  refine g_iload A1325 at_212 rfl (pc' := 214) rfl ?_
  refine g_bipush A1325 at_214 (v := (9 : Int32)) rfl (pc' := 216) rfl ?_
  refine g_iadd A1325 at_216 (pc' := 217) rfl ?_
  refine g_dload A1325 at_217 rfl (pc' := 219) rfl ?_
  refine g_ldcD A1325 hZ hown (hw _ (List.mem_of_getElem? (i := 32) rfl)) at_219 (pc' := 222) rfl ?_
  refine g_dadd A1325 at_222 (own_ndadd (i2d_fin p2) (by unfold Fin64; decide : Fin64 (4621256167635550208 : UInt64))) (pc' := 223) rfl ?_
  have hp1326 : 9 < 16 := (by decide)
  have hp1327 : (FP.dadd (FP.i2d p2) (4621256167635550208 : UInt64)) = (own_d p2 p3) 9 := (show _ = FP.dadd (FP.i2d p2) (FP.i2d (Int32.ofNat 9)) from congrArg _ (by decide +kernel))
  obtain ⟨cq1329, kq1329, q1329a, q1329b, q1329c⟩ := isOf hZ rfl E1319
  obtain ⟨vv1328, _, ⟨T1328, L1328, k1328, n1328⟩, -, X1328, ⟨L1328c, hQ1328, l1328, y1328, z1328⟩, st1328⟩ := X1307.virtualBack hx (y := (⟨"com/example/retinue/retinue/Matching$Pairs", "add", "(IID)V"⟩ : MethodName)) (z := (⟨"com/example/retinue/retinue/Matching$Pairs", "add", "(IID)V"⟩ : MethodName)) hown (mvT hZ (hw _ (List.mem_of_getElem? (i := 18) rfl))) (mvT hZ (hw _ (List.mem_of_getElem? (i := 19) rfl))) (notFace_of_selects (args := #[]) (mvT hZ (hw _ (List.mem_of_getElem? (i := 21) rfl)))) (mvT hZ (hw _ (List.mem_of_getElem? (i := 21) rfl))) (mvT hZ (hw _ (List.mem_of_getElem? (i := 20) rfl))) (by decide) (backOf (W := 0) (rm3 l Z a0 hw [] a1092 (pp1086 + (9 : Int32)) (rr1087 + (9 : Int32)) (FP.dadd (FP.i2d p2) (4621256167635550208 : UInt64)) wa1103 ta1104 da1105 (own_w pp1086) (own_w rr1087) (own_d p2 p3) 9 T1307.heap n0 Z1323 E1319 F1311 F1312 F1313 F1314 V1315 V1316 V1317 g1093 g1129 g1132 g1135 ne1131 ne1134 ne1137 ne1121 ne1122 ne1123 hp1326 rfl rfl hp1327) hZ (hw _ (List.mem_of_getElem? (i := 22) rfl)) (hw _ (List.mem_of_getElem? (i := 3) rfl)) (by decide) (by decide)) q1329a q1329c (g := (mkF m 223 #[.val (.int p0), .val (.int p1), .val (.int p2), .val (.int p3), .val (.int pp1086), .val (.int rr1087), .val (.double (FP.i2d p2)), .second, .val (.int v1088), .val (.ref a1092), .unset, .unset, .unset, .unset, .unset, .unset] [(.double (FP.dadd (FP.i2d p2) (4621256167635550208 : UInt64))), (.int (rr1087 + (9 : Int32))), (.int (pp1086 + (9 : Int32))), (.ref a1092)])) rfl (by rw [hml]; rfl) (Steps.refl _) (argsL := [(.int (pp1086 + (9 : Int32))), (.int (rr1087 + (9 : Int32))), (.double (FP.dadd (FP.i2d p2) (4621256167635550208 : UInt64)))]) (rest := []) (lenOf pd_6 rfl) rfl (by show 2 * 0 + _ ≤ _; exact Nat.le_of_eq rfl) (hb hby at_223) (fun _ _ => ⟨rfl, rfl, (by decide : 4 + 0 ≤ _), (by decide : 52 + 0 ≤ _)⟩)
  have hQ1328b : Q3 Z a1092 (pp1086 + (9 : Int32)) (rr1087 + (9 : Int32)) (FP.dadd (FP.i2d p2) (4621256167635550208 : UInt64)) wa1103 ta1104 da1105 (own_w pp1086) (own_w rr1087) (own_d p2 p3) 9 T1307.heap n0 vv1328 T1328.heap L1328c := hQ1328
  clear hQ1328
  dsimp only [Pt.U, Pt.locs, Pt.cells, Pt.slots] at X1328 l1328 y1328 z1328 st1328
  subst y1328 z1328
  obtain ⟨rfl, Nq1330, Kq1331, F1332, F1333, F1334, F1335, V1336, V1337, V1338⟩ := hQ1328b
  have N1339 : Fr n0 L1328 := by rw [l1328]; exact Fr.app N1318 Nq1330
  refine Go.tr (g' := (mkF m 226 #[.val (.int p0), .val (.int p1), .val (.int p2), .val (.int p3), .val (.int pp1086), .val (.int rr1087), .val (.double (FP.i2d p2)), .second, .val (.int v1088), .val (.ref a1092), .unset, .unset, .unset, .unset, .unset, .unset] [])) st1328 ?_
  have E1340 : Exa Z T1328.heap a1092 "com/example/retinue/retinue/Matching$Pairs" := Exa.keep E1319 Kq1331
  have E1341 : Exa Z T1328.heap wa1103 "[I" := Exa.keep E1320 Kq1331
  have E1342 : Exa Z T1328.heap ta1104 "[I" := Exa.keep E1321 Kq1331
  have E1343 : Exa Z T1328.heap da1105 "[D" := Exa.keep E1322 Kq1331
  have Z1344 : n0 ≤ T1328.heap.size := Nat.le_trans Z1323 Kq1331.1
  have K1345 : Keep h0 T1328.heap [] := K1324.trans Kq1331 (allS (Or.inr gh1094) (allS (Or.inr gh1130) (allS (Or.inr gh1133) (allS (Or.inr gh1136) all0))))
  have A1346 := (⟨X1328, hx, hby⟩ : Ax _ _ _ _ _ _ _ _ _ _ _ _ _ _ _)
  refine g_aload A1346 at_226 rfl rfl (pc' := 228) rfl ?_
  refine g_iload A1346 at_228 rfl (pc' := 230) rfl ?_
  refine g_bipush A1346 at_230 (v := (10 : Int32)) rfl (pc' := 232) rfl ?_
  refine g_iadd A1346 at_232 (pc' := 233) rfl ?_
  refine g_iload A1346 at_233 rfl (pc' := 235) rfl ?_
  refine g_bipush A1346 at_235 (v := (10 : Int32)) rfl (pc' := 237) rfl ?_
  refine g_iadd A1346 at_237 (pc' := 238) rfl ?_
  refine g_dload A1346 at_238 rfl (pc' := 240) rfl ?_
  refine g_ldcD A1346 hZ hown (hw _ (List.mem_of_getElem? (i := 33) rfl)) at_240 (pc' := 243) rfl ?_
  refine g_dadd A1346 at_243 (own_ndadd (i2d_fin p2) (by unfold Fin64; decide : Fin64 (4621819117588971520 : UInt64))) (pc' := 244) rfl ?_
  have hp1347 : 10 < 16 := (by decide)
  have hp1348 : (FP.dadd (FP.i2d p2) (4621819117588971520 : UInt64)) = (own_d p2 p3) 10 := (show _ = FP.dadd (FP.i2d p2) (FP.i2d (Int32.ofNat 10)) from congrArg _ (by decide +kernel))
  obtain ⟨cq1350, kq1350, q1350a, q1350b, q1350c⟩ := isOf hZ rfl E1340
  obtain ⟨vv1349, _, ⟨T1349, L1349, k1349, n1349⟩, -, X1349, ⟨L1349c, hQ1349, l1349, y1349, z1349⟩, st1349⟩ := X1328.virtualBack hx (y := (⟨"com/example/retinue/retinue/Matching$Pairs", "add", "(IID)V"⟩ : MethodName)) (z := (⟨"com/example/retinue/retinue/Matching$Pairs", "add", "(IID)V"⟩ : MethodName)) hown (mvT hZ (hw _ (List.mem_of_getElem? (i := 18) rfl))) (mvT hZ (hw _ (List.mem_of_getElem? (i := 19) rfl))) (notFace_of_selects (args := #[]) (mvT hZ (hw _ (List.mem_of_getElem? (i := 21) rfl)))) (mvT hZ (hw _ (List.mem_of_getElem? (i := 21) rfl))) (mvT hZ (hw _ (List.mem_of_getElem? (i := 20) rfl))) (by decide) (backOf (W := 0) (rm3 l Z a0 hw [] a1092 (pp1086 + (10 : Int32)) (rr1087 + (10 : Int32)) (FP.dadd (FP.i2d p2) (4621819117588971520 : UInt64)) wa1103 ta1104 da1105 (own_w pp1086) (own_w rr1087) (own_d p2 p3) 10 T1328.heap n0 Z1344 E1340 F1332 F1333 F1334 F1335 V1336 V1337 V1338 g1093 g1129 g1132 g1135 ne1131 ne1134 ne1137 ne1121 ne1122 ne1123 hp1347 rfl rfl hp1348) hZ (hw _ (List.mem_of_getElem? (i := 22) rfl)) (hw _ (List.mem_of_getElem? (i := 3) rfl)) (by decide) (by decide)) q1350a q1350c (g := (mkF m 244 #[.val (.int p0), .val (.int p1), .val (.int p2), .val (.int p3), .val (.int pp1086), .val (.int rr1087), .val (.double (FP.i2d p2)), .second, .val (.int v1088), .val (.ref a1092), .unset, .unset, .unset, .unset, .unset, .unset] [(.double (FP.dadd (FP.i2d p2) (4621819117588971520 : UInt64))), (.int (rr1087 + (10 : Int32))), (.int (pp1086 + (10 : Int32))), (.ref a1092)])) rfl (by rw [hml]; rfl) (Steps.refl _) (argsL := [(.int (pp1086 + (10 : Int32))), (.int (rr1087 + (10 : Int32))), (.double (FP.dadd (FP.i2d p2) (4621819117588971520 : UInt64)))]) (rest := []) (lenOf pd_6 rfl) rfl (by show 2 * 0 + _ ≤ _; exact Nat.le_of_eq rfl) (hb hby at_244) (fun _ _ => ⟨rfl, rfl, (by decide : 4 + 0 ≤ _), (by decide : 52 + 0 ≤ _)⟩)
  have hQ1349b : Q3 Z a1092 (pp1086 + (10 : Int32)) (rr1087 + (10 : Int32)) (FP.dadd (FP.i2d p2) (4621819117588971520 : UInt64)) wa1103 ta1104 da1105 (own_w pp1086) (own_w rr1087) (own_d p2 p3) 10 T1328.heap n0 vv1349 T1349.heap L1349c := hQ1349
  clear hQ1349
  dsimp only [Pt.U, Pt.locs, Pt.cells, Pt.slots] at X1349 l1349 y1349 z1349 st1349
  subst y1349 z1349
  obtain ⟨rfl, Nq1351, Kq1352, F1353, F1354, F1355, F1356, V1357, V1358, V1359⟩ := hQ1349b
  have N1360 : Fr n0 L1349 := by rw [l1349]; exact Fr.app N1339 Nq1351
  refine Go.tr (g' := (mkF m 247 #[.val (.int p0), .val (.int p1), .val (.int p2), .val (.int p3), .val (.int pp1086), .val (.int rr1087), .val (.double (FP.i2d p2)), .second, .val (.int v1088), .val (.ref a1092), .unset, .unset, .unset, .unset, .unset, .unset] [])) st1349 ?_
  have E1361 : Exa Z T1349.heap a1092 "com/example/retinue/retinue/Matching$Pairs" := Exa.keep E1340 Kq1352
  have E1362 : Exa Z T1349.heap wa1103 "[I" := Exa.keep E1341 Kq1352
  have E1363 : Exa Z T1349.heap ta1104 "[I" := Exa.keep E1342 Kq1352
  have E1364 : Exa Z T1349.heap da1105 "[D" := Exa.keep E1343 Kq1352
  have Z1365 : n0 ≤ T1349.heap.size := Nat.le_trans Z1344 Kq1352.1
  have K1366 : Keep h0 T1349.heap [] := K1345.trans Kq1352 (allS (Or.inr gh1094) (allS (Or.inr gh1130) (allS (Or.inr gh1133) (allS (Or.inr gh1136) all0))))
  have A1367 := (⟨X1349, hx, hby⟩ : Ax _ _ _ _ _ _ _ _ _ _ _ _ _ _ _)
  refine g_aload A1367 at_247 rfl rfl (pc' := 249) rfl ?_
  refine g_iload A1367 at_249 rfl (pc' := 251) rfl ?_
  refine g_bipush A1367 at_251 (v := (11 : Int32)) rfl (pc' := 253) rfl ?_
  refine g_iadd A1367 at_253 (pc' := 254) rfl ?_
  refine g_iload A1367 at_254 rfl (pc' := 256) rfl ?_
  refine g_bipush A1367 at_256 (v := (11 : Int32)) rfl (pc' := 258) rfl ?_
  refine g_iadd A1367 at_258 (pc' := 259) rfl ?_
  refine g_dload A1367 at_259 rfl (pc' := 261) rfl ?_
  refine g_ldcD A1367 hZ hown (hw _ (List.mem_of_getElem? (i := 34) rfl)) at_261 (pc' := 264) rfl ?_
  refine g_dadd A1367 at_264 (own_ndadd (i2d_fin p2) (by unfold Fin64; decide : Fin64 (4622382067542392832 : UInt64))) (pc' := 265) rfl ?_
  have hp1368 : 11 < 16 := (by decide)
  have hp1369 : (FP.dadd (FP.i2d p2) (4622382067542392832 : UInt64)) = (own_d p2 p3) 11 := (show _ = FP.dadd (FP.i2d p2) (FP.i2d (Int32.ofNat 11)) from congrArg _ (by decide +kernel))
  obtain ⟨cq1371, kq1371, q1371a, q1371b, q1371c⟩ := isOf hZ rfl E1361
  obtain ⟨vv1370, _, ⟨T1370, L1370, k1370, n1370⟩, -, X1370, ⟨L1370c, hQ1370, l1370, y1370, z1370⟩, st1370⟩ := X1349.virtualBack hx (y := (⟨"com/example/retinue/retinue/Matching$Pairs", "add", "(IID)V"⟩ : MethodName)) (z := (⟨"com/example/retinue/retinue/Matching$Pairs", "add", "(IID)V"⟩ : MethodName)) hown (mvT hZ (hw _ (List.mem_of_getElem? (i := 18) rfl))) (mvT hZ (hw _ (List.mem_of_getElem? (i := 19) rfl))) (notFace_of_selects (args := #[]) (mvT hZ (hw _ (List.mem_of_getElem? (i := 21) rfl)))) (mvT hZ (hw _ (List.mem_of_getElem? (i := 21) rfl))) (mvT hZ (hw _ (List.mem_of_getElem? (i := 20) rfl))) (by decide) (backOf (W := 0) (rm3 l Z a0 hw [] a1092 (pp1086 + (11 : Int32)) (rr1087 + (11 : Int32)) (FP.dadd (FP.i2d p2) (4622382067542392832 : UInt64)) wa1103 ta1104 da1105 (own_w pp1086) (own_w rr1087) (own_d p2 p3) 11 T1349.heap n0 Z1365 E1361 F1353 F1354 F1355 F1356 V1357 V1358 V1359 g1093 g1129 g1132 g1135 ne1131 ne1134 ne1137 ne1121 ne1122 ne1123 hp1368 rfl rfl hp1369) hZ (hw _ (List.mem_of_getElem? (i := 22) rfl)) (hw _ (List.mem_of_getElem? (i := 3) rfl)) (by decide) (by decide)) q1371a q1371c (g := (mkF m 265 #[.val (.int p0), .val (.int p1), .val (.int p2), .val (.int p3), .val (.int pp1086), .val (.int rr1087), .val (.double (FP.i2d p2)), .second, .val (.int v1088), .val (.ref a1092), .unset, .unset, .unset, .unset, .unset, .unset] [(.double (FP.dadd (FP.i2d p2) (4622382067542392832 : UInt64))), (.int (rr1087 + (11 : Int32))), (.int (pp1086 + (11 : Int32))), (.ref a1092)])) rfl (by rw [hml]; rfl) (Steps.refl _) (argsL := [(.int (pp1086 + (11 : Int32))), (.int (rr1087 + (11 : Int32))), (.double (FP.dadd (FP.i2d p2) (4622382067542392832 : UInt64)))]) (rest := []) (lenOf pd_6 rfl) rfl (by show 2 * 0 + _ ≤ _; exact Nat.le_of_eq rfl) (hb hby at_265) (fun _ _ => ⟨rfl, rfl, (by decide : 4 + 0 ≤ _), (by decide : 52 + 0 ≤ _)⟩)
  have hQ1370b : Q3 Z a1092 (pp1086 + (11 : Int32)) (rr1087 + (11 : Int32)) (FP.dadd (FP.i2d p2) (4622382067542392832 : UInt64)) wa1103 ta1104 da1105 (own_w pp1086) (own_w rr1087) (own_d p2 p3) 11 T1349.heap n0 vv1370 T1370.heap L1370c := hQ1370
  clear hQ1370
  dsimp only [Pt.U, Pt.locs, Pt.cells, Pt.slots] at X1370 l1370 y1370 z1370 st1370
  subst y1370 z1370
  obtain ⟨rfl, Nq1372, Kq1373, F1374, F1375, F1376, F1377, V1378, V1379, V1380⟩ := hQ1370b
  have N1381 : Fr n0 L1370 := by rw [l1370]; exact Fr.app N1360 Nq1372
  refine Go.tr (g' := (mkF m 268 #[.val (.int p0), .val (.int p1), .val (.int p2), .val (.int p3), .val (.int pp1086), .val (.int rr1087), .val (.double (FP.i2d p2)), .second, .val (.int v1088), .val (.ref a1092), .unset, .unset, .unset, .unset, .unset, .unset] [])) st1370 ?_
  have E1382 : Exa Z T1370.heap a1092 "com/example/retinue/retinue/Matching$Pairs" := Exa.keep E1361 Kq1373
  have E1383 : Exa Z T1370.heap wa1103 "[I" := Exa.keep E1362 Kq1373
  have E1384 : Exa Z T1370.heap ta1104 "[I" := Exa.keep E1363 Kq1373
  have E1385 : Exa Z T1370.heap da1105 "[D" := Exa.keep E1364 Kq1373
  have Z1386 : n0 ≤ T1370.heap.size := Nat.le_trans Z1365 Kq1373.1
  have K1387 : Keep h0 T1370.heap [] := K1366.trans Kq1373 (allS (Or.inr gh1094) (allS (Or.inr gh1130) (allS (Or.inr gh1133) (allS (Or.inr gh1136) all0))))
  have A1388 := (⟨X1370, hx, hby⟩ : Ax _ _ _ _ _ _ _ _ _ _ _ _ _ _ _)
  refine g_aload A1388 at_268 rfl rfl (pc' := 270) rfl ?_
  refine g_iload A1388 at_270 rfl (pc' := 272) rfl ?_
  refine g_bipush A1388 at_272 (v := (12 : Int32)) rfl (pc' := 274) rfl ?_
  refine g_iadd A1388 at_274 (pc' := 275) rfl ?_
  refine g_iload A1388 at_275 rfl (pc' := 277) rfl ?_
  refine g_bipush A1388 at_277 (v := (12 : Int32)) rfl (pc' := 279) rfl ?_
  refine g_iadd A1388 at_279 (pc' := 280) rfl ?_
  refine g_dload A1388 at_280 rfl (pc' := 282) rfl ?_
  refine g_ldcD A1388 hZ hown (hw _ (List.mem_of_getElem? (i := 35) rfl)) at_282 (pc' := 285) rfl ?_
  refine g_dadd A1388 at_285 (own_ndadd (i2d_fin p2) (by unfold Fin64; decide : Fin64 (4622945017495814144 : UInt64))) (pc' := 286) rfl ?_
  have hp1389 : 12 < 16 := (by decide)
  have hp1390 : (FP.dadd (FP.i2d p2) (4622945017495814144 : UInt64)) = (own_d p2 p3) 12 := (show _ = FP.dadd (FP.i2d p2) (FP.i2d (Int32.ofNat 12)) from congrArg _ (by decide +kernel))
  obtain ⟨cq1392, kq1392, q1392a, q1392b, q1392c⟩ := isOf hZ rfl E1382
  obtain ⟨vv1391, _, ⟨T1391, L1391, k1391, n1391⟩, -, X1391, ⟨L1391c, hQ1391, l1391, y1391, z1391⟩, st1391⟩ := X1370.virtualBack hx (y := (⟨"com/example/retinue/retinue/Matching$Pairs", "add", "(IID)V"⟩ : MethodName)) (z := (⟨"com/example/retinue/retinue/Matching$Pairs", "add", "(IID)V"⟩ : MethodName)) hown (mvT hZ (hw _ (List.mem_of_getElem? (i := 18) rfl))) (mvT hZ (hw _ (List.mem_of_getElem? (i := 19) rfl))) (notFace_of_selects (args := #[]) (mvT hZ (hw _ (List.mem_of_getElem? (i := 21) rfl)))) (mvT hZ (hw _ (List.mem_of_getElem? (i := 21) rfl))) (mvT hZ (hw _ (List.mem_of_getElem? (i := 20) rfl))) (by decide) (backOf (W := 0) (rm3 l Z a0 hw [] a1092 (pp1086 + (12 : Int32)) (rr1087 + (12 : Int32)) (FP.dadd (FP.i2d p2) (4622945017495814144 : UInt64)) wa1103 ta1104 da1105 (own_w pp1086) (own_w rr1087) (own_d p2 p3) 12 T1370.heap n0 Z1386 E1382 F1374 F1375 F1376 F1377 V1378 V1379 V1380 g1093 g1129 g1132 g1135 ne1131 ne1134 ne1137 ne1121 ne1122 ne1123 hp1389 rfl rfl hp1390) hZ (hw _ (List.mem_of_getElem? (i := 22) rfl)) (hw _ (List.mem_of_getElem? (i := 3) rfl)) (by decide) (by decide)) q1392a q1392c (g := (mkF m 286 #[.val (.int p0), .val (.int p1), .val (.int p2), .val (.int p3), .val (.int pp1086), .val (.int rr1087), .val (.double (FP.i2d p2)), .second, .val (.int v1088), .val (.ref a1092), .unset, .unset, .unset, .unset, .unset, .unset] [(.double (FP.dadd (FP.i2d p2) (4622945017495814144 : UInt64))), (.int (rr1087 + (12 : Int32))), (.int (pp1086 + (12 : Int32))), (.ref a1092)])) rfl (by rw [hml]; rfl) (Steps.refl _) (argsL := [(.int (pp1086 + (12 : Int32))), (.int (rr1087 + (12 : Int32))), (.double (FP.dadd (FP.i2d p2) (4622945017495814144 : UInt64)))]) (rest := []) (lenOf pd_6 rfl) rfl (by show 2 * 0 + _ ≤ _; exact Nat.le_of_eq rfl) (hb hby at_286) (fun _ _ => ⟨rfl, rfl, (by decide : 4 + 0 ≤ _), (by decide : 52 + 0 ≤ _)⟩)
  have hQ1391b : Q3 Z a1092 (pp1086 + (12 : Int32)) (rr1087 + (12 : Int32)) (FP.dadd (FP.i2d p2) (4622945017495814144 : UInt64)) wa1103 ta1104 da1105 (own_w pp1086) (own_w rr1087) (own_d p2 p3) 12 T1370.heap n0 vv1391 T1391.heap L1391c := hQ1391
  clear hQ1391
  dsimp only [Pt.U, Pt.locs, Pt.cells, Pt.slots] at X1391 l1391 y1391 z1391 st1391
  subst y1391 z1391
  obtain ⟨rfl, Nq1393, Kq1394, F1395, F1396, F1397, F1398, V1399, V1400, V1401⟩ := hQ1391b
  have N1402 : Fr n0 L1391 := by rw [l1391]; exact Fr.app N1381 Nq1393
  refine Go.tr (g' := (mkF m 289 #[.val (.int p0), .val (.int p1), .val (.int p2), .val (.int p3), .val (.int pp1086), .val (.int rr1087), .val (.double (FP.i2d p2)), .second, .val (.int v1088), .val (.ref a1092), .unset, .unset, .unset, .unset, .unset, .unset] [])) st1391 ?_
  have E1403 : Exa Z T1391.heap a1092 "com/example/retinue/retinue/Matching$Pairs" := Exa.keep E1382 Kq1394
  have E1404 : Exa Z T1391.heap wa1103 "[I" := Exa.keep E1383 Kq1394
  have E1405 : Exa Z T1391.heap ta1104 "[I" := Exa.keep E1384 Kq1394
  have E1406 : Exa Z T1391.heap da1105 "[D" := Exa.keep E1385 Kq1394
  have Z1407 : n0 ≤ T1391.heap.size := Nat.le_trans Z1386 Kq1394.1
  have K1408 : Keep h0 T1391.heap [] := K1387.trans Kq1394 (allS (Or.inr gh1094) (allS (Or.inr gh1130) (allS (Or.inr gh1133) (allS (Or.inr gh1136) all0))))
  have A1409 := (⟨X1391, hx, hby⟩ : Ax _ _ _ _ _ _ _ _ _ _ _ _ _ _ _)
  refine g_aload A1409 at_289 rfl rfl (pc' := 291) rfl ?_
  refine g_iload A1409 at_291 rfl (pc' := 293) rfl ?_
  refine g_bipush A1409 at_293 (v := (13 : Int32)) rfl (pc' := 295) rfl ?_
  refine g_iadd A1409 at_295 (pc' := 296) rfl ?_
  refine g_iload A1409 at_296 rfl (pc' := 298) rfl ?_
  refine g_bipush A1409 at_298 (v := (13 : Int32)) rfl (pc' := 300) rfl ?_
  refine g_iadd A1409 at_300 (pc' := 301) rfl ?_
  refine g_dload A1409 at_301 rfl (pc' := 303) rfl ?_
  refine g_ldcD A1409 hZ hown (hw _ (List.mem_of_getElem? (i := 36) rfl)) at_303 (pc' := 306) rfl ?_
  refine g_dadd A1409 at_306 (own_ndadd (i2d_fin p2) (by unfold Fin64; decide : Fin64 (4623507967449235456 : UInt64))) (pc' := 307) rfl ?_
  have hp1410 : 13 < 16 := (by decide)
  have hp1411 : (FP.dadd (FP.i2d p2) (4623507967449235456 : UInt64)) = (own_d p2 p3) 13 := (show _ = FP.dadd (FP.i2d p2) (FP.i2d (Int32.ofNat 13)) from congrArg _ (by decide +kernel))
  obtain ⟨cq1413, kq1413, q1413a, q1413b, q1413c⟩ := isOf hZ rfl E1403
  obtain ⟨vv1412, _, ⟨T1412, L1412, k1412, n1412⟩, -, X1412, ⟨L1412c, hQ1412, l1412, y1412, z1412⟩, st1412⟩ := X1391.virtualBack hx (y := (⟨"com/example/retinue/retinue/Matching$Pairs", "add", "(IID)V"⟩ : MethodName)) (z := (⟨"com/example/retinue/retinue/Matching$Pairs", "add", "(IID)V"⟩ : MethodName)) hown (mvT hZ (hw _ (List.mem_of_getElem? (i := 18) rfl))) (mvT hZ (hw _ (List.mem_of_getElem? (i := 19) rfl))) (notFace_of_selects (args := #[]) (mvT hZ (hw _ (List.mem_of_getElem? (i := 21) rfl)))) (mvT hZ (hw _ (List.mem_of_getElem? (i := 21) rfl))) (mvT hZ (hw _ (List.mem_of_getElem? (i := 20) rfl))) (by decide) (backOf (W := 0) (rm3 l Z a0 hw [] a1092 (pp1086 + (13 : Int32)) (rr1087 + (13 : Int32)) (FP.dadd (FP.i2d p2) (4623507967449235456 : UInt64)) wa1103 ta1104 da1105 (own_w pp1086) (own_w rr1087) (own_d p2 p3) 13 T1391.heap n0 Z1407 E1403 F1395 F1396 F1397 F1398 V1399 V1400 V1401 g1093 g1129 g1132 g1135 ne1131 ne1134 ne1137 ne1121 ne1122 ne1123 hp1410 rfl rfl hp1411) hZ (hw _ (List.mem_of_getElem? (i := 22) rfl)) (hw _ (List.mem_of_getElem? (i := 3) rfl)) (by decide) (by decide)) q1413a q1413c (g := (mkF m 307 #[.val (.int p0), .val (.int p1), .val (.int p2), .val (.int p3), .val (.int pp1086), .val (.int rr1087), .val (.double (FP.i2d p2)), .second, .val (.int v1088), .val (.ref a1092), .unset, .unset, .unset, .unset, .unset, .unset] [(.double (FP.dadd (FP.i2d p2) (4623507967449235456 : UInt64))), (.int (rr1087 + (13 : Int32))), (.int (pp1086 + (13 : Int32))), (.ref a1092)])) rfl (by rw [hml]; rfl) (Steps.refl _) (argsL := [(.int (pp1086 + (13 : Int32))), (.int (rr1087 + (13 : Int32))), (.double (FP.dadd (FP.i2d p2) (4623507967449235456 : UInt64)))]) (rest := []) (lenOf pd_6 rfl) rfl (by show 2 * 0 + _ ≤ _; exact Nat.le_of_eq rfl) (hb hby at_307) (fun _ _ => ⟨rfl, rfl, (by decide : 4 + 0 ≤ _), (by decide : 52 + 0 ≤ _)⟩)
  have hQ1412b : Q3 Z a1092 (pp1086 + (13 : Int32)) (rr1087 + (13 : Int32)) (FP.dadd (FP.i2d p2) (4623507967449235456 : UInt64)) wa1103 ta1104 da1105 (own_w pp1086) (own_w rr1087) (own_d p2 p3) 13 T1391.heap n0 vv1412 T1412.heap L1412c := hQ1412
  clear hQ1412
  dsimp only [Pt.U, Pt.locs, Pt.cells, Pt.slots] at X1412 l1412 y1412 z1412 st1412
  subst y1412 z1412
  obtain ⟨rfl, Nq1414, Kq1415, F1416, F1417, F1418, F1419, V1420, V1421, V1422⟩ := hQ1412b
  have N1423 : Fr n0 L1412 := by rw [l1412]; exact Fr.app N1402 Nq1414
  refine Go.tr (g' := (mkF m 310 #[.val (.int p0), .val (.int p1), .val (.int p2), .val (.int p3), .val (.int pp1086), .val (.int rr1087), .val (.double (FP.i2d p2)), .second, .val (.int v1088), .val (.ref a1092), .unset, .unset, .unset, .unset, .unset, .unset] [])) st1412 ?_
  have E1424 : Exa Z T1412.heap a1092 "com/example/retinue/retinue/Matching$Pairs" := Exa.keep E1403 Kq1415
  have E1425 : Exa Z T1412.heap wa1103 "[I" := Exa.keep E1404 Kq1415
  have E1426 : Exa Z T1412.heap ta1104 "[I" := Exa.keep E1405 Kq1415
  have E1427 : Exa Z T1412.heap da1105 "[D" := Exa.keep E1406 Kq1415
  have Z1428 : n0 ≤ T1412.heap.size := Nat.le_trans Z1407 Kq1415.1
  have K1429 : Keep h0 T1412.heap [] := K1408.trans Kq1415 (allS (Or.inr gh1094) (allS (Or.inr gh1130) (allS (Or.inr gh1133) (allS (Or.inr gh1136) all0))))
  have A1430 := (⟨X1412, hx, hby⟩ : Ax _ _ _ _ _ _ _ _ _ _ _ _ _ _ _)
  refine g_aload A1430 at_310 rfl rfl (pc' := 312) rfl ?_
  refine g_iload A1430 at_312 rfl (pc' := 314) rfl ?_
  refine g_bipush A1430 at_314 (v := (14 : Int32)) rfl (pc' := 316) rfl ?_
  refine g_iadd A1430 at_316 (pc' := 317) rfl ?_
  refine g_iload A1430 at_317 rfl (pc' := 319) rfl ?_
  refine g_bipush A1430 at_319 (v := (14 : Int32)) rfl (pc' := 321) rfl ?_
  refine g_iadd A1430 at_321 (pc' := 322) rfl ?_
  refine g_dload A1430 at_322 rfl (pc' := 324) rfl ?_
  refine g_ldcD A1430 hZ hown (hw _ (List.mem_of_getElem? (i := 37) rfl)) at_324 (pc' := 327) rfl ?_
  refine g_dadd A1430 at_327 (own_ndadd (i2d_fin p2) (by unfold Fin64; decide : Fin64 (4624070917402656768 : UInt64))) (pc' := 328) rfl ?_
  have hp1431 : 14 < 16 := (by decide)
  have hp1432 : (FP.dadd (FP.i2d p2) (4624070917402656768 : UInt64)) = (own_d p2 p3) 14 := (show _ = FP.dadd (FP.i2d p2) (FP.i2d (Int32.ofNat 14)) from congrArg _ (by decide +kernel))
  obtain ⟨cq1434, kq1434, q1434a, q1434b, q1434c⟩ := isOf hZ rfl E1424
  obtain ⟨vv1433, _, ⟨T1433, L1433, k1433, n1433⟩, -, X1433, ⟨L1433c, hQ1433, l1433, y1433, z1433⟩, st1433⟩ := X1412.virtualBack hx (y := (⟨"com/example/retinue/retinue/Matching$Pairs", "add", "(IID)V"⟩ : MethodName)) (z := (⟨"com/example/retinue/retinue/Matching$Pairs", "add", "(IID)V"⟩ : MethodName)) hown (mvT hZ (hw _ (List.mem_of_getElem? (i := 18) rfl))) (mvT hZ (hw _ (List.mem_of_getElem? (i := 19) rfl))) (notFace_of_selects (args := #[]) (mvT hZ (hw _ (List.mem_of_getElem? (i := 21) rfl)))) (mvT hZ (hw _ (List.mem_of_getElem? (i := 21) rfl))) (mvT hZ (hw _ (List.mem_of_getElem? (i := 20) rfl))) (by decide) (backOf (W := 0) (rm3 l Z a0 hw [] a1092 (pp1086 + (14 : Int32)) (rr1087 + (14 : Int32)) (FP.dadd (FP.i2d p2) (4624070917402656768 : UInt64)) wa1103 ta1104 da1105 (own_w pp1086) (own_w rr1087) (own_d p2 p3) 14 T1412.heap n0 Z1428 E1424 F1416 F1417 F1418 F1419 V1420 V1421 V1422 g1093 g1129 g1132 g1135 ne1131 ne1134 ne1137 ne1121 ne1122 ne1123 hp1431 rfl rfl hp1432) hZ (hw _ (List.mem_of_getElem? (i := 22) rfl)) (hw _ (List.mem_of_getElem? (i := 3) rfl)) (by decide) (by decide)) q1434a q1434c (g := (mkF m 328 #[.val (.int p0), .val (.int p1), .val (.int p2), .val (.int p3), .val (.int pp1086), .val (.int rr1087), .val (.double (FP.i2d p2)), .second, .val (.int v1088), .val (.ref a1092), .unset, .unset, .unset, .unset, .unset, .unset] [(.double (FP.dadd (FP.i2d p2) (4624070917402656768 : UInt64))), (.int (rr1087 + (14 : Int32))), (.int (pp1086 + (14 : Int32))), (.ref a1092)])) rfl (by rw [hml]; rfl) (Steps.refl _) (argsL := [(.int (pp1086 + (14 : Int32))), (.int (rr1087 + (14 : Int32))), (.double (FP.dadd (FP.i2d p2) (4624070917402656768 : UInt64)))]) (rest := []) (lenOf pd_6 rfl) rfl (by show 2 * 0 + _ ≤ _; exact Nat.le_of_eq rfl) (hb hby at_328) (fun _ _ => ⟨rfl, rfl, (by decide : 4 + 0 ≤ _), (by decide : 52 + 0 ≤ _)⟩)
  have hQ1433b : Q3 Z a1092 (pp1086 + (14 : Int32)) (rr1087 + (14 : Int32)) (FP.dadd (FP.i2d p2) (4624070917402656768 : UInt64)) wa1103 ta1104 da1105 (own_w pp1086) (own_w rr1087) (own_d p2 p3) 14 T1412.heap n0 vv1433 T1433.heap L1433c := hQ1433
  clear hQ1433
  dsimp only [Pt.U, Pt.locs, Pt.cells, Pt.slots] at X1433 l1433 y1433 z1433 st1433
  subst y1433 z1433
  obtain ⟨rfl, Nq1435, Kq1436, F1437, F1438, F1439, F1440, V1441, V1442, V1443⟩ := hQ1433b
  have N1444 : Fr n0 L1433 := by rw [l1433]; exact Fr.app N1423 Nq1435
  refine Go.tr (g' := (mkF m 331 #[.val (.int p0), .val (.int p1), .val (.int p2), .val (.int p3), .val (.int pp1086), .val (.int rr1087), .val (.double (FP.i2d p2)), .second, .val (.int v1088), .val (.ref a1092), .unset, .unset, .unset, .unset, .unset, .unset] [])) st1433 ?_
  have E1445 : Exa Z T1433.heap a1092 "com/example/retinue/retinue/Matching$Pairs" := Exa.keep E1424 Kq1436
  have E1446 : Exa Z T1433.heap wa1103 "[I" := Exa.keep E1425 Kq1436
  have E1447 : Exa Z T1433.heap ta1104 "[I" := Exa.keep E1426 Kq1436
  have E1448 : Exa Z T1433.heap da1105 "[D" := Exa.keep E1427 Kq1436
  have Z1449 : n0 ≤ T1433.heap.size := Nat.le_trans Z1428 Kq1436.1
  have K1450 : Keep h0 T1433.heap [] := K1429.trans Kq1436 (allS (Or.inr gh1094) (allS (Or.inr gh1130) (allS (Or.inr gh1133) (allS (Or.inr gh1136) all0))))
  have A1451 := (⟨X1433, hx, hby⟩ : Ax _ _ _ _ _ _ _ _ _ _ _ _ _ _ _)
  refine g_aload A1451 at_331 rfl rfl (pc' := 333) rfl ?_
  refine g_iload A1451 at_333 rfl (pc' := 335) rfl ?_
  refine g_bipush A1451 at_335 (v := (15 : Int32)) rfl (pc' := 337) rfl ?_
  refine g_iadd A1451 at_337 (pc' := 338) rfl ?_
  refine g_iload A1451 at_338 rfl (pc' := 340) rfl ?_
  refine g_bipush A1451 at_340 (v := (15 : Int32)) rfl (pc' := 342) rfl ?_
  refine g_iadd A1451 at_342 (pc' := 343) rfl ?_
  refine g_dload A1451 at_343 rfl (pc' := 345) rfl ?_
  refine g_ldcD A1451 hZ hown (hw _ (List.mem_of_getElem? (i := 38) rfl)) at_345 (pc' := 348) rfl ?_
  refine g_dadd A1451 at_348 (own_ndadd (i2d_fin p2) (by unfold Fin64; decide : Fin64 (4624633867356078080 : UInt64))) (pc' := 349) rfl ?_
  have hp1452 : 15 < 16 := (by decide)
  have hp1453 : (FP.dadd (FP.i2d p2) (4624633867356078080 : UInt64)) = (own_d p2 p3) 15 := (show _ = FP.dadd (FP.i2d p2) (FP.i2d (Int32.ofNat 15)) from congrArg _ (by decide +kernel))
  obtain ⟨cq1455, kq1455, q1455a, q1455b, q1455c⟩ := isOf hZ rfl E1445
  obtain ⟨vv1454, _, ⟨T1454, L1454, k1454, n1454⟩, -, X1454, ⟨L1454c, hQ1454, l1454, y1454, z1454⟩, st1454⟩ := X1433.virtualBack hx (y := (⟨"com/example/retinue/retinue/Matching$Pairs", "add", "(IID)V"⟩ : MethodName)) (z := (⟨"com/example/retinue/retinue/Matching$Pairs", "add", "(IID)V"⟩ : MethodName)) hown (mvT hZ (hw _ (List.mem_of_getElem? (i := 18) rfl))) (mvT hZ (hw _ (List.mem_of_getElem? (i := 19) rfl))) (notFace_of_selects (args := #[]) (mvT hZ (hw _ (List.mem_of_getElem? (i := 21) rfl)))) (mvT hZ (hw _ (List.mem_of_getElem? (i := 21) rfl))) (mvT hZ (hw _ (List.mem_of_getElem? (i := 20) rfl))) (by decide) (backOf (W := 0) (rm3 l Z a0 hw [] a1092 (pp1086 + (15 : Int32)) (rr1087 + (15 : Int32)) (FP.dadd (FP.i2d p2) (4624633867356078080 : UInt64)) wa1103 ta1104 da1105 (own_w pp1086) (own_w rr1087) (own_d p2 p3) 15 T1433.heap n0 Z1449 E1445 F1437 F1438 F1439 F1440 V1441 V1442 V1443 g1093 g1129 g1132 g1135 ne1131 ne1134 ne1137 ne1121 ne1122 ne1123 hp1452 rfl rfl hp1453) hZ (hw _ (List.mem_of_getElem? (i := 22) rfl)) (hw _ (List.mem_of_getElem? (i := 3) rfl)) (by decide) (by decide)) q1455a q1455c (g := (mkF m 349 #[.val (.int p0), .val (.int p1), .val (.int p2), .val (.int p3), .val (.int pp1086), .val (.int rr1087), .val (.double (FP.i2d p2)), .second, .val (.int v1088), .val (.ref a1092), .unset, .unset, .unset, .unset, .unset, .unset] [(.double (FP.dadd (FP.i2d p2) (4624633867356078080 : UInt64))), (.int (rr1087 + (15 : Int32))), (.int (pp1086 + (15 : Int32))), (.ref a1092)])) rfl (by rw [hml]; rfl) (Steps.refl _) (argsL := [(.int (pp1086 + (15 : Int32))), (.int (rr1087 + (15 : Int32))), (.double (FP.dadd (FP.i2d p2) (4624633867356078080 : UInt64)))]) (rest := []) (lenOf pd_6 rfl) rfl (by show 2 * 0 + _ ≤ _; exact Nat.le_of_eq rfl) (hb hby at_349) (fun _ _ => ⟨rfl, rfl, (by decide : 4 + 0 ≤ _), (by decide : 52 + 0 ≤ _)⟩)
  have hQ1454b : Q3 Z a1092 (pp1086 + (15 : Int32)) (rr1087 + (15 : Int32)) (FP.dadd (FP.i2d p2) (4624633867356078080 : UInt64)) wa1103 ta1104 da1105 (own_w pp1086) (own_w rr1087) (own_d p2 p3) 15 T1433.heap n0 vv1454 T1454.heap L1454c := hQ1454
  clear hQ1454
  dsimp only [Pt.U, Pt.locs, Pt.cells, Pt.slots] at X1454 l1454 y1454 z1454 st1454
  subst y1454 z1454
  obtain ⟨rfl, Nq1456, Kq1457, F1458, F1459, F1460, F1461, V1462, V1463, V1464⟩ := hQ1454b
  have N1465 : Fr n0 L1454 := by rw [l1454]; exact Fr.app N1444 Nq1456
  refine Go.tr (g' := (mkF m 352 #[.val (.int p0), .val (.int p1), .val (.int p2), .val (.int p3), .val (.int pp1086), .val (.int rr1087), .val (.double (FP.i2d p2)), .second, .val (.int v1088), .val (.ref a1092), .unset, .unset, .unset, .unset, .unset, .unset] [])) st1454 ?_
  have E1466 : Exa Z T1454.heap a1092 "com/example/retinue/retinue/Matching$Pairs" := Exa.keep E1445 Kq1457
  have E1467 : Exa Z T1454.heap wa1103 "[I" := Exa.keep E1446 Kq1457
  have E1468 : Exa Z T1454.heap ta1104 "[I" := Exa.keep E1447 Kq1457
  have E1469 : Exa Z T1454.heap da1105 "[D" := Exa.keep E1448 Kq1457
  have Z1470 : n0 ≤ T1454.heap.size := Nat.le_trans Z1449 Kq1457.1
  have K1471 : Keep h0 T1454.heap [] := K1450.trans Kq1457 (allS (Or.inr gh1094) (allS (Or.inr gh1130) (allS (Or.inr gh1133) (allS (Or.inr gh1136) all0))))
  have A1472 := (⟨X1454, hx, hby⟩ : Ax _ _ _ _ _ _ _ _ _ _ _ _ _ _ _)
  refine g_iload A1472 at_352 rfl (pc' := 354) rfl ?_
  by_cases hc1473 : (p3 &&& (1 : Int32)) = 0
  · skip
    refine g_ifY A1472 at_354 (b0_eq_t hv1088 (fun q => q hc1473)) (pc' := 374) rfl ?_
    refine g_iload A1472 at_374 rfl (pc' := 376) rfl ?_
    refine g_ifY A1472 at_376 (b0_eq_t hv1088 (fun q => q hc1473)) (pc' := 384) rfl ?_
    refine g_bipush A1472 at_384 (v := (16 : Int32)) rfl (pc' := 386) rfl ?_
    refine g_istore A1472 at_386 (ls' := #[.val (.int p0), .val (.int p1), .val (.int p2), .val (.int p3), .val (.int pp1086), .val (.int rr1087), .val (.double (FP.i2d p2)), .second, .val (.int v1088), .val (.ref a1092), .val (.int (16 : Int32)), .unset, .unset, .unset, .unset, .unset]) rfl (pc' := 388) rfl ?_
    refine g_aload A1472 at_388 rfl rfl (pc' := 390) rfl ?_
    refine g_ldcI A1472 hZ hown (hw _ (List.mem_of_getElem? (i := 54) rfl)) at_390 (pc' := 392) rfl ?_
    refine g_ldcI A1472 hZ hown (hw _ (List.mem_of_getElem? (i := 54) rfl)) at_392 (pc' := 394) rfl ?_
    have hp1474 : ∀ t, t < 16 → ¬ (own_pi (own_w pp1086) 16) t < 0 ∧ (own_pi (own_w pp1086) 16) t < (2147483647 : Int32) := (own_rg30 p0 hpp1086 16 (by decide))
    have hp1475 : ∀ t, t < 16 → ¬ (own_pi (own_w rr1087) 16) t < 0 ∧ (own_pi (own_w rr1087) 16) t < (2147483647 : Int32) := (own_rg30 p1 hrr1087 16 (by decide))
    have hp1476 : ∀ t, t < 16 → Fin64 ((own_pd (own_d p2 p3) 16) t) := (own_df p2 p3 16 (by decide))
    obtain ⟨cq1478, kq1478, q1478a, q1478b, q1478c⟩ := isOf hZ rfl E1466
    obtain ⟨vv1477, _, ⟨T1477, L1477, k1477, n1477⟩, -, X1477, ⟨L1477c, hQ1477, l1477, y1477, z1477⟩, st1477⟩ := X1454.virtualBack hx (y := (⟨"com/example/retinue/retinue/Matching$Pairs", "batch", "(II)Lcom/example/retinue/retinue/Matching$Batch;"⟩ : MethodName)) (z := (⟨"com/example/retinue/retinue/Matching$Pairs", "batch", "(II)Lcom/example/retinue/retinue/Matching$Batch;"⟩ : MethodName)) hown (mvT hZ (hw _ (List.mem_of_getElem? (i := 55) rfl))) (mvT hZ (hw _ (List.mem_of_getElem? (i := 56) rfl))) (notFace_of_selects (args := #[]) (mvT hZ (hw _ (List.mem_of_getElem? (i := 58) rfl)))) (mvT hZ (hw _ (List.mem_of_getElem? (i := 58) rfl))) (mvT hZ (hw _ (List.mem_of_getElem? (i := 57) rfl))) (by decide) (backOf (W := 0) (rmT16 l Z a0 hw [] a1092 wa1103 ta1104 da1105 (own_w pp1086) (own_w rr1087) (own_d p2 p3) T1454.heap n0 Z1470 E1466 F1458 F1459 F1460 F1461 V1462 V1463 V1464 E1467 E1468 E1469 hp1474 hp1475 hp1476) hZ (hw _ (List.mem_of_getElem? (i := 59) rfl)) (hw _ (List.mem_of_getElem? (i := 3) rfl)) (by decide) (by decide)) q1478a q1478c (g := (mkF m 394 #[.val (.int p0), .val (.int p1), .val (.int p2), .val (.int p3), .val (.int pp1086), .val (.int rr1087), .val (.double (FP.i2d p2)), .second, .val (.int v1088), .val (.ref a1092), .val (.int (16 : Int32)), .unset, .unset, .unset, .unset, .unset] [(.int (2147483647 : Int32)), (.int (2147483647 : Int32)), (.ref a1092)])) rfl (by rw [hml]; rfl) (Steps.refl _) (argsL := [(.int (2147483647 : Int32)), (.int (2147483647 : Int32))]) (rest := []) (lenOf pd_7 rfl) rfl (by show 2 * 0 + _ ≤ _; exact Nat.le_of_eq rfl) (hb hby at_394) (fun _ _ => ⟨rfl, rfl, (by decide : 4 + 4 ≤ _), (by decide : 52 + 53 ≤ _)⟩)
    have hQ1477b : QT16 Z a1092 wa1103 ta1104 da1105 (own_w pp1086) (own_w rr1087) (own_d p2 p3) T1454.heap n0 vv1477 T1477.heap L1477c := hQ1477
    clear hQ1477
    dsimp only [Pt.U, Pt.locs, Pt.cells, Pt.slots] at X1477 l1477 y1477 z1477 st1477
    subst y1477 z1477
    obtain ⟨r1479, wb1480, tb1481, db1482, rfl, Nq1483, Kq1484, gx1485, E1486, F1487, F1488, F1489, V1490, V1491, V1492⟩ := hQ1477b
    have N1493 : Fr n0 L1477 := by rw [l1477]; exact Fr.app N1465 Nq1483
    refine Go.tr (g' := (mkF m 397 #[.val (.int p0), .val (.int p1), .val (.int p2), .val (.int p3), .val (.int pp1086), .val (.int rr1087), .val (.double (FP.i2d p2)), .second, .val (.int v1088), .val (.ref a1092), .val (.int (16 : Int32)), .unset, .unset, .unset, .unset, .unset] [(.ref r1479)])) st1477 ?_
    have E1494 : Exa Z T1477.heap a1092 "com/example/retinue/retinue/Matching$Pairs" := Exa.keep E1466 Kq1484
    have E1495 : Exa Z T1477.heap wa1103 "[I" := Exa.keep E1467 Kq1484
    have E1496 : Exa Z T1477.heap ta1104 "[I" := Exa.keep E1468 Kq1484
    have E1497 : Exa Z T1477.heap da1105 "[D" := Exa.keep E1469 Kq1484
    have F1498 : Fld Z T1477.heap a1092 "com/example/retinue/retinue/Matching$Pairs" "worker" "[I" (.ref wa1103) := Fld.keep F1458 Kq1484 nin0
    have F1499 : Fld Z T1477.heap a1092 "com/example/retinue/retinue/Matching$Pairs" "task" "[I" (.ref ta1104) := Fld.keep F1459 Kq1484 nin0
    have F1500 : Fld Z T1477.heap a1092 "com/example/retinue/retinue/Matching$Pairs" "weight" "[D" (.ref da1105) := Fld.keep F1460 Kq1484 nin0
    have F1501 : Fld Z T1477.heap a1092 "com/example/retinue/retinue/Matching$Pairs" "count" "I" (.int (Int32.ofNat (15 + 1))) := Fld.keep F1461 Kq1484 nin0
    have V1502 : Dar Z T1477.heap wa1103 .int 16 (fun t => .int ((own_pi (own_w pp1086) (15 + 1)) t)) := Dar.keep V1462 Kq1484 nin0
    have V1503 : Dar Z T1477.heap ta1104 .int 16 (fun t => .int ((own_pi (own_w rr1087) (15 + 1)) t)) := Dar.keep V1463 Kq1484 nin0
    have V1504 : Dar Z T1477.heap da1105 .double 16 (fun t => .double ((own_pd (own_d p2 p3) (15 + 1)) t)) := Dar.keep V1464 Kq1484 nin0
    have Z1505 : n0 ≤ T1477.heap.size := Nat.le_trans Z1470 Kq1484.1
    have K1506 : Keep h0 T1477.heap [] := K1471.trans Kq1484 all0
    have A1507 := (⟨X1477, hx, hby⟩ : Ax _ _ _ _ _ _ _ _ _ _ _ _ _ _ _)
    have g1508 : n0 ≤ r1479 := Nat.le_trans Z1470 gx1485
    have gh1509 : h0.size ≤ r1479 := Nat.le_trans K1471.1 gx1485
    have ne1510 : a1092 ≠ r1479 := Nat.ne_of_lt (Nat.lt_of_lt_of_le E1466.lt gx1485)
    have ne1511 : da1105 ≠ r1479 := Nat.ne_of_lt (Nat.lt_of_lt_of_le E1469.lt gx1485)
    have ne1512 : ta1104 ≠ r1479 := Nat.ne_of_lt (Nat.lt_of_lt_of_le E1468.lt gx1485)
    have ne1513 : wa1103 ≠ r1479 := Nat.ne_of_lt (Nat.lt_of_lt_of_le E1467.lt gx1485)
    refine g_astore A1507 at_397 rfl (ls' := #[.val (.int p0), .val (.int p1), .val (.int p2), .val (.int p3), .val (.int pp1086), .val (.int rr1087), .val (.double (FP.i2d p2)), .second, .val (.int v1088), .val (.ref a1092), .val (.int (16 : Int32)), .val (.ref r1479), .unset, .unset, .unset, .unset]) rfl (pc' := 399) rfl ?_
    refine g_aload A1507 at_399 rfl rfl (pc' := 401) rfl ?_
    obtain ⟨cq1515, kq1515, q1515a, q1515b, q1515c⟩ := isOf hZ rfl E1486
    obtain ⟨vv1514, _, ⟨T1514, L1514, k1514, n1514⟩, -, X1514, ⟨L1514c, hQ1514, l1514, y1514, z1514⟩, st1514⟩ := X1477.virtualBack hx (y := (⟨"com/example/retinue/retinue/Matching$Batch", "worker", "()[I"⟩ : MethodName)) (z := (⟨"com/example/retinue/retinue/Matching$Batch", "worker", "()[I"⟩ : MethodName)) hown (mvT hZ (hw _ (List.mem_of_getElem? (i := 90) rfl))) (mvT hZ (hw _ (List.mem_of_getElem? (i := 91) rfl))) (notFace_of_selects (args := #[]) (mvT hZ (hw _ (List.mem_of_getElem? (i := 93) rfl)))) (mvT hZ (hw _ (List.mem_of_getElem? (i := 93) rfl))) (mvT hZ (hw _ (List.mem_of_getElem? (i := 92) rfl))) (by decide) (backOf (W := 0) (rm12 l Z a0 hw [] r1479 wb1480 T1477.heap n0 Z1505 F1487) hZ (hw _ (List.mem_of_getElem? (i := 94) rfl)) (hw _ (List.mem_of_getElem? (i := 62) rfl)) (by decide) (by decide)) q1515a q1515c (g := (mkF m 401 #[.val (.int p0), .val (.int p1), .val (.int p2), .val (.int p3), .val (.int pp1086), .val (.int rr1087), .val (.double (FP.i2d p2)), .second, .val (.int v1088), .val (.ref a1092), .val (.int (16 : Int32)), .val (.ref r1479), .unset, .unset, .unset, .unset] [(.ref r1479)])) rfl (by rw [hml]; rfl) (Steps.refl _) (argsL := []) (rest := []) (lenOf pd_8 rfl) rfl (by show 2 * 0 + _ ≤ _; exact Nat.le_of_eq rfl) (hb hby at_401) (fun _ _ => ⟨rfl, rfl, (by decide : 8 + 0 ≤ _), (by decide : 105 + 0 ≤ _)⟩)
    have hQ1514b : Q12 Z r1479 wb1480 T1477.heap n0 vv1514 T1514.heap L1514c := hQ1514
    clear hQ1514
    dsimp only [Pt.U, Pt.locs, Pt.cells, Pt.slots] at X1514 l1514 y1514 z1514 st1514
    subst y1514 z1514
    obtain ⟨rfl, Nq1516, Kq1517⟩ := hQ1514b
    have N1518 : Fr n0 L1514 := by rw [l1514]; exact Fr.app N1493 Nq1516
    refine Go.tr (g' := (mkF m 404 #[.val (.int p0), .val (.int p1), .val (.int p2), .val (.int p3), .val (.int pp1086), .val (.int rr1087), .val (.double (FP.i2d p2)), .second, .val (.int v1088), .val (.ref a1092), .val (.int (16 : Int32)), .val (.ref r1479), .unset, .unset, .unset, .unset] [(.ref wb1480)])) st1514 ?_
    have e1519 : T1514.heap = T1477.heap := Kq1517
    have A1520 := (⟨X1514, hx, hby⟩ : Ax _ _ _ _ _ _ _ _ _ _ _ _ _ _ _)
    refine g_astore A1520 at_404 rfl (ls' := #[.val (.int p0), .val (.int p1), .val (.int p2), .val (.int p3), .val (.int pp1086), .val (.int rr1087), .val (.double (FP.i2d p2)), .second, .val (.int v1088), .val (.ref a1092), .val (.int (16 : Int32)), .val (.ref r1479), .val (.ref wb1480), .unset, .unset, .unset]) rfl (pc' := 406) rfl ?_
    refine g_aload A1520 at_406 rfl rfl (pc' := 408) rfl ?_
    obtain ⟨cq1522, kq1522, q1522a, q1522b, q1522c⟩ := isOf hZ e1519 E1486
    obtain ⟨vv1521, _, ⟨T1521, L1521, k1521, n1521⟩, -, X1521, ⟨L1521c, hQ1521, l1521, y1521, z1521⟩, st1521⟩ := X1514.virtualBack hx (y := (⟨"com/example/retinue/retinue/Matching$Batch", "task", "()[I"⟩ : MethodName)) (z := (⟨"com/example/retinue/retinue/Matching$Batch", "task", "()[I"⟩ : MethodName)) hown (mvT hZ (hw _ (List.mem_of_getElem? (i := 95) rfl))) (mvT hZ (hw _ (List.mem_of_getElem? (i := 96) rfl))) (notFace_of_selects (args := #[]) (mvT hZ (hw _ (List.mem_of_getElem? (i := 98) rfl)))) (mvT hZ (hw _ (List.mem_of_getElem? (i := 98) rfl))) (mvT hZ (hw _ (List.mem_of_getElem? (i := 97) rfl))) (by decide) (backOf (W := 0) (rm13 l Z a0 hw [] r1479 tb1481 T1477.heap n0 Z1505 F1488) hZ (hw _ (List.mem_of_getElem? (i := 99) rfl)) (hw _ (List.mem_of_getElem? (i := 62) rfl)) (by decide) (by decide)) q1522a q1522c (g := (mkF m 408 #[.val (.int p0), .val (.int p1), .val (.int p2), .val (.int p3), .val (.int pp1086), .val (.int rr1087), .val (.double (FP.i2d p2)), .second, .val (.int v1088), .val (.ref a1092), .val (.int (16 : Int32)), .val (.ref r1479), .val (.ref wb1480), .unset, .unset, .unset] [(.ref r1479)])) rfl (by rw [hml]; rfl) (Steps.refl _) (argsL := []) (rest := []) (lenOf pd_8 rfl) rfl (by show 2 * 0 + _ ≤ _; exact Nat.le_of_eq rfl) (hb hby at_408) (fun _ _ => ⟨rfl, e1519, (by decide : 8 + 0 ≤ _), (by decide : 105 + 0 ≤ _)⟩)
    have hQ1521b : Q13 Z r1479 tb1481 T1477.heap n0 vv1521 T1521.heap L1521c := hQ1521
    clear hQ1521
    dsimp only [Pt.U, Pt.locs, Pt.cells, Pt.slots] at X1521 l1521 y1521 z1521 st1521
    subst y1521 z1521
    obtain ⟨rfl, Nq1523, Kq1524⟩ := hQ1521b
    have N1525 : Fr n0 L1521 := by rw [l1521]; exact Fr.app N1518 Nq1523
    refine Go.tr (g' := (mkF m 411 #[.val (.int p0), .val (.int p1), .val (.int p2), .val (.int p3), .val (.int pp1086), .val (.int rr1087), .val (.double (FP.i2d p2)), .second, .val (.int v1088), .val (.ref a1092), .val (.int (16 : Int32)), .val (.ref r1479), .val (.ref wb1480), .unset, .unset, .unset] [(.ref tb1481)])) st1521 ?_
    have e1526 : T1521.heap = T1477.heap := Kq1524
    have A1527 := (⟨X1521, hx, hby⟩ : Ax _ _ _ _ _ _ _ _ _ _ _ _ _ _ _)
    refine g_astore A1527 at_411 rfl (ls' := #[.val (.int p0), .val (.int p1), .val (.int p2), .val (.int p3), .val (.int pp1086), .val (.int rr1087), .val (.double (FP.i2d p2)), .second, .val (.int v1088), .val (.ref a1092), .val (.int (16 : Int32)), .val (.ref r1479), .val (.ref wb1480), .val (.ref tb1481), .unset, .unset]) rfl (pc' := 413) rfl ?_
    refine g_aload A1527 at_413 rfl rfl (pc' := 415) rfl ?_
    obtain ⟨cq1529, kq1529, q1529a, q1529b, q1529c⟩ := isOf hZ e1526 E1486
    obtain ⟨vv1528, _, ⟨T1528, L1528, k1528, n1528⟩, -, X1528, ⟨L1528c, hQ1528, l1528, y1528, z1528⟩, st1528⟩ := X1521.virtualBack hx (y := (⟨"com/example/retinue/retinue/Matching$Batch", "weight", "()[D"⟩ : MethodName)) (z := (⟨"com/example/retinue/retinue/Matching$Batch", "weight", "()[D"⟩ : MethodName)) hown (mvT hZ (hw _ (List.mem_of_getElem? (i := 100) rfl))) (mvT hZ (hw _ (List.mem_of_getElem? (i := 101) rfl))) (notFace_of_selects (args := #[]) (mvT hZ (hw _ (List.mem_of_getElem? (i := 103) rfl)))) (mvT hZ (hw _ (List.mem_of_getElem? (i := 103) rfl))) (mvT hZ (hw _ (List.mem_of_getElem? (i := 102) rfl))) (by decide) (backOf (W := 0) (rm14 l Z a0 hw [] r1479 db1482 T1477.heap n0 Z1505 F1489) hZ (hw _ (List.mem_of_getElem? (i := 104) rfl)) (hw _ (List.mem_of_getElem? (i := 62) rfl)) (by decide) (by decide)) q1529a q1529c (g := (mkF m 415 #[.val (.int p0), .val (.int p1), .val (.int p2), .val (.int p3), .val (.int pp1086), .val (.int rr1087), .val (.double (FP.i2d p2)), .second, .val (.int v1088), .val (.ref a1092), .val (.int (16 : Int32)), .val (.ref r1479), .val (.ref wb1480), .val (.ref tb1481), .unset, .unset] [(.ref r1479)])) rfl (by rw [hml]; rfl) (Steps.refl _) (argsL := []) (rest := []) (lenOf pd_9 rfl) rfl (by show 2 * 0 + _ ≤ _; exact Nat.le_of_eq rfl) (hb hby at_415) (fun _ _ => ⟨rfl, e1526, (by decide : 8 + 0 ≤ _), (by decide : 105 + 0 ≤ _)⟩)
    have hQ1528b : Q14 Z r1479 db1482 T1477.heap n0 vv1528 T1528.heap L1528c := hQ1528
    clear hQ1528
    dsimp only [Pt.U, Pt.locs, Pt.cells, Pt.slots] at X1528 l1528 y1528 z1528 st1528
    subst y1528 z1528
    obtain ⟨rfl, Nq1530, Kq1531⟩ := hQ1528b
    have N1532 : Fr n0 L1528 := by rw [l1528]; exact Fr.app N1525 Nq1530
    refine Go.tr (g' := (mkF m 418 #[.val (.int p0), .val (.int p1), .val (.int p2), .val (.int p3), .val (.int pp1086), .val (.int rr1087), .val (.double (FP.i2d p2)), .second, .val (.int v1088), .val (.ref a1092), .val (.int (16 : Int32)), .val (.ref r1479), .val (.ref wb1480), .val (.ref tb1481), .unset, .unset] [(.ref db1482)])) st1528 ?_
    have e1533 : T1528.heap = T1477.heap := Kq1531
    have A1534 := (⟨X1528, hx, hby⟩ : Ax _ _ _ _ _ _ _ _ _ _ _ _ _ _ _)
    refine g_astore A1534 at_418 rfl (ls' := #[.val (.int p0), .val (.int p1), .val (.int p2), .val (.int p3), .val (.int pp1086), .val (.int rr1087), .val (.double (FP.i2d p2)), .second, .val (.int v1088), .val (.ref a1092), .val (.int (16 : Int32)), .val (.ref r1479), .val (.ref wb1480), .val (.ref tb1481), .val (.ref db1482), .unset]) rfl (pc' := 420) rfl ?_
    refine g_aload A1534 at_420 rfl rfl (pc' := 422) rfl ?_
    refine g_alen A1534 hZ e1533 V1490 at_422 (z := (16 : Int32)) rfl (pc' := 423) rfl ?_
    refine g_iload A1534 at_423 rfl (pc' := 425) rfl ?_
    refine g_icN A1534 at_425 (c2_ne_f rfl) (pc' := 428) rfl ?_
    refine g_aload A1534 at_428 rfl rfl (pc' := 430) rfl ?_
    refine g_alen A1534 hZ e1533 V1491 at_430 (z := (16 : Int32)) rfl (pc' := 431) rfl ?_
    refine g_iload A1534 at_431 rfl (pc' := 433) rfl ?_
    refine g_icN A1534 at_433 (c2_ne_f rfl) (pc' := 436) rfl ?_
    refine g_aload A1534 at_436 rfl rfl (pc' := 438) rfl ?_
    refine g_alen A1534 hZ e1533 V1492 at_438 (z := (16 : Int32)) rfl (pc' := 439) rfl ?_
    refine g_iload A1534 at_439 rfl (pc' := 441) rfl ?_
    refine g_icY A1534 at_441 (c2_eq_t rfl) (pc' := 446) rfl ?_
    refine g_aload A1534 at_446 rfl rfl (pc' := 448) rfl ?_
    refine g_aload A1534 at_448 rfl rfl (pc' := 450) rfl ?_
    refine g_aload A1534 at_450 rfl rfl (pc' := 452) rfl ?_
    refine g_iconst A1534 at_452 (v := (0 : Int32)) rfl (pc' := 453) rfl ?_
    refine g_iload A1534 at_453 rfl (pc' := 455) rfl ?_
    refine g_iload A1534 at_455 rfl (pc' := 457) rfl ?_
    refine g_dload A1534 at_457 rfl (pc' := 459) rfl ?_
    have hp1535 : 0 < 16 := (by decide)
    have hp1536 : ((own_pi (own_w pp1086) 16) 0) = (pp1086 + (Int32.ofNat 0)) := (own_we (by decide))
    have hp1537 : ((own_pi (own_w rr1087) 16) 0) = (rr1087 + (Int32.ofNat 0)) := (own_we (by decide))
    have hp1538 : FP.dcmp ((own_pd (own_d p2 p3) 16) 0) (FP.dadd (FP.i2d p2) (FP.i2d (Int32.ofNat 0))) = some .eq := (own_de (by decide) (by decide))
    have hp1539 : Fin64 (FP.i2d p2) := (i2d_fin p2)
    obtain ⟨vv1540, _, ⟨T1540, L1540, k1540, n1540⟩, -, X1540, ⟨L1540c, hQ1540, l1540, y1540, z1540⟩, st1540⟩ := Jvm.LawKit.callS X1528 hx (y := (⟨"com/example/retinue/retinue/PairsAddPinLaw", "at", "([I[I[DIIID)Z"⟩ : MethodName)) hown (mvT hZ (hw _ (List.mem_of_getElem? (i := 105) rfl))) (mvT hZ (hw _ (List.mem_of_getElem? (i := 106) rfl))) (mvT hZ (hw _ (List.mem_of_getElem? (i := 107) rfl))) (mvT hZ (hw _ (List.mem_of_getElem? (i := 108) rfl))) (by decide) (backOf (W := 0) (rm15 l Z a0 hw [] wb1480 tb1481 db1482 0 pp1086 rr1087 (FP.i2d p2) 16 (fun t => .int ((own_pi (own_w pp1086) 16) t)) (fun t => .int ((own_pi (own_w rr1087) 16) t)) (fun t => .double ((own_pd (own_d p2 p3) 16) t)) ((own_pi (own_w pp1086) 16) 0) ((own_pi (own_w rr1087) 16) 0) ((own_pd (own_d p2 p3) 16) 0) T1477.heap n0 Z1505 V1490 V1491 V1492 hp1535 rfl rfl rfl hp1536 hp1537 hp1538 hp1539) hZ (hw _ (List.mem_of_getElem? (i := 108) rfl)) (hw _ (List.mem_of_getElem? (i := 107) rfl)) (by decide) (by decide)) (g := (mkF m 459 #[.val (.int p0), .val (.int p1), .val (.int p2), .val (.int p3), .val (.int pp1086), .val (.int rr1087), .val (.double (FP.i2d p2)), .second, .val (.int v1088), .val (.ref a1092), .val (.int (16 : Int32)), .val (.ref r1479), .val (.ref wb1480), .val (.ref tb1481), .val (.ref db1482), .unset] [(.double (FP.i2d p2)), (.int rr1087), (.int pp1086), (.int (0 : Int32)), (.ref db1482), (.ref tb1481), (.ref wb1480)])) rfl (by rw [hml]; rfl) (argsL := [(.ref wb1480), (.ref tb1481), (.ref db1482), (.int (0 : Int32)), (.int pp1086), (.int rr1087), (.double (FP.i2d p2))]) (rest := []) (lenOf pd_10 rfl) rfl (by show 2 * 0 + _ ≤ _; exact Nat.le_of_eq rfl) (hb hby at_459) (fun _ _ => ⟨rfl, e1533, (by decide : 8 + 0 ≤ _), (by decide : 105 + 0 ≤ _)⟩)
    have hQ1540b : Q15 Z wb1480 tb1481 db1482 0 pp1086 rr1087 (FP.i2d p2) 16 (fun t => .int ((own_pi (own_w pp1086) 16) t)) (fun t => .int ((own_pi (own_w rr1087) 16) t)) (fun t => .double ((own_pd (own_d p2 p3) 16) t)) ((own_pi (own_w pp1086) 16) 0) ((own_pi (own_w rr1087) 16) 0) ((own_pd (own_d p2 p3) 16) 0) T1477.heap n0 vv1540 T1540.heap L1540c := hQ1540
    clear hQ1540
    dsimp only [Pt.U, Pt.locs, Pt.cells, Pt.slots] at X1540 l1540 y1540 z1540 st1540
    subst y1540 z1540
    obtain ⟨rfl, Nq1541, Kq1542⟩ := hQ1540b
    have N1543 : Fr n0 L1540 := by rw [l1540]; exact Fr.app N1532 Nq1541
    refine Go.of (g' := (mkF m 462 #[.val (.int p0), .val (.int p1), .val (.int p2), .val (.int p3), .val (.int pp1086), .val (.int rr1087), .val (.double (FP.i2d p2)), .second, .val (.int v1088), .val (.ref a1092), .val (.int (16 : Int32)), .val (.ref r1479), .val (.ref wb1480), .val (.ref tb1481), .val (.ref db1482), .unset] [(.int (1 : Int32))])) st1540 ?_
    have e1544 : T1540.heap = T1477.heap := Kq1542
    have A1545 := (⟨X1540, hx, hby⟩ : Ax _ _ _ _ _ _ _ _ _ _ _ _ _ _ _)
    refine g_ifN A1545 at_462 (c0_eq_f (by decide)) (pc' := 465) rfl ?_
    refine g_aload A1545 at_465 rfl rfl (pc' := 467) rfl ?_
    refine g_aload A1545 at_467 rfl rfl (pc' := 469) rfl ?_
    refine g_aload A1545 at_469 rfl rfl (pc' := 471) rfl ?_
    refine g_iconst A1545 at_471 (v := (1 : Int32)) rfl (pc' := 472) rfl ?_
    refine g_iload A1545 at_472 rfl (pc' := 474) rfl ?_
    refine g_iload A1545 at_474 rfl (pc' := 476) rfl ?_
    refine g_dload A1545 at_476 rfl (pc' := 478) rfl ?_
    have hp1546 : 1 < 16 := (by decide)
    have hp1547 : ((own_pi (own_w pp1086) 16) 1) = (pp1086 + (Int32.ofNat 1)) := (own_we (by decide))
    have hp1548 : ((own_pi (own_w rr1087) 16) 1) = (rr1087 + (Int32.ofNat 1)) := (own_we (by decide))
    have hp1549 : FP.dcmp ((own_pd (own_d p2 p3) 16) 1) (FP.dadd (FP.i2d p2) (FP.i2d (Int32.ofNat 1))) = some .eq := (own_de (by decide) (by decide))
    have hp1550 : Fin64 (FP.i2d p2) := (i2d_fin p2)
    obtain ⟨vv1551, _, ⟨T1551, L1551, k1551, n1551⟩, -, X1551, ⟨L1551c, hQ1551, l1551, y1551, z1551⟩, st1551⟩ := Jvm.LawKit.callS X1540 hx (y := (⟨"com/example/retinue/retinue/PairsAddPinLaw", "at", "([I[I[DIIID)Z"⟩ : MethodName)) hown (mvT hZ (hw _ (List.mem_of_getElem? (i := 105) rfl))) (mvT hZ (hw _ (List.mem_of_getElem? (i := 106) rfl))) (mvT hZ (hw _ (List.mem_of_getElem? (i := 107) rfl))) (mvT hZ (hw _ (List.mem_of_getElem? (i := 108) rfl))) (by decide) (backOf (W := 0) (rm15 l Z a0 hw [] wb1480 tb1481 db1482 1 pp1086 rr1087 (FP.i2d p2) 16 (fun t => .int ((own_pi (own_w pp1086) 16) t)) (fun t => .int ((own_pi (own_w rr1087) 16) t)) (fun t => .double ((own_pd (own_d p2 p3) 16) t)) ((own_pi (own_w pp1086) 16) 1) ((own_pi (own_w rr1087) 16) 1) ((own_pd (own_d p2 p3) 16) 1) T1477.heap n0 Z1505 V1490 V1491 V1492 hp1546 rfl rfl rfl hp1547 hp1548 hp1549 hp1550) hZ (hw _ (List.mem_of_getElem? (i := 108) rfl)) (hw _ (List.mem_of_getElem? (i := 107) rfl)) (by decide) (by decide)) (g := (mkF m 478 #[.val (.int p0), .val (.int p1), .val (.int p2), .val (.int p3), .val (.int pp1086), .val (.int rr1087), .val (.double (FP.i2d p2)), .second, .val (.int v1088), .val (.ref a1092), .val (.int (16 : Int32)), .val (.ref r1479), .val (.ref wb1480), .val (.ref tb1481), .val (.ref db1482), .unset] [(.double (FP.i2d p2)), (.int rr1087), (.int pp1086), (.int (1 : Int32)), (.ref db1482), (.ref tb1481), (.ref wb1480)])) rfl (by rw [hml]; rfl) (argsL := [(.ref wb1480), (.ref tb1481), (.ref db1482), (.int (1 : Int32)), (.int pp1086), (.int rr1087), (.double (FP.i2d p2))]) (rest := []) (lenOf pd_10 rfl) rfl (by show 2 * 0 + _ ≤ _; exact Nat.le_of_eq rfl) (hb hby at_478) (fun _ _ => ⟨rfl, e1544, (by decide : 8 + 0 ≤ _), (by decide : 105 + 0 ≤ _)⟩)
    have hQ1551b : Q15 Z wb1480 tb1481 db1482 1 pp1086 rr1087 (FP.i2d p2) 16 (fun t => .int ((own_pi (own_w pp1086) 16) t)) (fun t => .int ((own_pi (own_w rr1087) 16) t)) (fun t => .double ((own_pd (own_d p2 p3) 16) t)) ((own_pi (own_w pp1086) 16) 1) ((own_pi (own_w rr1087) 16) 1) ((own_pd (own_d p2 p3) 16) 1) T1477.heap n0 vv1551 T1551.heap L1551c := hQ1551
    clear hQ1551
    dsimp only [Pt.U, Pt.locs, Pt.cells, Pt.slots] at X1551 l1551 y1551 z1551 st1551
    subst y1551 z1551
    obtain ⟨rfl, Nq1552, Kq1553⟩ := hQ1551b
    have N1554 : Fr n0 L1551 := by rw [l1551]; exact Fr.app N1543 Nq1552
    refine Go.of (g' := (mkF m 481 #[.val (.int p0), .val (.int p1), .val (.int p2), .val (.int p3), .val (.int pp1086), .val (.int rr1087), .val (.double (FP.i2d p2)), .second, .val (.int v1088), .val (.ref a1092), .val (.int (16 : Int32)), .val (.ref r1479), .val (.ref wb1480), .val (.ref tb1481), .val (.ref db1482), .unset] [(.int (1 : Int32))])) st1551 ?_
    have e1555 : T1551.heap = T1477.heap := Kq1553
    have A1556 := (⟨X1551, hx, hby⟩ : Ax _ _ _ _ _ _ _ _ _ _ _ _ _ _ _)
    refine g_ifN A1556 at_481 (c0_eq_f (by decide)) (pc' := 484) rfl ?_
    refine g_aload A1556 at_484 rfl rfl (pc' := 486) rfl ?_
    refine g_aload A1556 at_486 rfl rfl (pc' := 488) rfl ?_
    refine g_aload A1556 at_488 rfl rfl (pc' := 490) rfl ?_
    refine g_iconst A1556 at_490 (v := (2 : Int32)) rfl (pc' := 491) rfl ?_
    refine g_iload A1556 at_491 rfl (pc' := 493) rfl ?_
    refine g_iload A1556 at_493 rfl (pc' := 495) rfl ?_
    refine g_dload A1556 at_495 rfl (pc' := 497) rfl ?_
    have hp1557 : 2 < 16 := (by decide)
    have hp1558 : ((own_pi (own_w pp1086) 16) 2) = (pp1086 + (Int32.ofNat 2)) := (own_we (by decide))
    have hp1559 : ((own_pi (own_w rr1087) 16) 2) = (rr1087 + (Int32.ofNat 2)) := (own_we (by decide))
    have hp1560 : FP.dcmp ((own_pd (own_d p2 p3) 16) 2) (FP.dadd (FP.i2d p2) (FP.i2d (Int32.ofNat 2))) = some .eq := (own_de (by decide) (by decide))
    have hp1561 : Fin64 (FP.i2d p2) := (i2d_fin p2)
    obtain ⟨vv1562, _, ⟨T1562, L1562, k1562, n1562⟩, -, X1562, ⟨L1562c, hQ1562, l1562, y1562, z1562⟩, st1562⟩ := Jvm.LawKit.callS X1551 hx (y := (⟨"com/example/retinue/retinue/PairsAddPinLaw", "at", "([I[I[DIIID)Z"⟩ : MethodName)) hown (mvT hZ (hw _ (List.mem_of_getElem? (i := 105) rfl))) (mvT hZ (hw _ (List.mem_of_getElem? (i := 106) rfl))) (mvT hZ (hw _ (List.mem_of_getElem? (i := 107) rfl))) (mvT hZ (hw _ (List.mem_of_getElem? (i := 108) rfl))) (by decide) (backOf (W := 0) (rm15 l Z a0 hw [] wb1480 tb1481 db1482 2 pp1086 rr1087 (FP.i2d p2) 16 (fun t => .int ((own_pi (own_w pp1086) 16) t)) (fun t => .int ((own_pi (own_w rr1087) 16) t)) (fun t => .double ((own_pd (own_d p2 p3) 16) t)) ((own_pi (own_w pp1086) 16) 2) ((own_pi (own_w rr1087) 16) 2) ((own_pd (own_d p2 p3) 16) 2) T1477.heap n0 Z1505 V1490 V1491 V1492 hp1557 rfl rfl rfl hp1558 hp1559 hp1560 hp1561) hZ (hw _ (List.mem_of_getElem? (i := 108) rfl)) (hw _ (List.mem_of_getElem? (i := 107) rfl)) (by decide) (by decide)) (g := (mkF m 497 #[.val (.int p0), .val (.int p1), .val (.int p2), .val (.int p3), .val (.int pp1086), .val (.int rr1087), .val (.double (FP.i2d p2)), .second, .val (.int v1088), .val (.ref a1092), .val (.int (16 : Int32)), .val (.ref r1479), .val (.ref wb1480), .val (.ref tb1481), .val (.ref db1482), .unset] [(.double (FP.i2d p2)), (.int rr1087), (.int pp1086), (.int (2 : Int32)), (.ref db1482), (.ref tb1481), (.ref wb1480)])) rfl (by rw [hml]; rfl) (argsL := [(.ref wb1480), (.ref tb1481), (.ref db1482), (.int (2 : Int32)), (.int pp1086), (.int rr1087), (.double (FP.i2d p2))]) (rest := []) (lenOf pd_10 rfl) rfl (by show 2 * 0 + _ ≤ _; exact Nat.le_of_eq rfl) (hb hby at_497) (fun _ _ => ⟨rfl, e1555, (by decide : 8 + 0 ≤ _), (by decide : 105 + 0 ≤ _)⟩)
    have hQ1562b : Q15 Z wb1480 tb1481 db1482 2 pp1086 rr1087 (FP.i2d p2) 16 (fun t => .int ((own_pi (own_w pp1086) 16) t)) (fun t => .int ((own_pi (own_w rr1087) 16) t)) (fun t => .double ((own_pd (own_d p2 p3) 16) t)) ((own_pi (own_w pp1086) 16) 2) ((own_pi (own_w rr1087) 16) 2) ((own_pd (own_d p2 p3) 16) 2) T1477.heap n0 vv1562 T1562.heap L1562c := hQ1562
    clear hQ1562
    dsimp only [Pt.U, Pt.locs, Pt.cells, Pt.slots] at X1562 l1562 y1562 z1562 st1562
    subst y1562 z1562
    obtain ⟨rfl, Nq1563, Kq1564⟩ := hQ1562b
    have N1565 : Fr n0 L1562 := by rw [l1562]; exact Fr.app N1554 Nq1563
    refine Go.of (g' := (mkF m 500 #[.val (.int p0), .val (.int p1), .val (.int p2), .val (.int p3), .val (.int pp1086), .val (.int rr1087), .val (.double (FP.i2d p2)), .second, .val (.int v1088), .val (.ref a1092), .val (.int (16 : Int32)), .val (.ref r1479), .val (.ref wb1480), .val (.ref tb1481), .val (.ref db1482), .unset] [(.int (1 : Int32))])) st1562 ?_
    have e1566 : T1562.heap = T1477.heap := Kq1564
    have A1567 := (⟨X1562, hx, hby⟩ : Ax _ _ _ _ _ _ _ _ _ _ _ _ _ _ _)
    refine g_ifN A1567 at_500 (c0_eq_f (by decide)) (pc' := 503) rfl ?_
    refine g_aload A1567 at_503 rfl rfl (pc' := 505) rfl ?_
    refine g_aload A1567 at_505 rfl rfl (pc' := 507) rfl ?_
    refine g_aload A1567 at_507 rfl rfl (pc' := 509) rfl ?_
    refine g_iconst A1567 at_509 (v := (3 : Int32)) rfl (pc' := 510) rfl ?_
    refine g_iload A1567 at_510 rfl (pc' := 512) rfl ?_
    refine g_iload A1567 at_512 rfl (pc' := 514) rfl ?_
    refine g_dload A1567 at_514 rfl (pc' := 516) rfl ?_
    have hp1568 : 3 < 16 := (by decide)
    have hp1569 : ((own_pi (own_w pp1086) 16) 3) = (pp1086 + (Int32.ofNat 3)) := (own_we (by decide))
    have hp1570 : ((own_pi (own_w rr1087) 16) 3) = (rr1087 + (Int32.ofNat 3)) := (own_we (by decide))
    have hp1571 : FP.dcmp ((own_pd (own_d p2 p3) 16) 3) (FP.dadd (FP.i2d p2) (FP.i2d (Int32.ofNat 3))) = some .eq := (own_de (by decide) (by decide))
    have hp1572 : Fin64 (FP.i2d p2) := (i2d_fin p2)
    obtain ⟨vv1573, _, ⟨T1573, L1573, k1573, n1573⟩, -, X1573, ⟨L1573c, hQ1573, l1573, y1573, z1573⟩, st1573⟩ := Jvm.LawKit.callS X1562 hx (y := (⟨"com/example/retinue/retinue/PairsAddPinLaw", "at", "([I[I[DIIID)Z"⟩ : MethodName)) hown (mvT hZ (hw _ (List.mem_of_getElem? (i := 105) rfl))) (mvT hZ (hw _ (List.mem_of_getElem? (i := 106) rfl))) (mvT hZ (hw _ (List.mem_of_getElem? (i := 107) rfl))) (mvT hZ (hw _ (List.mem_of_getElem? (i := 108) rfl))) (by decide) (backOf (W := 0) (rm15 l Z a0 hw [] wb1480 tb1481 db1482 3 pp1086 rr1087 (FP.i2d p2) 16 (fun t => .int ((own_pi (own_w pp1086) 16) t)) (fun t => .int ((own_pi (own_w rr1087) 16) t)) (fun t => .double ((own_pd (own_d p2 p3) 16) t)) ((own_pi (own_w pp1086) 16) 3) ((own_pi (own_w rr1087) 16) 3) ((own_pd (own_d p2 p3) 16) 3) T1477.heap n0 Z1505 V1490 V1491 V1492 hp1568 rfl rfl rfl hp1569 hp1570 hp1571 hp1572) hZ (hw _ (List.mem_of_getElem? (i := 108) rfl)) (hw _ (List.mem_of_getElem? (i := 107) rfl)) (by decide) (by decide)) (g := (mkF m 516 #[.val (.int p0), .val (.int p1), .val (.int p2), .val (.int p3), .val (.int pp1086), .val (.int rr1087), .val (.double (FP.i2d p2)), .second, .val (.int v1088), .val (.ref a1092), .val (.int (16 : Int32)), .val (.ref r1479), .val (.ref wb1480), .val (.ref tb1481), .val (.ref db1482), .unset] [(.double (FP.i2d p2)), (.int rr1087), (.int pp1086), (.int (3 : Int32)), (.ref db1482), (.ref tb1481), (.ref wb1480)])) rfl (by rw [hml]; rfl) (argsL := [(.ref wb1480), (.ref tb1481), (.ref db1482), (.int (3 : Int32)), (.int pp1086), (.int rr1087), (.double (FP.i2d p2))]) (rest := []) (lenOf pd_10 rfl) rfl (by show 2 * 0 + _ ≤ _; exact Nat.le_of_eq rfl) (hb hby at_516) (fun _ _ => ⟨rfl, e1566, (by decide : 8 + 0 ≤ _), (by decide : 105 + 0 ≤ _)⟩)
    have hQ1573b : Q15 Z wb1480 tb1481 db1482 3 pp1086 rr1087 (FP.i2d p2) 16 (fun t => .int ((own_pi (own_w pp1086) 16) t)) (fun t => .int ((own_pi (own_w rr1087) 16) t)) (fun t => .double ((own_pd (own_d p2 p3) 16) t)) ((own_pi (own_w pp1086) 16) 3) ((own_pi (own_w rr1087) 16) 3) ((own_pd (own_d p2 p3) 16) 3) T1477.heap n0 vv1573 T1573.heap L1573c := hQ1573
    clear hQ1573
    dsimp only [Pt.U, Pt.locs, Pt.cells, Pt.slots] at X1573 l1573 y1573 z1573 st1573
    subst y1573 z1573
    obtain ⟨rfl, Nq1574, Kq1575⟩ := hQ1573b
    have N1576 : Fr n0 L1573 := by rw [l1573]; exact Fr.app N1565 Nq1574
    refine Go.of (g' := (mkF m 519 #[.val (.int p0), .val (.int p1), .val (.int p2), .val (.int p3), .val (.int pp1086), .val (.int rr1087), .val (.double (FP.i2d p2)), .second, .val (.int v1088), .val (.ref a1092), .val (.int (16 : Int32)), .val (.ref r1479), .val (.ref wb1480), .val (.ref tb1481), .val (.ref db1482), .unset] [(.int (1 : Int32))])) st1573 ?_
    have e1577 : T1573.heap = T1477.heap := Kq1575
    have A1578 := (⟨X1573, hx, hby⟩ : Ax _ _ _ _ _ _ _ _ _ _ _ _ _ _ _)
    refine g_ifN A1578 at_519 (c0_eq_f (by decide)) (pc' := 522) rfl ?_
    refine g_aload A1578 at_522 rfl rfl (pc' := 524) rfl ?_
    refine g_aload A1578 at_524 rfl rfl (pc' := 526) rfl ?_
    refine g_aload A1578 at_526 rfl rfl (pc' := 528) rfl ?_
    refine g_iconst A1578 at_528 (v := (4 : Int32)) rfl (pc' := 529) rfl ?_
    refine g_iload A1578 at_529 rfl (pc' := 531) rfl ?_
    refine g_iload A1578 at_531 rfl (pc' := 533) rfl ?_
    refine g_dload A1578 at_533 rfl (pc' := 535) rfl ?_
    have hp1579 : 4 < 16 := (by decide)
    have hp1580 : ((own_pi (own_w pp1086) 16) 4) = (pp1086 + (Int32.ofNat 4)) := (own_we (by decide))
    have hp1581 : ((own_pi (own_w rr1087) 16) 4) = (rr1087 + (Int32.ofNat 4)) := (own_we (by decide))
    have hp1582 : FP.dcmp ((own_pd (own_d p2 p3) 16) 4) (FP.dadd (FP.i2d p2) (FP.i2d (Int32.ofNat 4))) = some .eq := (own_de (by decide) (by decide))
    have hp1583 : Fin64 (FP.i2d p2) := (i2d_fin p2)
    obtain ⟨vv1584, _, ⟨T1584, L1584, k1584, n1584⟩, -, X1584, ⟨L1584c, hQ1584, l1584, y1584, z1584⟩, st1584⟩ := Jvm.LawKit.callS X1573 hx (y := (⟨"com/example/retinue/retinue/PairsAddPinLaw", "at", "([I[I[DIIID)Z"⟩ : MethodName)) hown (mvT hZ (hw _ (List.mem_of_getElem? (i := 105) rfl))) (mvT hZ (hw _ (List.mem_of_getElem? (i := 106) rfl))) (mvT hZ (hw _ (List.mem_of_getElem? (i := 107) rfl))) (mvT hZ (hw _ (List.mem_of_getElem? (i := 108) rfl))) (by decide) (backOf (W := 0) (rm15 l Z a0 hw [] wb1480 tb1481 db1482 4 pp1086 rr1087 (FP.i2d p2) 16 (fun t => .int ((own_pi (own_w pp1086) 16) t)) (fun t => .int ((own_pi (own_w rr1087) 16) t)) (fun t => .double ((own_pd (own_d p2 p3) 16) t)) ((own_pi (own_w pp1086) 16) 4) ((own_pi (own_w rr1087) 16) 4) ((own_pd (own_d p2 p3) 16) 4) T1477.heap n0 Z1505 V1490 V1491 V1492 hp1579 rfl rfl rfl hp1580 hp1581 hp1582 hp1583) hZ (hw _ (List.mem_of_getElem? (i := 108) rfl)) (hw _ (List.mem_of_getElem? (i := 107) rfl)) (by decide) (by decide)) (g := (mkF m 535 #[.val (.int p0), .val (.int p1), .val (.int p2), .val (.int p3), .val (.int pp1086), .val (.int rr1087), .val (.double (FP.i2d p2)), .second, .val (.int v1088), .val (.ref a1092), .val (.int (16 : Int32)), .val (.ref r1479), .val (.ref wb1480), .val (.ref tb1481), .val (.ref db1482), .unset] [(.double (FP.i2d p2)), (.int rr1087), (.int pp1086), (.int (4 : Int32)), (.ref db1482), (.ref tb1481), (.ref wb1480)])) rfl (by rw [hml]; rfl) (argsL := [(.ref wb1480), (.ref tb1481), (.ref db1482), (.int (4 : Int32)), (.int pp1086), (.int rr1087), (.double (FP.i2d p2))]) (rest := []) (lenOf pd_10 rfl) rfl (by show 2 * 0 + _ ≤ _; exact Nat.le_of_eq rfl) (hb hby at_535) (fun _ _ => ⟨rfl, e1577, (by decide : 8 + 0 ≤ _), (by decide : 105 + 0 ≤ _)⟩)
    have hQ1584b : Q15 Z wb1480 tb1481 db1482 4 pp1086 rr1087 (FP.i2d p2) 16 (fun t => .int ((own_pi (own_w pp1086) 16) t)) (fun t => .int ((own_pi (own_w rr1087) 16) t)) (fun t => .double ((own_pd (own_d p2 p3) 16) t)) ((own_pi (own_w pp1086) 16) 4) ((own_pi (own_w rr1087) 16) 4) ((own_pd (own_d p2 p3) 16) 4) T1477.heap n0 vv1584 T1584.heap L1584c := hQ1584
    clear hQ1584
    dsimp only [Pt.U, Pt.locs, Pt.cells, Pt.slots] at X1584 l1584 y1584 z1584 st1584
    subst y1584 z1584
    obtain ⟨rfl, Nq1585, Kq1586⟩ := hQ1584b
    have N1587 : Fr n0 L1584 := by rw [l1584]; exact Fr.app N1576 Nq1585
    refine Go.of (g' := (mkF m 538 #[.val (.int p0), .val (.int p1), .val (.int p2), .val (.int p3), .val (.int pp1086), .val (.int rr1087), .val (.double (FP.i2d p2)), .second, .val (.int v1088), .val (.ref a1092), .val (.int (16 : Int32)), .val (.ref r1479), .val (.ref wb1480), .val (.ref tb1481), .val (.ref db1482), .unset] [(.int (1 : Int32))])) st1584 ?_
    have e1588 : T1584.heap = T1477.heap := Kq1586
    have A1589 := (⟨X1584, hx, hby⟩ : Ax _ _ _ _ _ _ _ _ _ _ _ _ _ _ _)
    refine g_ifN A1589 at_538 (c0_eq_f (by decide)) (pc' := 541) rfl ?_
    refine g_aload A1589 at_541 rfl rfl (pc' := 543) rfl ?_
    refine g_aload A1589 at_543 rfl rfl (pc' := 545) rfl ?_
    refine g_aload A1589 at_545 rfl rfl (pc' := 547) rfl ?_
    refine g_iconst A1589 at_547 (v := (5 : Int32)) rfl (pc' := 548) rfl ?_
    refine g_iload A1589 at_548 rfl (pc' := 550) rfl ?_
    refine g_iload A1589 at_550 rfl (pc' := 552) rfl ?_
    refine g_dload A1589 at_552 rfl (pc' := 554) rfl ?_
    have hp1590 : 5 < 16 := (by decide)
    have hp1591 : ((own_pi (own_w pp1086) 16) 5) = (pp1086 + (Int32.ofNat 5)) := (own_we (by decide))
    have hp1592 : ((own_pi (own_w rr1087) 16) 5) = (rr1087 + (Int32.ofNat 5)) := (own_we (by decide))
    have hp1593 : FP.dcmp ((own_pd (own_d p2 p3) 16) 5) (FP.dadd (FP.i2d p2) (FP.i2d (Int32.ofNat 5))) = some .eq := (own_de (by decide) (by decide))
    have hp1594 : Fin64 (FP.i2d p2) := (i2d_fin p2)
    obtain ⟨vv1595, _, ⟨T1595, L1595, k1595, n1595⟩, -, X1595, ⟨L1595c, hQ1595, l1595, y1595, z1595⟩, st1595⟩ := Jvm.LawKit.callS X1584 hx (y := (⟨"com/example/retinue/retinue/PairsAddPinLaw", "at", "([I[I[DIIID)Z"⟩ : MethodName)) hown (mvT hZ (hw _ (List.mem_of_getElem? (i := 105) rfl))) (mvT hZ (hw _ (List.mem_of_getElem? (i := 106) rfl))) (mvT hZ (hw _ (List.mem_of_getElem? (i := 107) rfl))) (mvT hZ (hw _ (List.mem_of_getElem? (i := 108) rfl))) (by decide) (backOf (W := 0) (rm15 l Z a0 hw [] wb1480 tb1481 db1482 5 pp1086 rr1087 (FP.i2d p2) 16 (fun t => .int ((own_pi (own_w pp1086) 16) t)) (fun t => .int ((own_pi (own_w rr1087) 16) t)) (fun t => .double ((own_pd (own_d p2 p3) 16) t)) ((own_pi (own_w pp1086) 16) 5) ((own_pi (own_w rr1087) 16) 5) ((own_pd (own_d p2 p3) 16) 5) T1477.heap n0 Z1505 V1490 V1491 V1492 hp1590 rfl rfl rfl hp1591 hp1592 hp1593 hp1594) hZ (hw _ (List.mem_of_getElem? (i := 108) rfl)) (hw _ (List.mem_of_getElem? (i := 107) rfl)) (by decide) (by decide)) (g := (mkF m 554 #[.val (.int p0), .val (.int p1), .val (.int p2), .val (.int p3), .val (.int pp1086), .val (.int rr1087), .val (.double (FP.i2d p2)), .second, .val (.int v1088), .val (.ref a1092), .val (.int (16 : Int32)), .val (.ref r1479), .val (.ref wb1480), .val (.ref tb1481), .val (.ref db1482), .unset] [(.double (FP.i2d p2)), (.int rr1087), (.int pp1086), (.int (5 : Int32)), (.ref db1482), (.ref tb1481), (.ref wb1480)])) rfl (by rw [hml]; rfl) (argsL := [(.ref wb1480), (.ref tb1481), (.ref db1482), (.int (5 : Int32)), (.int pp1086), (.int rr1087), (.double (FP.i2d p2))]) (rest := []) (lenOf pd_10 rfl) rfl (by show 2 * 0 + _ ≤ _; exact Nat.le_of_eq rfl) (hb hby at_554) (fun _ _ => ⟨rfl, e1588, (by decide : 8 + 0 ≤ _), (by decide : 105 + 0 ≤ _)⟩)
    have hQ1595b : Q15 Z wb1480 tb1481 db1482 5 pp1086 rr1087 (FP.i2d p2) 16 (fun t => .int ((own_pi (own_w pp1086) 16) t)) (fun t => .int ((own_pi (own_w rr1087) 16) t)) (fun t => .double ((own_pd (own_d p2 p3) 16) t)) ((own_pi (own_w pp1086) 16) 5) ((own_pi (own_w rr1087) 16) 5) ((own_pd (own_d p2 p3) 16) 5) T1477.heap n0 vv1595 T1595.heap L1595c := hQ1595
    clear hQ1595
    dsimp only [Pt.U, Pt.locs, Pt.cells, Pt.slots] at X1595 l1595 y1595 z1595 st1595
    subst y1595 z1595
    obtain ⟨rfl, Nq1596, Kq1597⟩ := hQ1595b
    have N1598 : Fr n0 L1595 := by rw [l1595]; exact Fr.app N1587 Nq1596
    refine Go.of (g' := (mkF m 557 #[.val (.int p0), .val (.int p1), .val (.int p2), .val (.int p3), .val (.int pp1086), .val (.int rr1087), .val (.double (FP.i2d p2)), .second, .val (.int v1088), .val (.ref a1092), .val (.int (16 : Int32)), .val (.ref r1479), .val (.ref wb1480), .val (.ref tb1481), .val (.ref db1482), .unset] [(.int (1 : Int32))])) st1595 ?_
    have e1599 : T1595.heap = T1477.heap := Kq1597
    have A1600 := (⟨X1595, hx, hby⟩ : Ax _ _ _ _ _ _ _ _ _ _ _ _ _ _ _)
    refine g_ifN A1600 at_557 (c0_eq_f (by decide)) (pc' := 560) rfl ?_
    refine g_aload A1600 at_560 rfl rfl (pc' := 562) rfl ?_
    refine g_aload A1600 at_562 rfl rfl (pc' := 564) rfl ?_
    refine g_aload A1600 at_564 rfl rfl (pc' := 566) rfl ?_
    refine g_bipush A1600 at_566 (v := (6 : Int32)) rfl (pc' := 568) rfl ?_
    refine g_iload A1600 at_568 rfl (pc' := 570) rfl ?_
    refine g_iload A1600 at_570 rfl (pc' := 572) rfl ?_
    refine g_dload A1600 at_572 rfl (pc' := 574) rfl ?_
    have hp1601 : 6 < 16 := (by decide)
    have hp1602 : ((own_pi (own_w pp1086) 16) 6) = (pp1086 + (Int32.ofNat 6)) := (own_we (by decide))
    have hp1603 : ((own_pi (own_w rr1087) 16) 6) = (rr1087 + (Int32.ofNat 6)) := (own_we (by decide))
    have hp1604 : FP.dcmp ((own_pd (own_d p2 p3) 16) 6) (FP.dadd (FP.i2d p2) (FP.i2d (Int32.ofNat 6))) = some .eq := (own_de (by decide) (by decide))
    have hp1605 : Fin64 (FP.i2d p2) := (i2d_fin p2)
    obtain ⟨vv1606, _, ⟨T1606, L1606, k1606, n1606⟩, -, X1606, ⟨L1606c, hQ1606, l1606, y1606, z1606⟩, st1606⟩ := Jvm.LawKit.callS X1595 hx (y := (⟨"com/example/retinue/retinue/PairsAddPinLaw", "at", "([I[I[DIIID)Z"⟩ : MethodName)) hown (mvT hZ (hw _ (List.mem_of_getElem? (i := 105) rfl))) (mvT hZ (hw _ (List.mem_of_getElem? (i := 106) rfl))) (mvT hZ (hw _ (List.mem_of_getElem? (i := 107) rfl))) (mvT hZ (hw _ (List.mem_of_getElem? (i := 108) rfl))) (by decide) (backOf (W := 0) (rm15 l Z a0 hw [] wb1480 tb1481 db1482 6 pp1086 rr1087 (FP.i2d p2) 16 (fun t => .int ((own_pi (own_w pp1086) 16) t)) (fun t => .int ((own_pi (own_w rr1087) 16) t)) (fun t => .double ((own_pd (own_d p2 p3) 16) t)) ((own_pi (own_w pp1086) 16) 6) ((own_pi (own_w rr1087) 16) 6) ((own_pd (own_d p2 p3) 16) 6) T1477.heap n0 Z1505 V1490 V1491 V1492 hp1601 rfl rfl rfl hp1602 hp1603 hp1604 hp1605) hZ (hw _ (List.mem_of_getElem? (i := 108) rfl)) (hw _ (List.mem_of_getElem? (i := 107) rfl)) (by decide) (by decide)) (g := (mkF m 574 #[.val (.int p0), .val (.int p1), .val (.int p2), .val (.int p3), .val (.int pp1086), .val (.int rr1087), .val (.double (FP.i2d p2)), .second, .val (.int v1088), .val (.ref a1092), .val (.int (16 : Int32)), .val (.ref r1479), .val (.ref wb1480), .val (.ref tb1481), .val (.ref db1482), .unset] [(.double (FP.i2d p2)), (.int rr1087), (.int pp1086), (.int (6 : Int32)), (.ref db1482), (.ref tb1481), (.ref wb1480)])) rfl (by rw [hml]; rfl) (argsL := [(.ref wb1480), (.ref tb1481), (.ref db1482), (.int (6 : Int32)), (.int pp1086), (.int rr1087), (.double (FP.i2d p2))]) (rest := []) (lenOf pd_10 rfl) rfl (by show 2 * 0 + _ ≤ _; exact Nat.le_of_eq rfl) (hb hby at_574) (fun _ _ => ⟨rfl, e1599, (by decide : 8 + 0 ≤ _), (by decide : 105 + 0 ≤ _)⟩)
    have hQ1606b : Q15 Z wb1480 tb1481 db1482 6 pp1086 rr1087 (FP.i2d p2) 16 (fun t => .int ((own_pi (own_w pp1086) 16) t)) (fun t => .int ((own_pi (own_w rr1087) 16) t)) (fun t => .double ((own_pd (own_d p2 p3) 16) t)) ((own_pi (own_w pp1086) 16) 6) ((own_pi (own_w rr1087) 16) 6) ((own_pd (own_d p2 p3) 16) 6) T1477.heap n0 vv1606 T1606.heap L1606c := hQ1606
    clear hQ1606
    dsimp only [Pt.U, Pt.locs, Pt.cells, Pt.slots] at X1606 l1606 y1606 z1606 st1606
    subst y1606 z1606
    obtain ⟨rfl, Nq1607, Kq1608⟩ := hQ1606b
    have N1609 : Fr n0 L1606 := by rw [l1606]; exact Fr.app N1598 Nq1607
    refine Go.of (g' := (mkF m 577 #[.val (.int p0), .val (.int p1), .val (.int p2), .val (.int p3), .val (.int pp1086), .val (.int rr1087), .val (.double (FP.i2d p2)), .second, .val (.int v1088), .val (.ref a1092), .val (.int (16 : Int32)), .val (.ref r1479), .val (.ref wb1480), .val (.ref tb1481), .val (.ref db1482), .unset] [(.int (1 : Int32))])) st1606 ?_
    have e1610 : T1606.heap = T1477.heap := Kq1608
    have A1611 := (⟨X1606, hx, hby⟩ : Ax _ _ _ _ _ _ _ _ _ _ _ _ _ _ _)
    refine g_ifN A1611 at_577 (c0_eq_f (by decide)) (pc' := 580) rfl ?_
    refine g_aload A1611 at_580 rfl rfl (pc' := 582) rfl ?_
    refine g_aload A1611 at_582 rfl rfl (pc' := 584) rfl ?_
    refine g_aload A1611 at_584 rfl rfl (pc' := 586) rfl ?_
    refine g_bipush A1611 at_586 (v := (7 : Int32)) rfl (pc' := 588) rfl ?_
    refine g_iload A1611 at_588 rfl (pc' := 590) rfl ?_
    refine g_iload A1611 at_590 rfl (pc' := 592) rfl ?_
    refine g_dload A1611 at_592 rfl (pc' := 594) rfl ?_
    have hp1612 : 7 < 16 := (by decide)
    have hp1613 : ((own_pi (own_w pp1086) 16) 7) = (pp1086 + (Int32.ofNat 7)) := (own_we (by decide))
    have hp1614 : ((own_pi (own_w rr1087) 16) 7) = (rr1087 + (Int32.ofNat 7)) := (own_we (by decide))
    have hp1615 : FP.dcmp ((own_pd (own_d p2 p3) 16) 7) (FP.dadd (FP.i2d p2) (FP.i2d (Int32.ofNat 7))) = some .eq := (own_de (by decide) (by decide))
    have hp1616 : Fin64 (FP.i2d p2) := (i2d_fin p2)
    obtain ⟨vv1617, _, ⟨T1617, L1617, k1617, n1617⟩, -, X1617, ⟨L1617c, hQ1617, l1617, y1617, z1617⟩, st1617⟩ := Jvm.LawKit.callS X1606 hx (y := (⟨"com/example/retinue/retinue/PairsAddPinLaw", "at", "([I[I[DIIID)Z"⟩ : MethodName)) hown (mvT hZ (hw _ (List.mem_of_getElem? (i := 105) rfl))) (mvT hZ (hw _ (List.mem_of_getElem? (i := 106) rfl))) (mvT hZ (hw _ (List.mem_of_getElem? (i := 107) rfl))) (mvT hZ (hw _ (List.mem_of_getElem? (i := 108) rfl))) (by decide) (backOf (W := 0) (rm15 l Z a0 hw [] wb1480 tb1481 db1482 7 pp1086 rr1087 (FP.i2d p2) 16 (fun t => .int ((own_pi (own_w pp1086) 16) t)) (fun t => .int ((own_pi (own_w rr1087) 16) t)) (fun t => .double ((own_pd (own_d p2 p3) 16) t)) ((own_pi (own_w pp1086) 16) 7) ((own_pi (own_w rr1087) 16) 7) ((own_pd (own_d p2 p3) 16) 7) T1477.heap n0 Z1505 V1490 V1491 V1492 hp1612 rfl rfl rfl hp1613 hp1614 hp1615 hp1616) hZ (hw _ (List.mem_of_getElem? (i := 108) rfl)) (hw _ (List.mem_of_getElem? (i := 107) rfl)) (by decide) (by decide)) (g := (mkF m 594 #[.val (.int p0), .val (.int p1), .val (.int p2), .val (.int p3), .val (.int pp1086), .val (.int rr1087), .val (.double (FP.i2d p2)), .second, .val (.int v1088), .val (.ref a1092), .val (.int (16 : Int32)), .val (.ref r1479), .val (.ref wb1480), .val (.ref tb1481), .val (.ref db1482), .unset] [(.double (FP.i2d p2)), (.int rr1087), (.int pp1086), (.int (7 : Int32)), (.ref db1482), (.ref tb1481), (.ref wb1480)])) rfl (by rw [hml]; rfl) (argsL := [(.ref wb1480), (.ref tb1481), (.ref db1482), (.int (7 : Int32)), (.int pp1086), (.int rr1087), (.double (FP.i2d p2))]) (rest := []) (lenOf pd_10 rfl) rfl (by show 2 * 0 + _ ≤ _; exact Nat.le_of_eq rfl) (hb hby at_594) (fun _ _ => ⟨rfl, e1610, (by decide : 8 + 0 ≤ _), (by decide : 105 + 0 ≤ _)⟩)
    have hQ1617b : Q15 Z wb1480 tb1481 db1482 7 pp1086 rr1087 (FP.i2d p2) 16 (fun t => .int ((own_pi (own_w pp1086) 16) t)) (fun t => .int ((own_pi (own_w rr1087) 16) t)) (fun t => .double ((own_pd (own_d p2 p3) 16) t)) ((own_pi (own_w pp1086) 16) 7) ((own_pi (own_w rr1087) 16) 7) ((own_pd (own_d p2 p3) 16) 7) T1477.heap n0 vv1617 T1617.heap L1617c := hQ1617
    clear hQ1617
    dsimp only [Pt.U, Pt.locs, Pt.cells, Pt.slots] at X1617 l1617 y1617 z1617 st1617
    subst y1617 z1617
    obtain ⟨rfl, Nq1618, Kq1619⟩ := hQ1617b
    have N1620 : Fr n0 L1617 := by rw [l1617]; exact Fr.app N1609 Nq1618
    refine Go.of (g' := (mkF m 597 #[.val (.int p0), .val (.int p1), .val (.int p2), .val (.int p3), .val (.int pp1086), .val (.int rr1087), .val (.double (FP.i2d p2)), .second, .val (.int v1088), .val (.ref a1092), .val (.int (16 : Int32)), .val (.ref r1479), .val (.ref wb1480), .val (.ref tb1481), .val (.ref db1482), .unset] [(.int (1 : Int32))])) st1617 ?_
    have e1621 : T1617.heap = T1477.heap := Kq1619
    have A1622 := (⟨X1617, hx, hby⟩ : Ax _ _ _ _ _ _ _ _ _ _ _ _ _ _ _)
    refine g_ifN A1622 at_597 (c0_eq_f (by decide)) (pc' := 600) rfl ?_
    refine g_aload A1622 at_600 rfl rfl (pc' := 602) rfl ?_
    refine g_aload A1622 at_602 rfl rfl (pc' := 604) rfl ?_
    refine g_aload A1622 at_604 rfl rfl (pc' := 606) rfl ?_
    refine g_bipush A1622 at_606 (v := (8 : Int32)) rfl (pc' := 608) rfl ?_
    refine g_iload A1622 at_608 rfl (pc' := 610) rfl ?_
    refine g_iload A1622 at_610 rfl (pc' := 612) rfl ?_
    refine g_dload A1622 at_612 rfl (pc' := 614) rfl ?_
    have hp1623 : 8 < 16 := (by decide)
    have hp1624 : ((own_pi (own_w pp1086) 16) 8) = (pp1086 + (Int32.ofNat 8)) := (own_we (by decide))
    have hp1625 : ((own_pi (own_w rr1087) 16) 8) = (rr1087 + (Int32.ofNat 8)) := (own_we (by decide))
    have hp1626 : FP.dcmp ((own_pd (own_d p2 p3) 16) 8) (FP.dadd (FP.i2d p2) (FP.i2d (Int32.ofNat 8))) = some .eq := (own_de (by decide) (by decide))
    have hp1627 : Fin64 (FP.i2d p2) := (i2d_fin p2)
    obtain ⟨vv1628, _, ⟨T1628, L1628, k1628, n1628⟩, -, X1628, ⟨L1628c, hQ1628, l1628, y1628, z1628⟩, st1628⟩ := Jvm.LawKit.callS X1617 hx (y := (⟨"com/example/retinue/retinue/PairsAddPinLaw", "at", "([I[I[DIIID)Z"⟩ : MethodName)) hown (mvT hZ (hw _ (List.mem_of_getElem? (i := 105) rfl))) (mvT hZ (hw _ (List.mem_of_getElem? (i := 106) rfl))) (mvT hZ (hw _ (List.mem_of_getElem? (i := 107) rfl))) (mvT hZ (hw _ (List.mem_of_getElem? (i := 108) rfl))) (by decide) (backOf (W := 0) (rm15 l Z a0 hw [] wb1480 tb1481 db1482 8 pp1086 rr1087 (FP.i2d p2) 16 (fun t => .int ((own_pi (own_w pp1086) 16) t)) (fun t => .int ((own_pi (own_w rr1087) 16) t)) (fun t => .double ((own_pd (own_d p2 p3) 16) t)) ((own_pi (own_w pp1086) 16) 8) ((own_pi (own_w rr1087) 16) 8) ((own_pd (own_d p2 p3) 16) 8) T1477.heap n0 Z1505 V1490 V1491 V1492 hp1623 rfl rfl rfl hp1624 hp1625 hp1626 hp1627) hZ (hw _ (List.mem_of_getElem? (i := 108) rfl)) (hw _ (List.mem_of_getElem? (i := 107) rfl)) (by decide) (by decide)) (g := (mkF m 614 #[.val (.int p0), .val (.int p1), .val (.int p2), .val (.int p3), .val (.int pp1086), .val (.int rr1087), .val (.double (FP.i2d p2)), .second, .val (.int v1088), .val (.ref a1092), .val (.int (16 : Int32)), .val (.ref r1479), .val (.ref wb1480), .val (.ref tb1481), .val (.ref db1482), .unset] [(.double (FP.i2d p2)), (.int rr1087), (.int pp1086), (.int (8 : Int32)), (.ref db1482), (.ref tb1481), (.ref wb1480)])) rfl (by rw [hml]; rfl) (argsL := [(.ref wb1480), (.ref tb1481), (.ref db1482), (.int (8 : Int32)), (.int pp1086), (.int rr1087), (.double (FP.i2d p2))]) (rest := []) (lenOf pd_10 rfl) rfl (by show 2 * 0 + _ ≤ _; exact Nat.le_of_eq rfl) (hb hby at_614) (fun _ _ => ⟨rfl, e1621, (by decide : 8 + 0 ≤ _), (by decide : 105 + 0 ≤ _)⟩)
    have hQ1628b : Q15 Z wb1480 tb1481 db1482 8 pp1086 rr1087 (FP.i2d p2) 16 (fun t => .int ((own_pi (own_w pp1086) 16) t)) (fun t => .int ((own_pi (own_w rr1087) 16) t)) (fun t => .double ((own_pd (own_d p2 p3) 16) t)) ((own_pi (own_w pp1086) 16) 8) ((own_pi (own_w rr1087) 16) 8) ((own_pd (own_d p2 p3) 16) 8) T1477.heap n0 vv1628 T1628.heap L1628c := hQ1628
    clear hQ1628
    dsimp only [Pt.U, Pt.locs, Pt.cells, Pt.slots] at X1628 l1628 y1628 z1628 st1628
    subst y1628 z1628
    obtain ⟨rfl, Nq1629, Kq1630⟩ := hQ1628b
    have N1631 : Fr n0 L1628 := by rw [l1628]; exact Fr.app N1620 Nq1629
    refine Go.of (g' := (mkF m 617 #[.val (.int p0), .val (.int p1), .val (.int p2), .val (.int p3), .val (.int pp1086), .val (.int rr1087), .val (.double (FP.i2d p2)), .second, .val (.int v1088), .val (.ref a1092), .val (.int (16 : Int32)), .val (.ref r1479), .val (.ref wb1480), .val (.ref tb1481), .val (.ref db1482), .unset] [(.int (1 : Int32))])) st1628 ?_
    have e1632 : T1628.heap = T1477.heap := Kq1630
    have A1633 := (⟨X1628, hx, hby⟩ : Ax _ _ _ _ _ _ _ _ _ _ _ _ _ _ _)
    refine g_ifN A1633 at_617 (c0_eq_f (by decide)) (pc' := 620) rfl ?_
    refine g_aload A1633 at_620 rfl rfl (pc' := 622) rfl ?_
    refine g_aload A1633 at_622 rfl rfl (pc' := 624) rfl ?_
    refine g_aload A1633 at_624 rfl rfl (pc' := 626) rfl ?_
    refine g_bipush A1633 at_626 (v := (9 : Int32)) rfl (pc' := 628) rfl ?_
    refine g_iload A1633 at_628 rfl (pc' := 630) rfl ?_
    refine g_iload A1633 at_630 rfl (pc' := 632) rfl ?_
    refine g_dload A1633 at_632 rfl (pc' := 634) rfl ?_
    have hp1634 : 9 < 16 := (by decide)
    have hp1635 : ((own_pi (own_w pp1086) 16) 9) = (pp1086 + (Int32.ofNat 9)) := (own_we (by decide))
    have hp1636 : ((own_pi (own_w rr1087) 16) 9) = (rr1087 + (Int32.ofNat 9)) := (own_we (by decide))
    have hp1637 : FP.dcmp ((own_pd (own_d p2 p3) 16) 9) (FP.dadd (FP.i2d p2) (FP.i2d (Int32.ofNat 9))) = some .eq := (own_de (by decide) (by decide))
    have hp1638 : Fin64 (FP.i2d p2) := (i2d_fin p2)
    obtain ⟨vv1639, _, ⟨T1639, L1639, k1639, n1639⟩, -, X1639, ⟨L1639c, hQ1639, l1639, y1639, z1639⟩, st1639⟩ := Jvm.LawKit.callS X1628 hx (y := (⟨"com/example/retinue/retinue/PairsAddPinLaw", "at", "([I[I[DIIID)Z"⟩ : MethodName)) hown (mvT hZ (hw _ (List.mem_of_getElem? (i := 105) rfl))) (mvT hZ (hw _ (List.mem_of_getElem? (i := 106) rfl))) (mvT hZ (hw _ (List.mem_of_getElem? (i := 107) rfl))) (mvT hZ (hw _ (List.mem_of_getElem? (i := 108) rfl))) (by decide) (backOf (W := 0) (rm15 l Z a0 hw [] wb1480 tb1481 db1482 9 pp1086 rr1087 (FP.i2d p2) 16 (fun t => .int ((own_pi (own_w pp1086) 16) t)) (fun t => .int ((own_pi (own_w rr1087) 16) t)) (fun t => .double ((own_pd (own_d p2 p3) 16) t)) ((own_pi (own_w pp1086) 16) 9) ((own_pi (own_w rr1087) 16) 9) ((own_pd (own_d p2 p3) 16) 9) T1477.heap n0 Z1505 V1490 V1491 V1492 hp1634 rfl rfl rfl hp1635 hp1636 hp1637 hp1638) hZ (hw _ (List.mem_of_getElem? (i := 108) rfl)) (hw _ (List.mem_of_getElem? (i := 107) rfl)) (by decide) (by decide)) (g := (mkF m 634 #[.val (.int p0), .val (.int p1), .val (.int p2), .val (.int p3), .val (.int pp1086), .val (.int rr1087), .val (.double (FP.i2d p2)), .second, .val (.int v1088), .val (.ref a1092), .val (.int (16 : Int32)), .val (.ref r1479), .val (.ref wb1480), .val (.ref tb1481), .val (.ref db1482), .unset] [(.double (FP.i2d p2)), (.int rr1087), (.int pp1086), (.int (9 : Int32)), (.ref db1482), (.ref tb1481), (.ref wb1480)])) rfl (by rw [hml]; rfl) (argsL := [(.ref wb1480), (.ref tb1481), (.ref db1482), (.int (9 : Int32)), (.int pp1086), (.int rr1087), (.double (FP.i2d p2))]) (rest := []) (lenOf pd_10 rfl) rfl (by show 2 * 0 + _ ≤ _; exact Nat.le_of_eq rfl) (hb hby at_634) (fun _ _ => ⟨rfl, e1632, (by decide : 8 + 0 ≤ _), (by decide : 105 + 0 ≤ _)⟩)
    have hQ1639b : Q15 Z wb1480 tb1481 db1482 9 pp1086 rr1087 (FP.i2d p2) 16 (fun t => .int ((own_pi (own_w pp1086) 16) t)) (fun t => .int ((own_pi (own_w rr1087) 16) t)) (fun t => .double ((own_pd (own_d p2 p3) 16) t)) ((own_pi (own_w pp1086) 16) 9) ((own_pi (own_w rr1087) 16) 9) ((own_pd (own_d p2 p3) 16) 9) T1477.heap n0 vv1639 T1639.heap L1639c := hQ1639
    clear hQ1639
    dsimp only [Pt.U, Pt.locs, Pt.cells, Pt.slots] at X1639 l1639 y1639 z1639 st1639
    subst y1639 z1639
    obtain ⟨rfl, Nq1640, Kq1641⟩ := hQ1639b
    have N1642 : Fr n0 L1639 := by rw [l1639]; exact Fr.app N1631 Nq1640
    refine Go.of (g' := (mkF m 637 #[.val (.int p0), .val (.int p1), .val (.int p2), .val (.int p3), .val (.int pp1086), .val (.int rr1087), .val (.double (FP.i2d p2)), .second, .val (.int v1088), .val (.ref a1092), .val (.int (16 : Int32)), .val (.ref r1479), .val (.ref wb1480), .val (.ref tb1481), .val (.ref db1482), .unset] [(.int (1 : Int32))])) st1639 ?_
    have e1643 : T1639.heap = T1477.heap := Kq1641
    have A1644 := (⟨X1639, hx, hby⟩ : Ax _ _ _ _ _ _ _ _ _ _ _ _ _ _ _)
    refine g_ifN A1644 at_637 (c0_eq_f (by decide)) (pc' := 640) rfl ?_
    refine g_aload A1644 at_640 rfl rfl (pc' := 642) rfl ?_
    refine g_aload A1644 at_642 rfl rfl (pc' := 644) rfl ?_
    refine g_aload A1644 at_644 rfl rfl (pc' := 646) rfl ?_
    refine g_bipush A1644 at_646 (v := (10 : Int32)) rfl (pc' := 648) rfl ?_
    refine g_iload A1644 at_648 rfl (pc' := 650) rfl ?_
    refine g_iload A1644 at_650 rfl (pc' := 652) rfl ?_
    refine g_dload A1644 at_652 rfl (pc' := 654) rfl ?_
    have hp1645 : 10 < 16 := (by decide)
    have hp1646 : ((own_pi (own_w pp1086) 16) 10) = (pp1086 + (Int32.ofNat 10)) := (own_we (by decide))
    have hp1647 : ((own_pi (own_w rr1087) 16) 10) = (rr1087 + (Int32.ofNat 10)) := (own_we (by decide))
    have hp1648 : FP.dcmp ((own_pd (own_d p2 p3) 16) 10) (FP.dadd (FP.i2d p2) (FP.i2d (Int32.ofNat 10))) = some .eq := (own_de (by decide) (by decide))
    have hp1649 : Fin64 (FP.i2d p2) := (i2d_fin p2)
    obtain ⟨vv1650, _, ⟨T1650, L1650, k1650, n1650⟩, -, X1650, ⟨L1650c, hQ1650, l1650, y1650, z1650⟩, st1650⟩ := Jvm.LawKit.callS X1639 hx (y := (⟨"com/example/retinue/retinue/PairsAddPinLaw", "at", "([I[I[DIIID)Z"⟩ : MethodName)) hown (mvT hZ (hw _ (List.mem_of_getElem? (i := 105) rfl))) (mvT hZ (hw _ (List.mem_of_getElem? (i := 106) rfl))) (mvT hZ (hw _ (List.mem_of_getElem? (i := 107) rfl))) (mvT hZ (hw _ (List.mem_of_getElem? (i := 108) rfl))) (by decide) (backOf (W := 0) (rm15 l Z a0 hw [] wb1480 tb1481 db1482 10 pp1086 rr1087 (FP.i2d p2) 16 (fun t => .int ((own_pi (own_w pp1086) 16) t)) (fun t => .int ((own_pi (own_w rr1087) 16) t)) (fun t => .double ((own_pd (own_d p2 p3) 16) t)) ((own_pi (own_w pp1086) 16) 10) ((own_pi (own_w rr1087) 16) 10) ((own_pd (own_d p2 p3) 16) 10) T1477.heap n0 Z1505 V1490 V1491 V1492 hp1645 rfl rfl rfl hp1646 hp1647 hp1648 hp1649) hZ (hw _ (List.mem_of_getElem? (i := 108) rfl)) (hw _ (List.mem_of_getElem? (i := 107) rfl)) (by decide) (by decide)) (g := (mkF m 654 #[.val (.int p0), .val (.int p1), .val (.int p2), .val (.int p3), .val (.int pp1086), .val (.int rr1087), .val (.double (FP.i2d p2)), .second, .val (.int v1088), .val (.ref a1092), .val (.int (16 : Int32)), .val (.ref r1479), .val (.ref wb1480), .val (.ref tb1481), .val (.ref db1482), .unset] [(.double (FP.i2d p2)), (.int rr1087), (.int pp1086), (.int (10 : Int32)), (.ref db1482), (.ref tb1481), (.ref wb1480)])) rfl (by rw [hml]; rfl) (argsL := [(.ref wb1480), (.ref tb1481), (.ref db1482), (.int (10 : Int32)), (.int pp1086), (.int rr1087), (.double (FP.i2d p2))]) (rest := []) (lenOf pd_10 rfl) rfl (by show 2 * 0 + _ ≤ _; exact Nat.le_of_eq rfl) (hb hby at_654) (fun _ _ => ⟨rfl, e1643, (by decide : 8 + 0 ≤ _), (by decide : 105 + 0 ≤ _)⟩)
    have hQ1650b : Q15 Z wb1480 tb1481 db1482 10 pp1086 rr1087 (FP.i2d p2) 16 (fun t => .int ((own_pi (own_w pp1086) 16) t)) (fun t => .int ((own_pi (own_w rr1087) 16) t)) (fun t => .double ((own_pd (own_d p2 p3) 16) t)) ((own_pi (own_w pp1086) 16) 10) ((own_pi (own_w rr1087) 16) 10) ((own_pd (own_d p2 p3) 16) 10) T1477.heap n0 vv1650 T1650.heap L1650c := hQ1650
    clear hQ1650
    dsimp only [Pt.U, Pt.locs, Pt.cells, Pt.slots] at X1650 l1650 y1650 z1650 st1650
    subst y1650 z1650
    obtain ⟨rfl, Nq1651, Kq1652⟩ := hQ1650b
    have N1653 : Fr n0 L1650 := by rw [l1650]; exact Fr.app N1642 Nq1651
    refine Go.of (g' := (mkF m 657 #[.val (.int p0), .val (.int p1), .val (.int p2), .val (.int p3), .val (.int pp1086), .val (.int rr1087), .val (.double (FP.i2d p2)), .second, .val (.int v1088), .val (.ref a1092), .val (.int (16 : Int32)), .val (.ref r1479), .val (.ref wb1480), .val (.ref tb1481), .val (.ref db1482), .unset] [(.int (1 : Int32))])) st1650 ?_
    have e1654 : T1650.heap = T1477.heap := Kq1652
    have A1655 := (⟨X1650, hx, hby⟩ : Ax _ _ _ _ _ _ _ _ _ _ _ _ _ _ _)
    refine g_ifN A1655 at_657 (c0_eq_f (by decide)) (pc' := 660) rfl ?_
    refine g_aload A1655 at_660 rfl rfl (pc' := 662) rfl ?_
    refine g_aload A1655 at_662 rfl rfl (pc' := 664) rfl ?_
    refine g_aload A1655 at_664 rfl rfl (pc' := 666) rfl ?_
    refine g_bipush A1655 at_666 (v := (11 : Int32)) rfl (pc' := 668) rfl ?_
    refine g_iload A1655 at_668 rfl (pc' := 670) rfl ?_
    refine g_iload A1655 at_670 rfl (pc' := 672) rfl ?_
    refine g_dload A1655 at_672 rfl (pc' := 674) rfl ?_
    have hp1656 : 11 < 16 := (by decide)
    have hp1657 : ((own_pi (own_w pp1086) 16) 11) = (pp1086 + (Int32.ofNat 11)) := (own_we (by decide))
    have hp1658 : ((own_pi (own_w rr1087) 16) 11) = (rr1087 + (Int32.ofNat 11)) := (own_we (by decide))
    have hp1659 : FP.dcmp ((own_pd (own_d p2 p3) 16) 11) (FP.dadd (FP.i2d p2) (FP.i2d (Int32.ofNat 11))) = some .eq := (own_de (by decide) (by decide))
    have hp1660 : Fin64 (FP.i2d p2) := (i2d_fin p2)
    obtain ⟨vv1661, _, ⟨T1661, L1661, k1661, n1661⟩, -, X1661, ⟨L1661c, hQ1661, l1661, y1661, z1661⟩, st1661⟩ := Jvm.LawKit.callS X1650 hx (y := (⟨"com/example/retinue/retinue/PairsAddPinLaw", "at", "([I[I[DIIID)Z"⟩ : MethodName)) hown (mvT hZ (hw _ (List.mem_of_getElem? (i := 105) rfl))) (mvT hZ (hw _ (List.mem_of_getElem? (i := 106) rfl))) (mvT hZ (hw _ (List.mem_of_getElem? (i := 107) rfl))) (mvT hZ (hw _ (List.mem_of_getElem? (i := 108) rfl))) (by decide) (backOf (W := 0) (rm15 l Z a0 hw [] wb1480 tb1481 db1482 11 pp1086 rr1087 (FP.i2d p2) 16 (fun t => .int ((own_pi (own_w pp1086) 16) t)) (fun t => .int ((own_pi (own_w rr1087) 16) t)) (fun t => .double ((own_pd (own_d p2 p3) 16) t)) ((own_pi (own_w pp1086) 16) 11) ((own_pi (own_w rr1087) 16) 11) ((own_pd (own_d p2 p3) 16) 11) T1477.heap n0 Z1505 V1490 V1491 V1492 hp1656 rfl rfl rfl hp1657 hp1658 hp1659 hp1660) hZ (hw _ (List.mem_of_getElem? (i := 108) rfl)) (hw _ (List.mem_of_getElem? (i := 107) rfl)) (by decide) (by decide)) (g := (mkF m 674 #[.val (.int p0), .val (.int p1), .val (.int p2), .val (.int p3), .val (.int pp1086), .val (.int rr1087), .val (.double (FP.i2d p2)), .second, .val (.int v1088), .val (.ref a1092), .val (.int (16 : Int32)), .val (.ref r1479), .val (.ref wb1480), .val (.ref tb1481), .val (.ref db1482), .unset] [(.double (FP.i2d p2)), (.int rr1087), (.int pp1086), (.int (11 : Int32)), (.ref db1482), (.ref tb1481), (.ref wb1480)])) rfl (by rw [hml]; rfl) (argsL := [(.ref wb1480), (.ref tb1481), (.ref db1482), (.int (11 : Int32)), (.int pp1086), (.int rr1087), (.double (FP.i2d p2))]) (rest := []) (lenOf pd_10 rfl) rfl (by show 2 * 0 + _ ≤ _; exact Nat.le_of_eq rfl) (hb hby at_674) (fun _ _ => ⟨rfl, e1654, (by decide : 8 + 0 ≤ _), (by decide : 105 + 0 ≤ _)⟩)
    have hQ1661b : Q15 Z wb1480 tb1481 db1482 11 pp1086 rr1087 (FP.i2d p2) 16 (fun t => .int ((own_pi (own_w pp1086) 16) t)) (fun t => .int ((own_pi (own_w rr1087) 16) t)) (fun t => .double ((own_pd (own_d p2 p3) 16) t)) ((own_pi (own_w pp1086) 16) 11) ((own_pi (own_w rr1087) 16) 11) ((own_pd (own_d p2 p3) 16) 11) T1477.heap n0 vv1661 T1661.heap L1661c := hQ1661
    clear hQ1661
    dsimp only [Pt.U, Pt.locs, Pt.cells, Pt.slots] at X1661 l1661 y1661 z1661 st1661
    subst y1661 z1661
    obtain ⟨rfl, Nq1662, Kq1663⟩ := hQ1661b
    have N1664 : Fr n0 L1661 := by rw [l1661]; exact Fr.app N1653 Nq1662
    refine Go.of (g' := (mkF m 677 #[.val (.int p0), .val (.int p1), .val (.int p2), .val (.int p3), .val (.int pp1086), .val (.int rr1087), .val (.double (FP.i2d p2)), .second, .val (.int v1088), .val (.ref a1092), .val (.int (16 : Int32)), .val (.ref r1479), .val (.ref wb1480), .val (.ref tb1481), .val (.ref db1482), .unset] [(.int (1 : Int32))])) st1661 ?_
    have e1665 : T1661.heap = T1477.heap := Kq1663
    have A1666 := (⟨X1661, hx, hby⟩ : Ax _ _ _ _ _ _ _ _ _ _ _ _ _ _ _)
    refine g_ifN A1666 at_677 (c0_eq_f (by decide)) (pc' := 680) rfl ?_
    refine g_aload A1666 at_680 rfl rfl (pc' := 682) rfl ?_
    refine g_aload A1666 at_682 rfl rfl (pc' := 684) rfl ?_
    refine g_aload A1666 at_684 rfl rfl (pc' := 686) rfl ?_
    refine g_bipush A1666 at_686 (v := (12 : Int32)) rfl (pc' := 688) rfl ?_
    refine g_iload A1666 at_688 rfl (pc' := 690) rfl ?_
    refine g_iload A1666 at_690 rfl (pc' := 692) rfl ?_
    refine g_dload A1666 at_692 rfl (pc' := 694) rfl ?_
    have hp1667 : 12 < 16 := (by decide)
    have hp1668 : ((own_pi (own_w pp1086) 16) 12) = (pp1086 + (Int32.ofNat 12)) := (own_we (by decide))
    have hp1669 : ((own_pi (own_w rr1087) 16) 12) = (rr1087 + (Int32.ofNat 12)) := (own_we (by decide))
    have hp1670 : FP.dcmp ((own_pd (own_d p2 p3) 16) 12) (FP.dadd (FP.i2d p2) (FP.i2d (Int32.ofNat 12))) = some .eq := (own_de (by decide) (by decide))
    have hp1671 : Fin64 (FP.i2d p2) := (i2d_fin p2)
    obtain ⟨vv1672, _, ⟨T1672, L1672, k1672, n1672⟩, -, X1672, ⟨L1672c, hQ1672, l1672, y1672, z1672⟩, st1672⟩ := Jvm.LawKit.callS X1661 hx (y := (⟨"com/example/retinue/retinue/PairsAddPinLaw", "at", "([I[I[DIIID)Z"⟩ : MethodName)) hown (mvT hZ (hw _ (List.mem_of_getElem? (i := 105) rfl))) (mvT hZ (hw _ (List.mem_of_getElem? (i := 106) rfl))) (mvT hZ (hw _ (List.mem_of_getElem? (i := 107) rfl))) (mvT hZ (hw _ (List.mem_of_getElem? (i := 108) rfl))) (by decide) (backOf (W := 0) (rm15 l Z a0 hw [] wb1480 tb1481 db1482 12 pp1086 rr1087 (FP.i2d p2) 16 (fun t => .int ((own_pi (own_w pp1086) 16) t)) (fun t => .int ((own_pi (own_w rr1087) 16) t)) (fun t => .double ((own_pd (own_d p2 p3) 16) t)) ((own_pi (own_w pp1086) 16) 12) ((own_pi (own_w rr1087) 16) 12) ((own_pd (own_d p2 p3) 16) 12) T1477.heap n0 Z1505 V1490 V1491 V1492 hp1667 rfl rfl rfl hp1668 hp1669 hp1670 hp1671) hZ (hw _ (List.mem_of_getElem? (i := 108) rfl)) (hw _ (List.mem_of_getElem? (i := 107) rfl)) (by decide) (by decide)) (g := (mkF m 694 #[.val (.int p0), .val (.int p1), .val (.int p2), .val (.int p3), .val (.int pp1086), .val (.int rr1087), .val (.double (FP.i2d p2)), .second, .val (.int v1088), .val (.ref a1092), .val (.int (16 : Int32)), .val (.ref r1479), .val (.ref wb1480), .val (.ref tb1481), .val (.ref db1482), .unset] [(.double (FP.i2d p2)), (.int rr1087), (.int pp1086), (.int (12 : Int32)), (.ref db1482), (.ref tb1481), (.ref wb1480)])) rfl (by rw [hml]; rfl) (argsL := [(.ref wb1480), (.ref tb1481), (.ref db1482), (.int (12 : Int32)), (.int pp1086), (.int rr1087), (.double (FP.i2d p2))]) (rest := []) (lenOf pd_10 rfl) rfl (by show 2 * 0 + _ ≤ _; exact Nat.le_of_eq rfl) (hb hby at_694) (fun _ _ => ⟨rfl, e1665, (by decide : 8 + 0 ≤ _), (by decide : 105 + 0 ≤ _)⟩)
    have hQ1672b : Q15 Z wb1480 tb1481 db1482 12 pp1086 rr1087 (FP.i2d p2) 16 (fun t => .int ((own_pi (own_w pp1086) 16) t)) (fun t => .int ((own_pi (own_w rr1087) 16) t)) (fun t => .double ((own_pd (own_d p2 p3) 16) t)) ((own_pi (own_w pp1086) 16) 12) ((own_pi (own_w rr1087) 16) 12) ((own_pd (own_d p2 p3) 16) 12) T1477.heap n0 vv1672 T1672.heap L1672c := hQ1672
    clear hQ1672
    dsimp only [Pt.U, Pt.locs, Pt.cells, Pt.slots] at X1672 l1672 y1672 z1672 st1672
    subst y1672 z1672
    obtain ⟨rfl, Nq1673, Kq1674⟩ := hQ1672b
    have N1675 : Fr n0 L1672 := by rw [l1672]; exact Fr.app N1664 Nq1673
    refine Go.of (g' := (mkF m 697 #[.val (.int p0), .val (.int p1), .val (.int p2), .val (.int p3), .val (.int pp1086), .val (.int rr1087), .val (.double (FP.i2d p2)), .second, .val (.int v1088), .val (.ref a1092), .val (.int (16 : Int32)), .val (.ref r1479), .val (.ref wb1480), .val (.ref tb1481), .val (.ref db1482), .unset] [(.int (1 : Int32))])) st1672 ?_
    have e1676 : T1672.heap = T1477.heap := Kq1674
    have A1677 := (⟨X1672, hx, hby⟩ : Ax _ _ _ _ _ _ _ _ _ _ _ _ _ _ _)
    refine g_ifN A1677 at_697 (c0_eq_f (by decide)) (pc' := 700) rfl ?_
    refine g_aload A1677 at_700 rfl rfl (pc' := 702) rfl ?_
    refine g_aload A1677 at_702 rfl rfl (pc' := 704) rfl ?_
    refine g_aload A1677 at_704 rfl rfl (pc' := 706) rfl ?_
    refine g_bipush A1677 at_706 (v := (13 : Int32)) rfl (pc' := 708) rfl ?_
    refine g_iload A1677 at_708 rfl (pc' := 710) rfl ?_
    refine g_iload A1677 at_710 rfl (pc' := 712) rfl ?_
    refine g_dload A1677 at_712 rfl (pc' := 714) rfl ?_
    have hp1678 : 13 < 16 := (by decide)
    have hp1679 : ((own_pi (own_w pp1086) 16) 13) = (pp1086 + (Int32.ofNat 13)) := (own_we (by decide))
    have hp1680 : ((own_pi (own_w rr1087) 16) 13) = (rr1087 + (Int32.ofNat 13)) := (own_we (by decide))
    have hp1681 : FP.dcmp ((own_pd (own_d p2 p3) 16) 13) (FP.dadd (FP.i2d p2) (FP.i2d (Int32.ofNat 13))) = some .eq := (own_de (by decide) (by decide))
    have hp1682 : Fin64 (FP.i2d p2) := (i2d_fin p2)
    obtain ⟨vv1683, _, ⟨T1683, L1683, k1683, n1683⟩, -, X1683, ⟨L1683c, hQ1683, l1683, y1683, z1683⟩, st1683⟩ := Jvm.LawKit.callS X1672 hx (y := (⟨"com/example/retinue/retinue/PairsAddPinLaw", "at", "([I[I[DIIID)Z"⟩ : MethodName)) hown (mvT hZ (hw _ (List.mem_of_getElem? (i := 105) rfl))) (mvT hZ (hw _ (List.mem_of_getElem? (i := 106) rfl))) (mvT hZ (hw _ (List.mem_of_getElem? (i := 107) rfl))) (mvT hZ (hw _ (List.mem_of_getElem? (i := 108) rfl))) (by decide) (backOf (W := 0) (rm15 l Z a0 hw [] wb1480 tb1481 db1482 13 pp1086 rr1087 (FP.i2d p2) 16 (fun t => .int ((own_pi (own_w pp1086) 16) t)) (fun t => .int ((own_pi (own_w rr1087) 16) t)) (fun t => .double ((own_pd (own_d p2 p3) 16) t)) ((own_pi (own_w pp1086) 16) 13) ((own_pi (own_w rr1087) 16) 13) ((own_pd (own_d p2 p3) 16) 13) T1477.heap n0 Z1505 V1490 V1491 V1492 hp1678 rfl rfl rfl hp1679 hp1680 hp1681 hp1682) hZ (hw _ (List.mem_of_getElem? (i := 108) rfl)) (hw _ (List.mem_of_getElem? (i := 107) rfl)) (by decide) (by decide)) (g := (mkF m 714 #[.val (.int p0), .val (.int p1), .val (.int p2), .val (.int p3), .val (.int pp1086), .val (.int rr1087), .val (.double (FP.i2d p2)), .second, .val (.int v1088), .val (.ref a1092), .val (.int (16 : Int32)), .val (.ref r1479), .val (.ref wb1480), .val (.ref tb1481), .val (.ref db1482), .unset] [(.double (FP.i2d p2)), (.int rr1087), (.int pp1086), (.int (13 : Int32)), (.ref db1482), (.ref tb1481), (.ref wb1480)])) rfl (by rw [hml]; rfl) (argsL := [(.ref wb1480), (.ref tb1481), (.ref db1482), (.int (13 : Int32)), (.int pp1086), (.int rr1087), (.double (FP.i2d p2))]) (rest := []) (lenOf pd_10 rfl) rfl (by show 2 * 0 + _ ≤ _; exact Nat.le_of_eq rfl) (hb hby at_714) (fun _ _ => ⟨rfl, e1676, (by decide : 8 + 0 ≤ _), (by decide : 105 + 0 ≤ _)⟩)
    have hQ1683b : Q15 Z wb1480 tb1481 db1482 13 pp1086 rr1087 (FP.i2d p2) 16 (fun t => .int ((own_pi (own_w pp1086) 16) t)) (fun t => .int ((own_pi (own_w rr1087) 16) t)) (fun t => .double ((own_pd (own_d p2 p3) 16) t)) ((own_pi (own_w pp1086) 16) 13) ((own_pi (own_w rr1087) 16) 13) ((own_pd (own_d p2 p3) 16) 13) T1477.heap n0 vv1683 T1683.heap L1683c := hQ1683
    clear hQ1683
    dsimp only [Pt.U, Pt.locs, Pt.cells, Pt.slots] at X1683 l1683 y1683 z1683 st1683
    subst y1683 z1683
    obtain ⟨rfl, Nq1684, Kq1685⟩ := hQ1683b
    have N1686 : Fr n0 L1683 := by rw [l1683]; exact Fr.app N1675 Nq1684
    refine Go.of (g' := (mkF m 717 #[.val (.int p0), .val (.int p1), .val (.int p2), .val (.int p3), .val (.int pp1086), .val (.int rr1087), .val (.double (FP.i2d p2)), .second, .val (.int v1088), .val (.ref a1092), .val (.int (16 : Int32)), .val (.ref r1479), .val (.ref wb1480), .val (.ref tb1481), .val (.ref db1482), .unset] [(.int (1 : Int32))])) st1683 ?_
    have e1687 : T1683.heap = T1477.heap := Kq1685
    have A1688 := (⟨X1683, hx, hby⟩ : Ax _ _ _ _ _ _ _ _ _ _ _ _ _ _ _)
    refine g_ifN A1688 at_717 (c0_eq_f (by decide)) (pc' := 720) rfl ?_
    refine g_aload A1688 at_720 rfl rfl (pc' := 722) rfl ?_
    refine g_aload A1688 at_722 rfl rfl (pc' := 724) rfl ?_
    refine g_aload A1688 at_724 rfl rfl (pc' := 726) rfl ?_
    refine g_bipush A1688 at_726 (v := (14 : Int32)) rfl (pc' := 728) rfl ?_
    refine g_iload A1688 at_728 rfl (pc' := 730) rfl ?_
    refine g_iload A1688 at_730 rfl (pc' := 732) rfl ?_
    refine g_dload A1688 at_732 rfl (pc' := 734) rfl ?_
    have hp1689 : 14 < 16 := (by decide)
    have hp1690 : ((own_pi (own_w pp1086) 16) 14) = (pp1086 + (Int32.ofNat 14)) := (own_we (by decide))
    have hp1691 : ((own_pi (own_w rr1087) 16) 14) = (rr1087 + (Int32.ofNat 14)) := (own_we (by decide))
    have hp1692 : FP.dcmp ((own_pd (own_d p2 p3) 16) 14) (FP.dadd (FP.i2d p2) (FP.i2d (Int32.ofNat 14))) = some .eq := (own_de (by decide) (by decide))
    have hp1693 : Fin64 (FP.i2d p2) := (i2d_fin p2)
    obtain ⟨vv1694, _, ⟨T1694, L1694, k1694, n1694⟩, -, X1694, ⟨L1694c, hQ1694, l1694, y1694, z1694⟩, st1694⟩ := Jvm.LawKit.callS X1683 hx (y := (⟨"com/example/retinue/retinue/PairsAddPinLaw", "at", "([I[I[DIIID)Z"⟩ : MethodName)) hown (mvT hZ (hw _ (List.mem_of_getElem? (i := 105) rfl))) (mvT hZ (hw _ (List.mem_of_getElem? (i := 106) rfl))) (mvT hZ (hw _ (List.mem_of_getElem? (i := 107) rfl))) (mvT hZ (hw _ (List.mem_of_getElem? (i := 108) rfl))) (by decide) (backOf (W := 0) (rm15 l Z a0 hw [] wb1480 tb1481 db1482 14 pp1086 rr1087 (FP.i2d p2) 16 (fun t => .int ((own_pi (own_w pp1086) 16) t)) (fun t => .int ((own_pi (own_w rr1087) 16) t)) (fun t => .double ((own_pd (own_d p2 p3) 16) t)) ((own_pi (own_w pp1086) 16) 14) ((own_pi (own_w rr1087) 16) 14) ((own_pd (own_d p2 p3) 16) 14) T1477.heap n0 Z1505 V1490 V1491 V1492 hp1689 rfl rfl rfl hp1690 hp1691 hp1692 hp1693) hZ (hw _ (List.mem_of_getElem? (i := 108) rfl)) (hw _ (List.mem_of_getElem? (i := 107) rfl)) (by decide) (by decide)) (g := (mkF m 734 #[.val (.int p0), .val (.int p1), .val (.int p2), .val (.int p3), .val (.int pp1086), .val (.int rr1087), .val (.double (FP.i2d p2)), .second, .val (.int v1088), .val (.ref a1092), .val (.int (16 : Int32)), .val (.ref r1479), .val (.ref wb1480), .val (.ref tb1481), .val (.ref db1482), .unset] [(.double (FP.i2d p2)), (.int rr1087), (.int pp1086), (.int (14 : Int32)), (.ref db1482), (.ref tb1481), (.ref wb1480)])) rfl (by rw [hml]; rfl) (argsL := [(.ref wb1480), (.ref tb1481), (.ref db1482), (.int (14 : Int32)), (.int pp1086), (.int rr1087), (.double (FP.i2d p2))]) (rest := []) (lenOf pd_10 rfl) rfl (by show 2 * 0 + _ ≤ _; exact Nat.le_of_eq rfl) (hb hby at_734) (fun _ _ => ⟨rfl, e1687, (by decide : 8 + 0 ≤ _), (by decide : 105 + 0 ≤ _)⟩)
    have hQ1694b : Q15 Z wb1480 tb1481 db1482 14 pp1086 rr1087 (FP.i2d p2) 16 (fun t => .int ((own_pi (own_w pp1086) 16) t)) (fun t => .int ((own_pi (own_w rr1087) 16) t)) (fun t => .double ((own_pd (own_d p2 p3) 16) t)) ((own_pi (own_w pp1086) 16) 14) ((own_pi (own_w rr1087) 16) 14) ((own_pd (own_d p2 p3) 16) 14) T1477.heap n0 vv1694 T1694.heap L1694c := hQ1694
    clear hQ1694
    dsimp only [Pt.U, Pt.locs, Pt.cells, Pt.slots] at X1694 l1694 y1694 z1694 st1694
    subst y1694 z1694
    obtain ⟨rfl, Nq1695, Kq1696⟩ := hQ1694b
    have N1697 : Fr n0 L1694 := by rw [l1694]; exact Fr.app N1686 Nq1695
    refine Go.of (g' := (mkF m 737 #[.val (.int p0), .val (.int p1), .val (.int p2), .val (.int p3), .val (.int pp1086), .val (.int rr1087), .val (.double (FP.i2d p2)), .second, .val (.int v1088), .val (.ref a1092), .val (.int (16 : Int32)), .val (.ref r1479), .val (.ref wb1480), .val (.ref tb1481), .val (.ref db1482), .unset] [(.int (1 : Int32))])) st1694 ?_
    have e1698 : T1694.heap = T1477.heap := Kq1696
    have A1699 := (⟨X1694, hx, hby⟩ : Ax _ _ _ _ _ _ _ _ _ _ _ _ _ _ _)
    refine g_ifN A1699 at_737 (c0_eq_f (by decide)) (pc' := 740) rfl ?_
    refine g_aload A1699 at_740 rfl rfl (pc' := 742) rfl ?_
    refine g_aload A1699 at_742 rfl rfl (pc' := 744) rfl ?_
    refine g_aload A1699 at_744 rfl rfl (pc' := 746) rfl ?_
    refine g_bipush A1699 at_746 (v := (15 : Int32)) rfl (pc' := 748) rfl ?_
    refine g_iload A1699 at_748 rfl (pc' := 750) rfl ?_
    refine g_iload A1699 at_750 rfl (pc' := 752) rfl ?_
    refine g_dload A1699 at_752 rfl (pc' := 754) rfl ?_
    have hp1700 : 15 < 16 := (by decide)
    have hp1701 : ((own_pi (own_w pp1086) 16) 15) = (pp1086 + (Int32.ofNat 15)) := (own_we (by decide))
    have hp1702 : ((own_pi (own_w rr1087) 16) 15) = (rr1087 + (Int32.ofNat 15)) := (own_we (by decide))
    have hp1703 : FP.dcmp ((own_pd (own_d p2 p3) 16) 15) (FP.dadd (FP.i2d p2) (FP.i2d (Int32.ofNat 15))) = some .eq := (own_de (by decide) (by decide))
    have hp1704 : Fin64 (FP.i2d p2) := (i2d_fin p2)
    obtain ⟨vv1705, _, ⟨T1705, L1705, k1705, n1705⟩, -, X1705, ⟨L1705c, hQ1705, l1705, y1705, z1705⟩, st1705⟩ := Jvm.LawKit.callS X1694 hx (y := (⟨"com/example/retinue/retinue/PairsAddPinLaw", "at", "([I[I[DIIID)Z"⟩ : MethodName)) hown (mvT hZ (hw _ (List.mem_of_getElem? (i := 105) rfl))) (mvT hZ (hw _ (List.mem_of_getElem? (i := 106) rfl))) (mvT hZ (hw _ (List.mem_of_getElem? (i := 107) rfl))) (mvT hZ (hw _ (List.mem_of_getElem? (i := 108) rfl))) (by decide) (backOf (W := 0) (rm15 l Z a0 hw [] wb1480 tb1481 db1482 15 pp1086 rr1087 (FP.i2d p2) 16 (fun t => .int ((own_pi (own_w pp1086) 16) t)) (fun t => .int ((own_pi (own_w rr1087) 16) t)) (fun t => .double ((own_pd (own_d p2 p3) 16) t)) ((own_pi (own_w pp1086) 16) 15) ((own_pi (own_w rr1087) 16) 15) ((own_pd (own_d p2 p3) 16) 15) T1477.heap n0 Z1505 V1490 V1491 V1492 hp1700 rfl rfl rfl hp1701 hp1702 hp1703 hp1704) hZ (hw _ (List.mem_of_getElem? (i := 108) rfl)) (hw _ (List.mem_of_getElem? (i := 107) rfl)) (by decide) (by decide)) (g := (mkF m 754 #[.val (.int p0), .val (.int p1), .val (.int p2), .val (.int p3), .val (.int pp1086), .val (.int rr1087), .val (.double (FP.i2d p2)), .second, .val (.int v1088), .val (.ref a1092), .val (.int (16 : Int32)), .val (.ref r1479), .val (.ref wb1480), .val (.ref tb1481), .val (.ref db1482), .unset] [(.double (FP.i2d p2)), (.int rr1087), (.int pp1086), (.int (15 : Int32)), (.ref db1482), (.ref tb1481), (.ref wb1480)])) rfl (by rw [hml]; rfl) (argsL := [(.ref wb1480), (.ref tb1481), (.ref db1482), (.int (15 : Int32)), (.int pp1086), (.int rr1087), (.double (FP.i2d p2))]) (rest := []) (lenOf pd_10 rfl) rfl (by show 2 * 0 + _ ≤ _; exact Nat.le_of_eq rfl) (hb hby at_754) (fun _ _ => ⟨rfl, e1698, (by decide : 8 + 0 ≤ _), (by decide : 105 + 0 ≤ _)⟩)
    have hQ1705b : Q15 Z wb1480 tb1481 db1482 15 pp1086 rr1087 (FP.i2d p2) 16 (fun t => .int ((own_pi (own_w pp1086) 16) t)) (fun t => .int ((own_pi (own_w rr1087) 16) t)) (fun t => .double ((own_pd (own_d p2 p3) 16) t)) ((own_pi (own_w pp1086) 16) 15) ((own_pi (own_w rr1087) 16) 15) ((own_pd (own_d p2 p3) 16) 15) T1477.heap n0 vv1705 T1705.heap L1705c := hQ1705
    clear hQ1705
    dsimp only [Pt.U, Pt.locs, Pt.cells, Pt.slots] at X1705 l1705 y1705 z1705 st1705
    subst y1705 z1705
    obtain ⟨rfl, Nq1706, Kq1707⟩ := hQ1705b
    have N1708 : Fr n0 L1705 := by rw [l1705]; exact Fr.app N1697 Nq1706
    refine Go.of (g' := (mkF m 757 #[.val (.int p0), .val (.int p1), .val (.int p2), .val (.int p3), .val (.int pp1086), .val (.int rr1087), .val (.double (FP.i2d p2)), .second, .val (.int v1088), .val (.ref a1092), .val (.int (16 : Int32)), .val (.ref r1479), .val (.ref wb1480), .val (.ref tb1481), .val (.ref db1482), .unset] [(.int (1 : Int32))])) st1705 ?_
    have e1709 : T1705.heap = T1477.heap := Kq1707
    have A1710 := (⟨X1705, hx, hby⟩ : Ax _ _ _ _ _ _ _ _ _ _ _ _ _ _ _)
    refine g_ifN A1710 at_757 (c0_eq_f (by decide)) (pc' := 760) rfl ?_
    refine g_iconst A1710 at_760 (v := (1 : Int32)) rfl (pc' := 761) rfl ?_
    refine g_goto A1710 at_761 (pc' := 765) rfl ?_
    refine g_istore A1710 at_765 (ls' := #[.val (.int p0), .val (.int p1), .val (.int p2), .val (.int p3), .val (.int pp1086), .val (.int rr1087), .val (.double (FP.i2d p2)), .second, .val (.int v1088), .val (.ref a1092), .val (.int (16 : Int32)), .val (.ref r1479), .val (.ref wb1480), .val (.ref tb1481), .val (.ref db1482), .val (.int (1 : Int32))]) rfl (pc' := 767) rfl ?_
    refine g_iload A1710 at_767 rfl (pc' := 769) rfl ?_
    refine g_ifY A1710 at_769 (b0_eq_t hv1088 (fun q => q hc1473)) (pc' := 821) rfl ?_
    refine g_iload A1710 at_821 rfl (pc' := 823) rfl ?_
    exact g_ret (Q := Q0 Z p0 p1 p2 p3 h0 n0) A1710 at_823 Bd.notSynchronized Bd.returns rfl (Or.inl ⟨rfl, by simp, _, rfl⟩) (by decide) (by decide) (by rw [e1709]; exact ⟨rfl, N1708⟩)
  · skip
    refine g_ifN A1472 at_354 (b0_eq_f hv1088 hc1473) (pc' := 357) rfl ?_
    refine g_aload A1472 at_357 rfl rfl (pc' := 359) rfl ?_
    refine g_iload A1472 at_359 rfl (pc' := 361) rfl ?_
    refine g_bipush A1472 at_361 (v := (16 : Int32)) rfl (pc' := 363) rfl ?_
    refine g_iadd A1472 at_363 (pc' := 364) rfl ?_
    refine g_iload A1472 at_364 rfl (pc' := 366) rfl ?_
    refine g_bipush A1472 at_366 (v := (16 : Int32)) rfl (pc' := 368) rfl ?_
    refine g_iadd A1472 at_368 (pc' := 369) rfl ?_
    refine g_iloadN A1472 at_369 rfl (pc' := 370) rfl ?_
    refine g_i2d A1472 at_370 (pc' := 371) rfl ?_
    obtain ⟨cq1712, kq1712, q1712a, q1712b, q1712c⟩ := isOf hZ rfl E1466
    obtain ⟨vv1711, _, ⟨T1711, L1711, k1711, n1711⟩, -, X1711, ⟨L1711c, hQ1711, l1711, y1711, z1711⟩, st1711⟩ := X1454.virtualBack hx (y := (⟨"com/example/retinue/retinue/Matching$Pairs", "add", "(IID)V"⟩ : MethodName)) (z := (⟨"com/example/retinue/retinue/Matching$Pairs", "add", "(IID)V"⟩ : MethodName)) hown (mvT hZ (hw _ (List.mem_of_getElem? (i := 18) rfl))) (mvT hZ (hw _ (List.mem_of_getElem? (i := 19) rfl))) (notFace_of_selects (args := #[]) (mvT hZ (hw _ (List.mem_of_getElem? (i := 21) rfl)))) (mvT hZ (hw _ (List.mem_of_getElem? (i := 21) rfl))) (mvT hZ (hw _ (List.mem_of_getElem? (i := 20) rfl))) (by decide) (backOf (W := 0) (rmG l Z a0 hw [] a1092 (pp1086 + (16 : Int32)) (rr1087 + (16 : Int32)) (FP.i2d p3) wa1103 ta1104 da1105 (own_w pp1086) (own_w rr1087) (own_d p2 p3) T1454.heap n0 Z1470 E1466 F1458 F1459 F1460 F1461 V1462 V1463 V1464 g1093 ne1131 ne1134 ne1137 ne1121 ne1122 ne1123 rfl rfl rfl) hZ (hw _ (List.mem_of_getElem? (i := 22) rfl)) (hw _ (List.mem_of_getElem? (i := 3) rfl)) (by decide) (by decide)) q1712a q1712c (g := (mkF m 371 #[.val (.int p0), .val (.int p1), .val (.int p2), .val (.int p3), .val (.int pp1086), .val (.int rr1087), .val (.double (FP.i2d p2)), .second, .val (.int v1088), .val (.ref a1092), .unset, .unset, .unset, .unset, .unset, .unset] [(.double (FP.i2d p3)), (.int (rr1087 + (16 : Int32))), (.int (pp1086 + (16 : Int32))), (.ref a1092)])) rfl (by rw [hml]; rfl) (Steps.refl _) (argsL := [(.int (pp1086 + (16 : Int32))), (.int (rr1087 + (16 : Int32))), (.double (FP.i2d p3))]) (rest := []) (lenOf pd_6 rfl) rfl (by show 2 * 0 + _ ≤ _; exact Nat.le_of_eq rfl) (hb hby at_371) (fun _ _ => ⟨rfl, rfl, (by decide : 4 + 3 ≤ _), (by decide : 52 + 96 ≤ _)⟩)
    have hQ1711b : QG Z a1092 (pp1086 + (16 : Int32)) (rr1087 + (16 : Int32)) (FP.i2d p3) wa1103 ta1104 da1105 (own_w pp1086) (own_w rr1087) (own_d p2 p3) T1454.heap n0 vv1711 T1711.heap L1711c := hQ1711
    clear hQ1711
    dsimp only [Pt.U, Pt.locs, Pt.cells, Pt.slots] at X1711 l1711 y1711 z1711 st1711
    subst y1711 z1711
    obtain ⟨wb1713, tb1714, db1715, rfl, Nq1716, Kq1717, gx1718, gx1719, gx1720, F1721, F1722, F1723, F1724, V1725, V1726, V1727, ne1728, ne1729, ne1730⟩ := hQ1711b
    have N1731 : Fr n0 L1711 := by rw [l1711]; exact Fr.app N1465 Nq1716
    refine Go.tr (g' := (mkF m 374 #[.val (.int p0), .val (.int p1), .val (.int p2), .val (.int p3), .val (.int pp1086), .val (.int rr1087), .val (.double (FP.i2d p2)), .second, .val (.int v1088), .val (.ref a1092), .unset, .unset, .unset, .unset, .unset, .unset] [])) st1711 ?_
    have E1732 : Exa Z T1711.heap a1092 "com/example/retinue/retinue/Matching$Pairs" := Exa.keep E1466 Kq1717
    have E1733 : Exa Z T1711.heap wa1103 "[I" := Exa.keep E1467 Kq1717
    have E1734 : Exa Z T1711.heap ta1104 "[I" := Exa.keep E1468 Kq1717
    have E1735 : Exa Z T1711.heap da1105 "[D" := Exa.keep E1469 Kq1717
    have V1736 : Dar Z T1711.heap wa1103 .int 16 (fun t => .int ((own_pi (own_w pp1086) (15 + 1)) t)) := Dar.keep V1462 Kq1717 (ninS (Ne.symm ne1131) nin0)
    have V1737 : Dar Z T1711.heap ta1104 .int 16 (fun t => .int ((own_pi (own_w rr1087) (15 + 1)) t)) := Dar.keep V1463 Kq1717 (ninS (Ne.symm ne1134) nin0)
    have V1738 : Dar Z T1711.heap da1105 .double 16 (fun t => .double ((own_pd (own_d p2 p3) (15 + 1)) t)) := Dar.keep V1464 Kq1717 (ninS (Ne.symm ne1137) nin0)
    have Z1739 : n0 ≤ T1711.heap.size := Nat.le_trans Z1470 Kq1717.1
    have K1740 : Keep h0 T1711.heap [] := K1471.trans Kq1717 (allS (Or.inr gh1094) all0)
    have A1741 := (⟨X1711, hx, hby⟩ : Ax _ _ _ _ _ _ _ _ _ _ _ _ _ _ _)
    have g1742 : n0 ≤ wb1713 := Nat.le_trans Z1470 gx1718
    have gh1743 : h0.size ≤ wb1713 := Nat.le_trans K1471.1 gx1718
    have ne1744 : a1092 ≠ wb1713 := Nat.ne_of_lt (Nat.lt_of_lt_of_le E1466.lt gx1718)
    have ne1745 : da1105 ≠ wb1713 := Nat.ne_of_lt (Nat.lt_of_lt_of_le E1469.lt gx1718)
    have ne1746 : ta1104 ≠ wb1713 := Nat.ne_of_lt (Nat.lt_of_lt_of_le E1468.lt gx1718)
    have ne1747 : wa1103 ≠ wb1713 := Nat.ne_of_lt (Nat.lt_of_lt_of_le E1467.lt gx1718)
    have g1748 : n0 ≤ tb1714 := Nat.le_trans Z1470 gx1719
    have gh1749 : h0.size ≤ tb1714 := Nat.le_trans K1471.1 gx1719
    have ne1750 : a1092 ≠ tb1714 := Nat.ne_of_lt (Nat.lt_of_lt_of_le E1466.lt gx1719)
    have ne1751 : da1105 ≠ tb1714 := Nat.ne_of_lt (Nat.lt_of_lt_of_le E1469.lt gx1719)
    have ne1752 : ta1104 ≠ tb1714 := Nat.ne_of_lt (Nat.lt_of_lt_of_le E1468.lt gx1719)
    have ne1753 : wa1103 ≠ tb1714 := Nat.ne_of_lt (Nat.lt_of_lt_of_le E1467.lt gx1719)
    have g1754 : n0 ≤ db1715 := Nat.le_trans Z1470 gx1720
    have gh1755 : h0.size ≤ db1715 := Nat.le_trans K1471.1 gx1720
    have ne1756 : a1092 ≠ db1715 := Nat.ne_of_lt (Nat.lt_of_lt_of_le E1466.lt gx1720)
    have ne1757 : da1105 ≠ db1715 := Nat.ne_of_lt (Nat.lt_of_lt_of_le E1469.lt gx1720)
    have ne1758 : ta1104 ≠ db1715 := Nat.ne_of_lt (Nat.lt_of_lt_of_le E1468.lt gx1720)
    have ne1759 : wa1103 ≠ db1715 := Nat.ne_of_lt (Nat.lt_of_lt_of_le E1467.lt gx1720)
    refine g_iload A1741 at_374 rfl (pc' := 376) rfl ?_
    refine g_ifN A1741 at_376 (b0_eq_f hv1088 hc1473) (pc' := 379) rfl ?_
    refine g_bipush A1741 at_379 (v := (17 : Int32)) rfl (pc' := 381) rfl ?_
    refine g_goto A1741 at_381 (pc' := 386) rfl ?_
    refine g_istore A1741 at_386 (ls' := #[.val (.int p0), .val (.int p1), .val (.int p2), .val (.int p3), .val (.int pp1086), .val (.int rr1087), .val (.double (FP.i2d p2)), .second, .val (.int v1088), .val (.ref a1092), .val (.int (17 : Int32)), .unset, .unset, .unset, .unset, .unset]) rfl (pc' := 388) rfl ?_
    refine g_aload A1741 at_388 rfl rfl (pc' := 390) rfl ?_
    refine g_ldcI A1741 hZ hown (hw _ (List.mem_of_getElem? (i := 54) rfl)) at_390 (pc' := 392) rfl ?_
    refine g_ldcI A1741 hZ hown (hw _ (List.mem_of_getElem? (i := 54) rfl)) at_392 (pc' := 394) rfl ?_
    have hp1760 : ∀ t, t < 17 → ¬ (own_pi (own_w pp1086) 17) t < 0 ∧ (own_pi (own_w pp1086) 17) t < (2147483647 : Int32) := (own_rg30 p0 hpp1086 17 (by decide))
    have hp1761 : ∀ t, t < 17 → ¬ (own_pi (own_w rr1087) 17) t < 0 ∧ (own_pi (own_w rr1087) 17) t < (2147483647 : Int32) := (own_rg30 p1 hrr1087 17 (by decide))
    have hp1762 : ∀ t, t < 17 → Fin64 ((own_pd (own_d p2 p3) 17) t) := (own_df p2 p3 17 (by decide))
    obtain ⟨cq1764, kq1764, q1764a, q1764b, q1764c⟩ := isOf hZ rfl E1732
    obtain ⟨vv1763, _, ⟨T1763, L1763, k1763, n1763⟩, -, X1763, ⟨L1763c, hQ1763, l1763, y1763, z1763⟩, st1763⟩ := X1711.virtualBack hx (y := (⟨"com/example/retinue/retinue/Matching$Pairs", "batch", "(II)Lcom/example/retinue/retinue/Matching$Batch;"⟩ : MethodName)) (z := (⟨"com/example/retinue/retinue/Matching$Pairs", "batch", "(II)Lcom/example/retinue/retinue/Matching$Batch;"⟩ : MethodName)) hown (mvT hZ (hw _ (List.mem_of_getElem? (i := 55) rfl))) (mvT hZ (hw _ (List.mem_of_getElem? (i := 56) rfl))) (notFace_of_selects (args := #[]) (mvT hZ (hw _ (List.mem_of_getElem? (i := 58) rfl)))) (mvT hZ (hw _ (List.mem_of_getElem? (i := 58) rfl))) (mvT hZ (hw _ (List.mem_of_getElem? (i := 57) rfl))) (by decide) (backOf (W := 0) (rmT17 l Z a0 hw [] a1092 wb1713 tb1714 db1715 (own_w pp1086) (own_w rr1087) (own_d p2 p3) T1711.heap n0 Z1739 E1732 F1721 F1722 F1723 F1724 V1725 V1726 V1727 hp1760 hp1761 hp1762) hZ (hw _ (List.mem_of_getElem? (i := 59) rfl)) (hw _ (List.mem_of_getElem? (i := 3) rfl)) (by decide) (by decide)) q1764a q1764c (g := (mkF m 394 #[.val (.int p0), .val (.int p1), .val (.int p2), .val (.int p3), .val (.int pp1086), .val (.int rr1087), .val (.double (FP.i2d p2)), .second, .val (.int v1088), .val (.ref a1092), .val (.int (17 : Int32)), .unset, .unset, .unset, .unset, .unset] [(.int (2147483647 : Int32)), (.int (2147483647 : Int32)), (.ref a1092)])) rfl (by rw [hml]; rfl) (Steps.refl _) (argsL := [(.int (2147483647 : Int32)), (.int (2147483647 : Int32))]) (rest := []) (lenOf pd_7 rfl) rfl (by show 2 * 0 + _ ≤ _; exact Nat.le_of_eq rfl) (hb hby at_394) (fun _ _ => ⟨rfl, rfl, (by decide : 7 + 4 ≤ _), (by decide : 148 + 56 ≤ _)⟩)
    have hQ1763b : QT17 Z a1092 wb1713 tb1714 db1715 (own_w pp1086) (own_w rr1087) (own_d p2 p3) T1711.heap n0 vv1763 T1763.heap L1763c := hQ1763
    clear hQ1763
    dsimp only [Pt.U, Pt.locs, Pt.cells, Pt.slots] at X1763 l1763 y1763 z1763 st1763
    subst y1763 z1763
    obtain ⟨r1765, wb1766, tb1767, db1768, rfl, Nq1769, Kq1770, gx1771, E1772, F1773, F1774, F1775, V1776, V1777, V1778⟩ := hQ1763b
    have N1779 : Fr n0 L1763 := by rw [l1763]; exact Fr.app N1731 Nq1769
    refine Go.tr (g' := (mkF m 397 #[.val (.int p0), .val (.int p1), .val (.int p2), .val (.int p3), .val (.int pp1086), .val (.int rr1087), .val (.double (FP.i2d p2)), .second, .val (.int v1088), .val (.ref a1092), .val (.int (17 : Int32)), .unset, .unset, .unset, .unset, .unset] [(.ref r1765)])) st1763 ?_
    have E1780 : Exa Z T1763.heap a1092 "com/example/retinue/retinue/Matching$Pairs" := Exa.keep E1732 Kq1770
    have E1781 : Exa Z T1763.heap wa1103 "[I" := Exa.keep E1733 Kq1770
    have E1782 : Exa Z T1763.heap ta1104 "[I" := Exa.keep E1734 Kq1770
    have E1783 : Exa Z T1763.heap da1105 "[D" := Exa.keep E1735 Kq1770
    have V1784 : Dar Z T1763.heap wa1103 .int 16 (fun t => .int ((own_pi (own_w pp1086) (15 + 1)) t)) := Dar.keep V1736 Kq1770 nin0
    have V1785 : Dar Z T1763.heap ta1104 .int 16 (fun t => .int ((own_pi (own_w rr1087) (15 + 1)) t)) := Dar.keep V1737 Kq1770 nin0
    have V1786 : Dar Z T1763.heap da1105 .double 16 (fun t => .double ((own_pd (own_d p2 p3) (15 + 1)) t)) := Dar.keep V1738 Kq1770 nin0
    have F1787 : Fld Z T1763.heap a1092 "com/example/retinue/retinue/Matching$Pairs" "worker" "[I" (.ref wb1713) := Fld.keep F1721 Kq1770 nin0
    have F1788 : Fld Z T1763.heap a1092 "com/example/retinue/retinue/Matching$Pairs" "task" "[I" (.ref tb1714) := Fld.keep F1722 Kq1770 nin0
    have F1789 : Fld Z T1763.heap a1092 "com/example/retinue/retinue/Matching$Pairs" "weight" "[D" (.ref db1715) := Fld.keep F1723 Kq1770 nin0
    have F1790 : Fld Z T1763.heap a1092 "com/example/retinue/retinue/Matching$Pairs" "count" "I" (.int (17 : Int32)) := Fld.keep F1724 Kq1770 nin0
    have V1791 : Dar Z T1763.heap wb1713 .int 32 (fun t => .int ((own_pi (own_w pp1086) 17) t)) := Dar.keep V1725 Kq1770 nin0
    have V1792 : Dar Z T1763.heap tb1714 .int 32 (fun t => .int ((own_pi (own_w rr1087) 17) t)) := Dar.keep V1726 Kq1770 nin0
    have V1793 : Dar Z T1763.heap db1715 .double 32 (fun t => .double ((own_pd (own_d p2 p3) 17) t)) := Dar.keep V1727 Kq1770 nin0
    have Z1794 : n0 ≤ T1763.heap.size := Nat.le_trans Z1739 Kq1770.1
    have K1795 : Keep h0 T1763.heap [] := K1740.trans Kq1770 all0
    have A1796 := (⟨X1763, hx, hby⟩ : Ax _ _ _ _ _ _ _ _ _ _ _ _ _ _ _)
    have g1797 : n0 ≤ r1765 := Nat.le_trans Z1739 gx1771
    have gh1798 : h0.size ≤ r1765 := Nat.le_trans K1740.1 gx1771
    have ne1799 : a1092 ≠ r1765 := Nat.ne_of_lt (Nat.lt_of_lt_of_le E1732.lt gx1771)
    have ne1800 : da1105 ≠ r1765 := Nat.ne_of_lt (Nat.lt_of_lt_of_le E1735.lt gx1771)
    have ne1801 : db1715 ≠ r1765 := Nat.ne_of_lt (Nat.lt_of_lt_of_le V1727.lt gx1771)
    have ne1802 : ta1104 ≠ r1765 := Nat.ne_of_lt (Nat.lt_of_lt_of_le E1734.lt gx1771)
    have ne1803 : tb1714 ≠ r1765 := Nat.ne_of_lt (Nat.lt_of_lt_of_le V1726.lt gx1771)
    have ne1804 : wa1103 ≠ r1765 := Nat.ne_of_lt (Nat.lt_of_lt_of_le E1733.lt gx1771)
    have ne1805 : wb1713 ≠ r1765 := Nat.ne_of_lt (Nat.lt_of_lt_of_le V1725.lt gx1771)
    refine g_astore A1796 at_397 rfl (ls' := #[.val (.int p0), .val (.int p1), .val (.int p2), .val (.int p3), .val (.int pp1086), .val (.int rr1087), .val (.double (FP.i2d p2)), .second, .val (.int v1088), .val (.ref a1092), .val (.int (17 : Int32)), .val (.ref r1765), .unset, .unset, .unset, .unset]) rfl (pc' := 399) rfl ?_
    refine g_aload A1796 at_399 rfl rfl (pc' := 401) rfl ?_
    obtain ⟨cq1807, kq1807, q1807a, q1807b, q1807c⟩ := isOf hZ rfl E1772
    obtain ⟨vv1806, _, ⟨T1806, L1806, k1806, n1806⟩, -, X1806, ⟨L1806c, hQ1806, l1806, y1806, z1806⟩, st1806⟩ := X1763.virtualBack hx (y := (⟨"com/example/retinue/retinue/Matching$Batch", "worker", "()[I"⟩ : MethodName)) (z := (⟨"com/example/retinue/retinue/Matching$Batch", "worker", "()[I"⟩ : MethodName)) hown (mvT hZ (hw _ (List.mem_of_getElem? (i := 90) rfl))) (mvT hZ (hw _ (List.mem_of_getElem? (i := 91) rfl))) (notFace_of_selects (args := #[]) (mvT hZ (hw _ (List.mem_of_getElem? (i := 93) rfl)))) (mvT hZ (hw _ (List.mem_of_getElem? (i := 93) rfl))) (mvT hZ (hw _ (List.mem_of_getElem? (i := 92) rfl))) (by decide) (backOf (W := 0) (rm12 l Z a0 hw [] r1765 wb1766 T1763.heap n0 Z1794 F1773) hZ (hw _ (List.mem_of_getElem? (i := 94) rfl)) (hw _ (List.mem_of_getElem? (i := 62) rfl)) (by decide) (by decide)) q1807a q1807c (g := (mkF m 401 #[.val (.int p0), .val (.int p1), .val (.int p2), .val (.int p3), .val (.int pp1086), .val (.int rr1087), .val (.double (FP.i2d p2)), .second, .val (.int v1088), .val (.ref a1092), .val (.int (17 : Int32)), .val (.ref r1765), .unset, .unset, .unset, .unset] [(.ref r1765)])) rfl (by rw [hml]; rfl) (Steps.refl _) (argsL := []) (rest := []) (lenOf pd_8 rfl) rfl (by show 2 * 0 + _ ≤ _; exact Nat.le_of_eq rfl) (hb hby at_401) (fun _ _ => ⟨rfl, rfl, (by decide : 11 + 0 ≤ _), (by decide : 204 + 0 ≤ _)⟩)
    have hQ1806b : Q12 Z r1765 wb1766 T1763.heap n0 vv1806 T1806.heap L1806c := hQ1806
    clear hQ1806
    dsimp only [Pt.U, Pt.locs, Pt.cells, Pt.slots] at X1806 l1806 y1806 z1806 st1806
    subst y1806 z1806
    obtain ⟨rfl, Nq1808, Kq1809⟩ := hQ1806b
    have N1810 : Fr n0 L1806 := by rw [l1806]; exact Fr.app N1779 Nq1808
    refine Go.tr (g' := (mkF m 404 #[.val (.int p0), .val (.int p1), .val (.int p2), .val (.int p3), .val (.int pp1086), .val (.int rr1087), .val (.double (FP.i2d p2)), .second, .val (.int v1088), .val (.ref a1092), .val (.int (17 : Int32)), .val (.ref r1765), .unset, .unset, .unset, .unset] [(.ref wb1766)])) st1806 ?_
    have e1811 : T1806.heap = T1763.heap := Kq1809
    have A1812 := (⟨X1806, hx, hby⟩ : Ax _ _ _ _ _ _ _ _ _ _ _ _ _ _ _)
    refine g_astore A1812 at_404 rfl (ls' := #[.val (.int p0), .val (.int p1), .val (.int p2), .val (.int p3), .val (.int pp1086), .val (.int rr1087), .val (.double (FP.i2d p2)), .second, .val (.int v1088), .val (.ref a1092), .val (.int (17 : Int32)), .val (.ref r1765), .val (.ref wb1766), .unset, .unset, .unset]) rfl (pc' := 406) rfl ?_
    refine g_aload A1812 at_406 rfl rfl (pc' := 408) rfl ?_
    obtain ⟨cq1814, kq1814, q1814a, q1814b, q1814c⟩ := isOf hZ e1811 E1772
    obtain ⟨vv1813, _, ⟨T1813, L1813, k1813, n1813⟩, -, X1813, ⟨L1813c, hQ1813, l1813, y1813, z1813⟩, st1813⟩ := X1806.virtualBack hx (y := (⟨"com/example/retinue/retinue/Matching$Batch", "task", "()[I"⟩ : MethodName)) (z := (⟨"com/example/retinue/retinue/Matching$Batch", "task", "()[I"⟩ : MethodName)) hown (mvT hZ (hw _ (List.mem_of_getElem? (i := 95) rfl))) (mvT hZ (hw _ (List.mem_of_getElem? (i := 96) rfl))) (notFace_of_selects (args := #[]) (mvT hZ (hw _ (List.mem_of_getElem? (i := 98) rfl)))) (mvT hZ (hw _ (List.mem_of_getElem? (i := 98) rfl))) (mvT hZ (hw _ (List.mem_of_getElem? (i := 97) rfl))) (by decide) (backOf (W := 0) (rm13 l Z a0 hw [] r1765 tb1767 T1763.heap n0 Z1794 F1774) hZ (hw _ (List.mem_of_getElem? (i := 99) rfl)) (hw _ (List.mem_of_getElem? (i := 62) rfl)) (by decide) (by decide)) q1814a q1814c (g := (mkF m 408 #[.val (.int p0), .val (.int p1), .val (.int p2), .val (.int p3), .val (.int pp1086), .val (.int rr1087), .val (.double (FP.i2d p2)), .second, .val (.int v1088), .val (.ref a1092), .val (.int (17 : Int32)), .val (.ref r1765), .val (.ref wb1766), .unset, .unset, .unset] [(.ref r1765)])) rfl (by rw [hml]; rfl) (Steps.refl _) (argsL := []) (rest := []) (lenOf pd_8 rfl) rfl (by show 2 * 0 + _ ≤ _; exact Nat.le_of_eq rfl) (hb hby at_408) (fun _ _ => ⟨rfl, e1811, (by decide : 11 + 0 ≤ _), (by decide : 204 + 0 ≤ _)⟩)
    have hQ1813b : Q13 Z r1765 tb1767 T1763.heap n0 vv1813 T1813.heap L1813c := hQ1813
    clear hQ1813
    dsimp only [Pt.U, Pt.locs, Pt.cells, Pt.slots] at X1813 l1813 y1813 z1813 st1813
    subst y1813 z1813
    obtain ⟨rfl, Nq1815, Kq1816⟩ := hQ1813b
    have N1817 : Fr n0 L1813 := by rw [l1813]; exact Fr.app N1810 Nq1815
    refine Go.tr (g' := (mkF m 411 #[.val (.int p0), .val (.int p1), .val (.int p2), .val (.int p3), .val (.int pp1086), .val (.int rr1087), .val (.double (FP.i2d p2)), .second, .val (.int v1088), .val (.ref a1092), .val (.int (17 : Int32)), .val (.ref r1765), .val (.ref wb1766), .unset, .unset, .unset] [(.ref tb1767)])) st1813 ?_
    have e1818 : T1813.heap = T1763.heap := Kq1816
    have A1819 := (⟨X1813, hx, hby⟩ : Ax _ _ _ _ _ _ _ _ _ _ _ _ _ _ _)
    refine g_astore A1819 at_411 rfl (ls' := #[.val (.int p0), .val (.int p1), .val (.int p2), .val (.int p3), .val (.int pp1086), .val (.int rr1087), .val (.double (FP.i2d p2)), .second, .val (.int v1088), .val (.ref a1092), .val (.int (17 : Int32)), .val (.ref r1765), .val (.ref wb1766), .val (.ref tb1767), .unset, .unset]) rfl (pc' := 413) rfl ?_
    refine g_aload A1819 at_413 rfl rfl (pc' := 415) rfl ?_
    obtain ⟨cq1821, kq1821, q1821a, q1821b, q1821c⟩ := isOf hZ e1818 E1772
    obtain ⟨vv1820, _, ⟨T1820, L1820, k1820, n1820⟩, -, X1820, ⟨L1820c, hQ1820, l1820, y1820, z1820⟩, st1820⟩ := X1813.virtualBack hx (y := (⟨"com/example/retinue/retinue/Matching$Batch", "weight", "()[D"⟩ : MethodName)) (z := (⟨"com/example/retinue/retinue/Matching$Batch", "weight", "()[D"⟩ : MethodName)) hown (mvT hZ (hw _ (List.mem_of_getElem? (i := 100) rfl))) (mvT hZ (hw _ (List.mem_of_getElem? (i := 101) rfl))) (notFace_of_selects (args := #[]) (mvT hZ (hw _ (List.mem_of_getElem? (i := 103) rfl)))) (mvT hZ (hw _ (List.mem_of_getElem? (i := 103) rfl))) (mvT hZ (hw _ (List.mem_of_getElem? (i := 102) rfl))) (by decide) (backOf (W := 0) (rm14 l Z a0 hw [] r1765 db1768 T1763.heap n0 Z1794 F1775) hZ (hw _ (List.mem_of_getElem? (i := 104) rfl)) (hw _ (List.mem_of_getElem? (i := 62) rfl)) (by decide) (by decide)) q1821a q1821c (g := (mkF m 415 #[.val (.int p0), .val (.int p1), .val (.int p2), .val (.int p3), .val (.int pp1086), .val (.int rr1087), .val (.double (FP.i2d p2)), .second, .val (.int v1088), .val (.ref a1092), .val (.int (17 : Int32)), .val (.ref r1765), .val (.ref wb1766), .val (.ref tb1767), .unset, .unset] [(.ref r1765)])) rfl (by rw [hml]; rfl) (Steps.refl _) (argsL := []) (rest := []) (lenOf pd_9 rfl) rfl (by show 2 * 0 + _ ≤ _; exact Nat.le_of_eq rfl) (hb hby at_415) (fun _ _ => ⟨rfl, e1818, (by decide : 11 + 0 ≤ _), (by decide : 204 + 0 ≤ _)⟩)
    have hQ1820b : Q14 Z r1765 db1768 T1763.heap n0 vv1820 T1820.heap L1820c := hQ1820
    clear hQ1820
    dsimp only [Pt.U, Pt.locs, Pt.cells, Pt.slots] at X1820 l1820 y1820 z1820 st1820
    subst y1820 z1820
    obtain ⟨rfl, Nq1822, Kq1823⟩ := hQ1820b
    have N1824 : Fr n0 L1820 := by rw [l1820]; exact Fr.app N1817 Nq1822
    refine Go.tr (g' := (mkF m 418 #[.val (.int p0), .val (.int p1), .val (.int p2), .val (.int p3), .val (.int pp1086), .val (.int rr1087), .val (.double (FP.i2d p2)), .second, .val (.int v1088), .val (.ref a1092), .val (.int (17 : Int32)), .val (.ref r1765), .val (.ref wb1766), .val (.ref tb1767), .unset, .unset] [(.ref db1768)])) st1820 ?_
    have e1825 : T1820.heap = T1763.heap := Kq1823
    have A1826 := (⟨X1820, hx, hby⟩ : Ax _ _ _ _ _ _ _ _ _ _ _ _ _ _ _)
    refine g_astore A1826 at_418 rfl (ls' := #[.val (.int p0), .val (.int p1), .val (.int p2), .val (.int p3), .val (.int pp1086), .val (.int rr1087), .val (.double (FP.i2d p2)), .second, .val (.int v1088), .val (.ref a1092), .val (.int (17 : Int32)), .val (.ref r1765), .val (.ref wb1766), .val (.ref tb1767), .val (.ref db1768), .unset]) rfl (pc' := 420) rfl ?_
    refine g_aload A1826 at_420 rfl rfl (pc' := 422) rfl ?_
    refine g_alen A1826 hZ e1825 V1776 at_422 (z := (17 : Int32)) rfl (pc' := 423) rfl ?_
    refine g_iload A1826 at_423 rfl (pc' := 425) rfl ?_
    refine g_icN A1826 at_425 (c2_ne_f rfl) (pc' := 428) rfl ?_
    refine g_aload A1826 at_428 rfl rfl (pc' := 430) rfl ?_
    refine g_alen A1826 hZ e1825 V1777 at_430 (z := (17 : Int32)) rfl (pc' := 431) rfl ?_
    refine g_iload A1826 at_431 rfl (pc' := 433) rfl ?_
    refine g_icN A1826 at_433 (c2_ne_f rfl) (pc' := 436) rfl ?_
    refine g_aload A1826 at_436 rfl rfl (pc' := 438) rfl ?_
    refine g_alen A1826 hZ e1825 V1778 at_438 (z := (17 : Int32)) rfl (pc' := 439) rfl ?_
    refine g_iload A1826 at_439 rfl (pc' := 441) rfl ?_
    refine g_icY A1826 at_441 (c2_eq_t rfl) (pc' := 446) rfl ?_
    refine g_aload A1826 at_446 rfl rfl (pc' := 448) rfl ?_
    refine g_aload A1826 at_448 rfl rfl (pc' := 450) rfl ?_
    refine g_aload A1826 at_450 rfl rfl (pc' := 452) rfl ?_
    refine g_iconst A1826 at_452 (v := (0 : Int32)) rfl (pc' := 453) rfl ?_
    refine g_iload A1826 at_453 rfl (pc' := 455) rfl ?_
    refine g_iload A1826 at_455 rfl (pc' := 457) rfl ?_
    refine g_dload A1826 at_457 rfl (pc' := 459) rfl ?_
    have hp1827 : 0 < 17 := (by decide)
    have hp1828 : ((own_pi (own_w pp1086) 17) 0) = (pp1086 + (Int32.ofNat 0)) := (own_we (by decide))
    have hp1829 : ((own_pi (own_w rr1087) 17) 0) = (rr1087 + (Int32.ofNat 0)) := (own_we (by decide))
    have hp1830 : FP.dcmp ((own_pd (own_d p2 p3) 17) 0) (FP.dadd (FP.i2d p2) (FP.i2d (Int32.ofNat 0))) = some .eq := (own_de (by decide) (by decide))
    have hp1831 : Fin64 (FP.i2d p2) := (i2d_fin p2)
    obtain ⟨vv1832, _, ⟨T1832, L1832, k1832, n1832⟩, -, X1832, ⟨L1832c, hQ1832, l1832, y1832, z1832⟩, st1832⟩ := Jvm.LawKit.callS X1820 hx (y := (⟨"com/example/retinue/retinue/PairsAddPinLaw", "at", "([I[I[DIIID)Z"⟩ : MethodName)) hown (mvT hZ (hw _ (List.mem_of_getElem? (i := 105) rfl))) (mvT hZ (hw _ (List.mem_of_getElem? (i := 106) rfl))) (mvT hZ (hw _ (List.mem_of_getElem? (i := 107) rfl))) (mvT hZ (hw _ (List.mem_of_getElem? (i := 108) rfl))) (by decide) (backOf (W := 0) (rm15 l Z a0 hw [] wb1766 tb1767 db1768 0 pp1086 rr1087 (FP.i2d p2) 17 (fun t => .int ((own_pi (own_w pp1086) 17) t)) (fun t => .int ((own_pi (own_w rr1087) 17) t)) (fun t => .double ((own_pd (own_d p2 p3) 17) t)) ((own_pi (own_w pp1086) 17) 0) ((own_pi (own_w rr1087) 17) 0) ((own_pd (own_d p2 p3) 17) 0) T1763.heap n0 Z1794 V1776 V1777 V1778 hp1827 rfl rfl rfl hp1828 hp1829 hp1830 hp1831) hZ (hw _ (List.mem_of_getElem? (i := 108) rfl)) (hw _ (List.mem_of_getElem? (i := 107) rfl)) (by decide) (by decide)) (g := (mkF m 459 #[.val (.int p0), .val (.int p1), .val (.int p2), .val (.int p3), .val (.int pp1086), .val (.int rr1087), .val (.double (FP.i2d p2)), .second, .val (.int v1088), .val (.ref a1092), .val (.int (17 : Int32)), .val (.ref r1765), .val (.ref wb1766), .val (.ref tb1767), .val (.ref db1768), .unset] [(.double (FP.i2d p2)), (.int rr1087), (.int pp1086), (.int (0 : Int32)), (.ref db1768), (.ref tb1767), (.ref wb1766)])) rfl (by rw [hml]; rfl) (argsL := [(.ref wb1766), (.ref tb1767), (.ref db1768), (.int (0 : Int32)), (.int pp1086), (.int rr1087), (.double (FP.i2d p2))]) (rest := []) (lenOf pd_10 rfl) rfl (by show 2 * 0 + _ ≤ _; exact Nat.le_of_eq rfl) (hb hby at_459) (fun _ _ => ⟨rfl, e1825, (by decide : 11 + 0 ≤ _), (by decide : 204 + 0 ≤ _)⟩)
    have hQ1832b : Q15 Z wb1766 tb1767 db1768 0 pp1086 rr1087 (FP.i2d p2) 17 (fun t => .int ((own_pi (own_w pp1086) 17) t)) (fun t => .int ((own_pi (own_w rr1087) 17) t)) (fun t => .double ((own_pd (own_d p2 p3) 17) t)) ((own_pi (own_w pp1086) 17) 0) ((own_pi (own_w rr1087) 17) 0) ((own_pd (own_d p2 p3) 17) 0) T1763.heap n0 vv1832 T1832.heap L1832c := hQ1832
    clear hQ1832
    dsimp only [Pt.U, Pt.locs, Pt.cells, Pt.slots] at X1832 l1832 y1832 z1832 st1832
    subst y1832 z1832
    obtain ⟨rfl, Nq1833, Kq1834⟩ := hQ1832b
    have N1835 : Fr n0 L1832 := by rw [l1832]; exact Fr.app N1824 Nq1833
    refine Go.of (g' := (mkF m 462 #[.val (.int p0), .val (.int p1), .val (.int p2), .val (.int p3), .val (.int pp1086), .val (.int rr1087), .val (.double (FP.i2d p2)), .second, .val (.int v1088), .val (.ref a1092), .val (.int (17 : Int32)), .val (.ref r1765), .val (.ref wb1766), .val (.ref tb1767), .val (.ref db1768), .unset] [(.int (1 : Int32))])) st1832 ?_
    have e1836 : T1832.heap = T1763.heap := Kq1834
    have A1837 := (⟨X1832, hx, hby⟩ : Ax _ _ _ _ _ _ _ _ _ _ _ _ _ _ _)
    refine g_ifN A1837 at_462 (c0_eq_f (by decide)) (pc' := 465) rfl ?_
    refine g_aload A1837 at_465 rfl rfl (pc' := 467) rfl ?_
    refine g_aload A1837 at_467 rfl rfl (pc' := 469) rfl ?_
    refine g_aload A1837 at_469 rfl rfl (pc' := 471) rfl ?_
    refine g_iconst A1837 at_471 (v := (1 : Int32)) rfl (pc' := 472) rfl ?_
    refine g_iload A1837 at_472 rfl (pc' := 474) rfl ?_
    refine g_iload A1837 at_474 rfl (pc' := 476) rfl ?_
    refine g_dload A1837 at_476 rfl (pc' := 478) rfl ?_
    have hp1838 : 1 < 17 := (by decide)
    have hp1839 : ((own_pi (own_w pp1086) 17) 1) = (pp1086 + (Int32.ofNat 1)) := (own_we (by decide))
    have hp1840 : ((own_pi (own_w rr1087) 17) 1) = (rr1087 + (Int32.ofNat 1)) := (own_we (by decide))
    have hp1841 : FP.dcmp ((own_pd (own_d p2 p3) 17) 1) (FP.dadd (FP.i2d p2) (FP.i2d (Int32.ofNat 1))) = some .eq := (own_de (by decide) (by decide))
    have hp1842 : Fin64 (FP.i2d p2) := (i2d_fin p2)
    obtain ⟨vv1843, _, ⟨T1843, L1843, k1843, n1843⟩, -, X1843, ⟨L1843c, hQ1843, l1843, y1843, z1843⟩, st1843⟩ := Jvm.LawKit.callS X1832 hx (y := (⟨"com/example/retinue/retinue/PairsAddPinLaw", "at", "([I[I[DIIID)Z"⟩ : MethodName)) hown (mvT hZ (hw _ (List.mem_of_getElem? (i := 105) rfl))) (mvT hZ (hw _ (List.mem_of_getElem? (i := 106) rfl))) (mvT hZ (hw _ (List.mem_of_getElem? (i := 107) rfl))) (mvT hZ (hw _ (List.mem_of_getElem? (i := 108) rfl))) (by decide) (backOf (W := 0) (rm15 l Z a0 hw [] wb1766 tb1767 db1768 1 pp1086 rr1087 (FP.i2d p2) 17 (fun t => .int ((own_pi (own_w pp1086) 17) t)) (fun t => .int ((own_pi (own_w rr1087) 17) t)) (fun t => .double ((own_pd (own_d p2 p3) 17) t)) ((own_pi (own_w pp1086) 17) 1) ((own_pi (own_w rr1087) 17) 1) ((own_pd (own_d p2 p3) 17) 1) T1763.heap n0 Z1794 V1776 V1777 V1778 hp1838 rfl rfl rfl hp1839 hp1840 hp1841 hp1842) hZ (hw _ (List.mem_of_getElem? (i := 108) rfl)) (hw _ (List.mem_of_getElem? (i := 107) rfl)) (by decide) (by decide)) (g := (mkF m 478 #[.val (.int p0), .val (.int p1), .val (.int p2), .val (.int p3), .val (.int pp1086), .val (.int rr1087), .val (.double (FP.i2d p2)), .second, .val (.int v1088), .val (.ref a1092), .val (.int (17 : Int32)), .val (.ref r1765), .val (.ref wb1766), .val (.ref tb1767), .val (.ref db1768), .unset] [(.double (FP.i2d p2)), (.int rr1087), (.int pp1086), (.int (1 : Int32)), (.ref db1768), (.ref tb1767), (.ref wb1766)])) rfl (by rw [hml]; rfl) (argsL := [(.ref wb1766), (.ref tb1767), (.ref db1768), (.int (1 : Int32)), (.int pp1086), (.int rr1087), (.double (FP.i2d p2))]) (rest := []) (lenOf pd_10 rfl) rfl (by show 2 * 0 + _ ≤ _; exact Nat.le_of_eq rfl) (hb hby at_478) (fun _ _ => ⟨rfl, e1836, (by decide : 11 + 0 ≤ _), (by decide : 204 + 0 ≤ _)⟩)
    have hQ1843b : Q15 Z wb1766 tb1767 db1768 1 pp1086 rr1087 (FP.i2d p2) 17 (fun t => .int ((own_pi (own_w pp1086) 17) t)) (fun t => .int ((own_pi (own_w rr1087) 17) t)) (fun t => .double ((own_pd (own_d p2 p3) 17) t)) ((own_pi (own_w pp1086) 17) 1) ((own_pi (own_w rr1087) 17) 1) ((own_pd (own_d p2 p3) 17) 1) T1763.heap n0 vv1843 T1843.heap L1843c := hQ1843
    clear hQ1843
    dsimp only [Pt.U, Pt.locs, Pt.cells, Pt.slots] at X1843 l1843 y1843 z1843 st1843
    subst y1843 z1843
    obtain ⟨rfl, Nq1844, Kq1845⟩ := hQ1843b
    have N1846 : Fr n0 L1843 := by rw [l1843]; exact Fr.app N1835 Nq1844
    refine Go.of (g' := (mkF m 481 #[.val (.int p0), .val (.int p1), .val (.int p2), .val (.int p3), .val (.int pp1086), .val (.int rr1087), .val (.double (FP.i2d p2)), .second, .val (.int v1088), .val (.ref a1092), .val (.int (17 : Int32)), .val (.ref r1765), .val (.ref wb1766), .val (.ref tb1767), .val (.ref db1768), .unset] [(.int (1 : Int32))])) st1843 ?_
    have e1847 : T1843.heap = T1763.heap := Kq1845
    have A1848 := (⟨X1843, hx, hby⟩ : Ax _ _ _ _ _ _ _ _ _ _ _ _ _ _ _)
    refine g_ifN A1848 at_481 (c0_eq_f (by decide)) (pc' := 484) rfl ?_
    refine g_aload A1848 at_484 rfl rfl (pc' := 486) rfl ?_
    refine g_aload A1848 at_486 rfl rfl (pc' := 488) rfl ?_
    refine g_aload A1848 at_488 rfl rfl (pc' := 490) rfl ?_
    refine g_iconst A1848 at_490 (v := (2 : Int32)) rfl (pc' := 491) rfl ?_
    refine g_iload A1848 at_491 rfl (pc' := 493) rfl ?_
    refine g_iload A1848 at_493 rfl (pc' := 495) rfl ?_
    refine g_dload A1848 at_495 rfl (pc' := 497) rfl ?_
    have hp1849 : 2 < 17 := (by decide)
    have hp1850 : ((own_pi (own_w pp1086) 17) 2) = (pp1086 + (Int32.ofNat 2)) := (own_we (by decide))
    have hp1851 : ((own_pi (own_w rr1087) 17) 2) = (rr1087 + (Int32.ofNat 2)) := (own_we (by decide))
    have hp1852 : FP.dcmp ((own_pd (own_d p2 p3) 17) 2) (FP.dadd (FP.i2d p2) (FP.i2d (Int32.ofNat 2))) = some .eq := (own_de (by decide) (by decide))
    have hp1853 : Fin64 (FP.i2d p2) := (i2d_fin p2)
    obtain ⟨vv1854, _, ⟨T1854, L1854, k1854, n1854⟩, -, X1854, ⟨L1854c, hQ1854, l1854, y1854, z1854⟩, st1854⟩ := Jvm.LawKit.callS X1843 hx (y := (⟨"com/example/retinue/retinue/PairsAddPinLaw", "at", "([I[I[DIIID)Z"⟩ : MethodName)) hown (mvT hZ (hw _ (List.mem_of_getElem? (i := 105) rfl))) (mvT hZ (hw _ (List.mem_of_getElem? (i := 106) rfl))) (mvT hZ (hw _ (List.mem_of_getElem? (i := 107) rfl))) (mvT hZ (hw _ (List.mem_of_getElem? (i := 108) rfl))) (by decide) (backOf (W := 0) (rm15 l Z a0 hw [] wb1766 tb1767 db1768 2 pp1086 rr1087 (FP.i2d p2) 17 (fun t => .int ((own_pi (own_w pp1086) 17) t)) (fun t => .int ((own_pi (own_w rr1087) 17) t)) (fun t => .double ((own_pd (own_d p2 p3) 17) t)) ((own_pi (own_w pp1086) 17) 2) ((own_pi (own_w rr1087) 17) 2) ((own_pd (own_d p2 p3) 17) 2) T1763.heap n0 Z1794 V1776 V1777 V1778 hp1849 rfl rfl rfl hp1850 hp1851 hp1852 hp1853) hZ (hw _ (List.mem_of_getElem? (i := 108) rfl)) (hw _ (List.mem_of_getElem? (i := 107) rfl)) (by decide) (by decide)) (g := (mkF m 497 #[.val (.int p0), .val (.int p1), .val (.int p2), .val (.int p3), .val (.int pp1086), .val (.int rr1087), .val (.double (FP.i2d p2)), .second, .val (.int v1088), .val (.ref a1092), .val (.int (17 : Int32)), .val (.ref r1765), .val (.ref wb1766), .val (.ref tb1767), .val (.ref db1768), .unset] [(.double (FP.i2d p2)), (.int rr1087), (.int pp1086), (.int (2 : Int32)), (.ref db1768), (.ref tb1767), (.ref wb1766)])) rfl (by rw [hml]; rfl) (argsL := [(.ref wb1766), (.ref tb1767), (.ref db1768), (.int (2 : Int32)), (.int pp1086), (.int rr1087), (.double (FP.i2d p2))]) (rest := []) (lenOf pd_10 rfl) rfl (by show 2 * 0 + _ ≤ _; exact Nat.le_of_eq rfl) (hb hby at_497) (fun _ _ => ⟨rfl, e1847, (by decide : 11 + 0 ≤ _), (by decide : 204 + 0 ≤ _)⟩)
    have hQ1854b : Q15 Z wb1766 tb1767 db1768 2 pp1086 rr1087 (FP.i2d p2) 17 (fun t => .int ((own_pi (own_w pp1086) 17) t)) (fun t => .int ((own_pi (own_w rr1087) 17) t)) (fun t => .double ((own_pd (own_d p2 p3) 17) t)) ((own_pi (own_w pp1086) 17) 2) ((own_pi (own_w rr1087) 17) 2) ((own_pd (own_d p2 p3) 17) 2) T1763.heap n0 vv1854 T1854.heap L1854c := hQ1854
    clear hQ1854
    dsimp only [Pt.U, Pt.locs, Pt.cells, Pt.slots] at X1854 l1854 y1854 z1854 st1854
    subst y1854 z1854
    obtain ⟨rfl, Nq1855, Kq1856⟩ := hQ1854b
    have N1857 : Fr n0 L1854 := by rw [l1854]; exact Fr.app N1846 Nq1855
    refine Go.of (g' := (mkF m 500 #[.val (.int p0), .val (.int p1), .val (.int p2), .val (.int p3), .val (.int pp1086), .val (.int rr1087), .val (.double (FP.i2d p2)), .second, .val (.int v1088), .val (.ref a1092), .val (.int (17 : Int32)), .val (.ref r1765), .val (.ref wb1766), .val (.ref tb1767), .val (.ref db1768), .unset] [(.int (1 : Int32))])) st1854 ?_
    have e1858 : T1854.heap = T1763.heap := Kq1856
    have A1859 := (⟨X1854, hx, hby⟩ : Ax _ _ _ _ _ _ _ _ _ _ _ _ _ _ _)
    refine g_ifN A1859 at_500 (c0_eq_f (by decide)) (pc' := 503) rfl ?_
    refine g_aload A1859 at_503 rfl rfl (pc' := 505) rfl ?_
    refine g_aload A1859 at_505 rfl rfl (pc' := 507) rfl ?_
    refine g_aload A1859 at_507 rfl rfl (pc' := 509) rfl ?_
    refine g_iconst A1859 at_509 (v := (3 : Int32)) rfl (pc' := 510) rfl ?_
    refine g_iload A1859 at_510 rfl (pc' := 512) rfl ?_
    refine g_iload A1859 at_512 rfl (pc' := 514) rfl ?_
    refine g_dload A1859 at_514 rfl (pc' := 516) rfl ?_
    have hp1860 : 3 < 17 := (by decide)
    have hp1861 : ((own_pi (own_w pp1086) 17) 3) = (pp1086 + (Int32.ofNat 3)) := (own_we (by decide))
    have hp1862 : ((own_pi (own_w rr1087) 17) 3) = (rr1087 + (Int32.ofNat 3)) := (own_we (by decide))
    have hp1863 : FP.dcmp ((own_pd (own_d p2 p3) 17) 3) (FP.dadd (FP.i2d p2) (FP.i2d (Int32.ofNat 3))) = some .eq := (own_de (by decide) (by decide))
    have hp1864 : Fin64 (FP.i2d p2) := (i2d_fin p2)
    obtain ⟨vv1865, _, ⟨T1865, L1865, k1865, n1865⟩, -, X1865, ⟨L1865c, hQ1865, l1865, y1865, z1865⟩, st1865⟩ := Jvm.LawKit.callS X1854 hx (y := (⟨"com/example/retinue/retinue/PairsAddPinLaw", "at", "([I[I[DIIID)Z"⟩ : MethodName)) hown (mvT hZ (hw _ (List.mem_of_getElem? (i := 105) rfl))) (mvT hZ (hw _ (List.mem_of_getElem? (i := 106) rfl))) (mvT hZ (hw _ (List.mem_of_getElem? (i := 107) rfl))) (mvT hZ (hw _ (List.mem_of_getElem? (i := 108) rfl))) (by decide) (backOf (W := 0) (rm15 l Z a0 hw [] wb1766 tb1767 db1768 3 pp1086 rr1087 (FP.i2d p2) 17 (fun t => .int ((own_pi (own_w pp1086) 17) t)) (fun t => .int ((own_pi (own_w rr1087) 17) t)) (fun t => .double ((own_pd (own_d p2 p3) 17) t)) ((own_pi (own_w pp1086) 17) 3) ((own_pi (own_w rr1087) 17) 3) ((own_pd (own_d p2 p3) 17) 3) T1763.heap n0 Z1794 V1776 V1777 V1778 hp1860 rfl rfl rfl hp1861 hp1862 hp1863 hp1864) hZ (hw _ (List.mem_of_getElem? (i := 108) rfl)) (hw _ (List.mem_of_getElem? (i := 107) rfl)) (by decide) (by decide)) (g := (mkF m 516 #[.val (.int p0), .val (.int p1), .val (.int p2), .val (.int p3), .val (.int pp1086), .val (.int rr1087), .val (.double (FP.i2d p2)), .second, .val (.int v1088), .val (.ref a1092), .val (.int (17 : Int32)), .val (.ref r1765), .val (.ref wb1766), .val (.ref tb1767), .val (.ref db1768), .unset] [(.double (FP.i2d p2)), (.int rr1087), (.int pp1086), (.int (3 : Int32)), (.ref db1768), (.ref tb1767), (.ref wb1766)])) rfl (by rw [hml]; rfl) (argsL := [(.ref wb1766), (.ref tb1767), (.ref db1768), (.int (3 : Int32)), (.int pp1086), (.int rr1087), (.double (FP.i2d p2))]) (rest := []) (lenOf pd_10 rfl) rfl (by show 2 * 0 + _ ≤ _; exact Nat.le_of_eq rfl) (hb hby at_516) (fun _ _ => ⟨rfl, e1858, (by decide : 11 + 0 ≤ _), (by decide : 204 + 0 ≤ _)⟩)
    have hQ1865b : Q15 Z wb1766 tb1767 db1768 3 pp1086 rr1087 (FP.i2d p2) 17 (fun t => .int ((own_pi (own_w pp1086) 17) t)) (fun t => .int ((own_pi (own_w rr1087) 17) t)) (fun t => .double ((own_pd (own_d p2 p3) 17) t)) ((own_pi (own_w pp1086) 17) 3) ((own_pi (own_w rr1087) 17) 3) ((own_pd (own_d p2 p3) 17) 3) T1763.heap n0 vv1865 T1865.heap L1865c := hQ1865
    clear hQ1865
    dsimp only [Pt.U, Pt.locs, Pt.cells, Pt.slots] at X1865 l1865 y1865 z1865 st1865
    subst y1865 z1865
    obtain ⟨rfl, Nq1866, Kq1867⟩ := hQ1865b
    have N1868 : Fr n0 L1865 := by rw [l1865]; exact Fr.app N1857 Nq1866
    refine Go.of (g' := (mkF m 519 #[.val (.int p0), .val (.int p1), .val (.int p2), .val (.int p3), .val (.int pp1086), .val (.int rr1087), .val (.double (FP.i2d p2)), .second, .val (.int v1088), .val (.ref a1092), .val (.int (17 : Int32)), .val (.ref r1765), .val (.ref wb1766), .val (.ref tb1767), .val (.ref db1768), .unset] [(.int (1 : Int32))])) st1865 ?_
    have e1869 : T1865.heap = T1763.heap := Kq1867
    have A1870 := (⟨X1865, hx, hby⟩ : Ax _ _ _ _ _ _ _ _ _ _ _ _ _ _ _)
    refine g_ifN A1870 at_519 (c0_eq_f (by decide)) (pc' := 522) rfl ?_
    refine g_aload A1870 at_522 rfl rfl (pc' := 524) rfl ?_
    refine g_aload A1870 at_524 rfl rfl (pc' := 526) rfl ?_
    refine g_aload A1870 at_526 rfl rfl (pc' := 528) rfl ?_
    refine g_iconst A1870 at_528 (v := (4 : Int32)) rfl (pc' := 529) rfl ?_
    refine g_iload A1870 at_529 rfl (pc' := 531) rfl ?_
    refine g_iload A1870 at_531 rfl (pc' := 533) rfl ?_
    refine g_dload A1870 at_533 rfl (pc' := 535) rfl ?_
    have hp1871 : 4 < 17 := (by decide)
    have hp1872 : ((own_pi (own_w pp1086) 17) 4) = (pp1086 + (Int32.ofNat 4)) := (own_we (by decide))
    have hp1873 : ((own_pi (own_w rr1087) 17) 4) = (rr1087 + (Int32.ofNat 4)) := (own_we (by decide))
    have hp1874 : FP.dcmp ((own_pd (own_d p2 p3) 17) 4) (FP.dadd (FP.i2d p2) (FP.i2d (Int32.ofNat 4))) = some .eq := (own_de (by decide) (by decide))
    have hp1875 : Fin64 (FP.i2d p2) := (i2d_fin p2)
    obtain ⟨vv1876, _, ⟨T1876, L1876, k1876, n1876⟩, -, X1876, ⟨L1876c, hQ1876, l1876, y1876, z1876⟩, st1876⟩ := Jvm.LawKit.callS X1865 hx (y := (⟨"com/example/retinue/retinue/PairsAddPinLaw", "at", "([I[I[DIIID)Z"⟩ : MethodName)) hown (mvT hZ (hw _ (List.mem_of_getElem? (i := 105) rfl))) (mvT hZ (hw _ (List.mem_of_getElem? (i := 106) rfl))) (mvT hZ (hw _ (List.mem_of_getElem? (i := 107) rfl))) (mvT hZ (hw _ (List.mem_of_getElem? (i := 108) rfl))) (by decide) (backOf (W := 0) (rm15 l Z a0 hw [] wb1766 tb1767 db1768 4 pp1086 rr1087 (FP.i2d p2) 17 (fun t => .int ((own_pi (own_w pp1086) 17) t)) (fun t => .int ((own_pi (own_w rr1087) 17) t)) (fun t => .double ((own_pd (own_d p2 p3) 17) t)) ((own_pi (own_w pp1086) 17) 4) ((own_pi (own_w rr1087) 17) 4) ((own_pd (own_d p2 p3) 17) 4) T1763.heap n0 Z1794 V1776 V1777 V1778 hp1871 rfl rfl rfl hp1872 hp1873 hp1874 hp1875) hZ (hw _ (List.mem_of_getElem? (i := 108) rfl)) (hw _ (List.mem_of_getElem? (i := 107) rfl)) (by decide) (by decide)) (g := (mkF m 535 #[.val (.int p0), .val (.int p1), .val (.int p2), .val (.int p3), .val (.int pp1086), .val (.int rr1087), .val (.double (FP.i2d p2)), .second, .val (.int v1088), .val (.ref a1092), .val (.int (17 : Int32)), .val (.ref r1765), .val (.ref wb1766), .val (.ref tb1767), .val (.ref db1768), .unset] [(.double (FP.i2d p2)), (.int rr1087), (.int pp1086), (.int (4 : Int32)), (.ref db1768), (.ref tb1767), (.ref wb1766)])) rfl (by rw [hml]; rfl) (argsL := [(.ref wb1766), (.ref tb1767), (.ref db1768), (.int (4 : Int32)), (.int pp1086), (.int rr1087), (.double (FP.i2d p2))]) (rest := []) (lenOf pd_10 rfl) rfl (by show 2 * 0 + _ ≤ _; exact Nat.le_of_eq rfl) (hb hby at_535) (fun _ _ => ⟨rfl, e1869, (by decide : 11 + 0 ≤ _), (by decide : 204 + 0 ≤ _)⟩)
    have hQ1876b : Q15 Z wb1766 tb1767 db1768 4 pp1086 rr1087 (FP.i2d p2) 17 (fun t => .int ((own_pi (own_w pp1086) 17) t)) (fun t => .int ((own_pi (own_w rr1087) 17) t)) (fun t => .double ((own_pd (own_d p2 p3) 17) t)) ((own_pi (own_w pp1086) 17) 4) ((own_pi (own_w rr1087) 17) 4) ((own_pd (own_d p2 p3) 17) 4) T1763.heap n0 vv1876 T1876.heap L1876c := hQ1876
    clear hQ1876
    dsimp only [Pt.U, Pt.locs, Pt.cells, Pt.slots] at X1876 l1876 y1876 z1876 st1876
    subst y1876 z1876
    obtain ⟨rfl, Nq1877, Kq1878⟩ := hQ1876b
    have N1879 : Fr n0 L1876 := by rw [l1876]; exact Fr.app N1868 Nq1877
    refine Go.of (g' := (mkF m 538 #[.val (.int p0), .val (.int p1), .val (.int p2), .val (.int p3), .val (.int pp1086), .val (.int rr1087), .val (.double (FP.i2d p2)), .second, .val (.int v1088), .val (.ref a1092), .val (.int (17 : Int32)), .val (.ref r1765), .val (.ref wb1766), .val (.ref tb1767), .val (.ref db1768), .unset] [(.int (1 : Int32))])) st1876 ?_
    have e1880 : T1876.heap = T1763.heap := Kq1878
    have A1881 := (⟨X1876, hx, hby⟩ : Ax _ _ _ _ _ _ _ _ _ _ _ _ _ _ _)
    refine g_ifN A1881 at_538 (c0_eq_f (by decide)) (pc' := 541) rfl ?_
    refine g_aload A1881 at_541 rfl rfl (pc' := 543) rfl ?_
    refine g_aload A1881 at_543 rfl rfl (pc' := 545) rfl ?_
    refine g_aload A1881 at_545 rfl rfl (pc' := 547) rfl ?_
    refine g_iconst A1881 at_547 (v := (5 : Int32)) rfl (pc' := 548) rfl ?_
    refine g_iload A1881 at_548 rfl (pc' := 550) rfl ?_
    refine g_iload A1881 at_550 rfl (pc' := 552) rfl ?_
    refine g_dload A1881 at_552 rfl (pc' := 554) rfl ?_
    have hp1882 : 5 < 17 := (by decide)
    have hp1883 : ((own_pi (own_w pp1086) 17) 5) = (pp1086 + (Int32.ofNat 5)) := (own_we (by decide))
    have hp1884 : ((own_pi (own_w rr1087) 17) 5) = (rr1087 + (Int32.ofNat 5)) := (own_we (by decide))
    have hp1885 : FP.dcmp ((own_pd (own_d p2 p3) 17) 5) (FP.dadd (FP.i2d p2) (FP.i2d (Int32.ofNat 5))) = some .eq := (own_de (by decide) (by decide))
    have hp1886 : Fin64 (FP.i2d p2) := (i2d_fin p2)
    obtain ⟨vv1887, _, ⟨T1887, L1887, k1887, n1887⟩, -, X1887, ⟨L1887c, hQ1887, l1887, y1887, z1887⟩, st1887⟩ := Jvm.LawKit.callS X1876 hx (y := (⟨"com/example/retinue/retinue/PairsAddPinLaw", "at", "([I[I[DIIID)Z"⟩ : MethodName)) hown (mvT hZ (hw _ (List.mem_of_getElem? (i := 105) rfl))) (mvT hZ (hw _ (List.mem_of_getElem? (i := 106) rfl))) (mvT hZ (hw _ (List.mem_of_getElem? (i := 107) rfl))) (mvT hZ (hw _ (List.mem_of_getElem? (i := 108) rfl))) (by decide) (backOf (W := 0) (rm15 l Z a0 hw [] wb1766 tb1767 db1768 5 pp1086 rr1087 (FP.i2d p2) 17 (fun t => .int ((own_pi (own_w pp1086) 17) t)) (fun t => .int ((own_pi (own_w rr1087) 17) t)) (fun t => .double ((own_pd (own_d p2 p3) 17) t)) ((own_pi (own_w pp1086) 17) 5) ((own_pi (own_w rr1087) 17) 5) ((own_pd (own_d p2 p3) 17) 5) T1763.heap n0 Z1794 V1776 V1777 V1778 hp1882 rfl rfl rfl hp1883 hp1884 hp1885 hp1886) hZ (hw _ (List.mem_of_getElem? (i := 108) rfl)) (hw _ (List.mem_of_getElem? (i := 107) rfl)) (by decide) (by decide)) (g := (mkF m 554 #[.val (.int p0), .val (.int p1), .val (.int p2), .val (.int p3), .val (.int pp1086), .val (.int rr1087), .val (.double (FP.i2d p2)), .second, .val (.int v1088), .val (.ref a1092), .val (.int (17 : Int32)), .val (.ref r1765), .val (.ref wb1766), .val (.ref tb1767), .val (.ref db1768), .unset] [(.double (FP.i2d p2)), (.int rr1087), (.int pp1086), (.int (5 : Int32)), (.ref db1768), (.ref tb1767), (.ref wb1766)])) rfl (by rw [hml]; rfl) (argsL := [(.ref wb1766), (.ref tb1767), (.ref db1768), (.int (5 : Int32)), (.int pp1086), (.int rr1087), (.double (FP.i2d p2))]) (rest := []) (lenOf pd_10 rfl) rfl (by show 2 * 0 + _ ≤ _; exact Nat.le_of_eq rfl) (hb hby at_554) (fun _ _ => ⟨rfl, e1880, (by decide : 11 + 0 ≤ _), (by decide : 204 + 0 ≤ _)⟩)
    have hQ1887b : Q15 Z wb1766 tb1767 db1768 5 pp1086 rr1087 (FP.i2d p2) 17 (fun t => .int ((own_pi (own_w pp1086) 17) t)) (fun t => .int ((own_pi (own_w rr1087) 17) t)) (fun t => .double ((own_pd (own_d p2 p3) 17) t)) ((own_pi (own_w pp1086) 17) 5) ((own_pi (own_w rr1087) 17) 5) ((own_pd (own_d p2 p3) 17) 5) T1763.heap n0 vv1887 T1887.heap L1887c := hQ1887
    clear hQ1887
    dsimp only [Pt.U, Pt.locs, Pt.cells, Pt.slots] at X1887 l1887 y1887 z1887 st1887
    subst y1887 z1887
    obtain ⟨rfl, Nq1888, Kq1889⟩ := hQ1887b
    have N1890 : Fr n0 L1887 := by rw [l1887]; exact Fr.app N1879 Nq1888
    refine Go.of (g' := (mkF m 557 #[.val (.int p0), .val (.int p1), .val (.int p2), .val (.int p3), .val (.int pp1086), .val (.int rr1087), .val (.double (FP.i2d p2)), .second, .val (.int v1088), .val (.ref a1092), .val (.int (17 : Int32)), .val (.ref r1765), .val (.ref wb1766), .val (.ref tb1767), .val (.ref db1768), .unset] [(.int (1 : Int32))])) st1887 ?_
    have e1891 : T1887.heap = T1763.heap := Kq1889
    have A1892 := (⟨X1887, hx, hby⟩ : Ax _ _ _ _ _ _ _ _ _ _ _ _ _ _ _)
    refine g_ifN A1892 at_557 (c0_eq_f (by decide)) (pc' := 560) rfl ?_
    refine g_aload A1892 at_560 rfl rfl (pc' := 562) rfl ?_
    refine g_aload A1892 at_562 rfl rfl (pc' := 564) rfl ?_
    refine g_aload A1892 at_564 rfl rfl (pc' := 566) rfl ?_
    refine g_bipush A1892 at_566 (v := (6 : Int32)) rfl (pc' := 568) rfl ?_
    refine g_iload A1892 at_568 rfl (pc' := 570) rfl ?_
    refine g_iload A1892 at_570 rfl (pc' := 572) rfl ?_
    refine g_dload A1892 at_572 rfl (pc' := 574) rfl ?_
    have hp1893 : 6 < 17 := (by decide)
    have hp1894 : ((own_pi (own_w pp1086) 17) 6) = (pp1086 + (Int32.ofNat 6)) := (own_we (by decide))
    have hp1895 : ((own_pi (own_w rr1087) 17) 6) = (rr1087 + (Int32.ofNat 6)) := (own_we (by decide))
    have hp1896 : FP.dcmp ((own_pd (own_d p2 p3) 17) 6) (FP.dadd (FP.i2d p2) (FP.i2d (Int32.ofNat 6))) = some .eq := (own_de (by decide) (by decide))
    have hp1897 : Fin64 (FP.i2d p2) := (i2d_fin p2)
    obtain ⟨vv1898, _, ⟨T1898, L1898, k1898, n1898⟩, -, X1898, ⟨L1898c, hQ1898, l1898, y1898, z1898⟩, st1898⟩ := Jvm.LawKit.callS X1887 hx (y := (⟨"com/example/retinue/retinue/PairsAddPinLaw", "at", "([I[I[DIIID)Z"⟩ : MethodName)) hown (mvT hZ (hw _ (List.mem_of_getElem? (i := 105) rfl))) (mvT hZ (hw _ (List.mem_of_getElem? (i := 106) rfl))) (mvT hZ (hw _ (List.mem_of_getElem? (i := 107) rfl))) (mvT hZ (hw _ (List.mem_of_getElem? (i := 108) rfl))) (by decide) (backOf (W := 0) (rm15 l Z a0 hw [] wb1766 tb1767 db1768 6 pp1086 rr1087 (FP.i2d p2) 17 (fun t => .int ((own_pi (own_w pp1086) 17) t)) (fun t => .int ((own_pi (own_w rr1087) 17) t)) (fun t => .double ((own_pd (own_d p2 p3) 17) t)) ((own_pi (own_w pp1086) 17) 6) ((own_pi (own_w rr1087) 17) 6) ((own_pd (own_d p2 p3) 17) 6) T1763.heap n0 Z1794 V1776 V1777 V1778 hp1893 rfl rfl rfl hp1894 hp1895 hp1896 hp1897) hZ (hw _ (List.mem_of_getElem? (i := 108) rfl)) (hw _ (List.mem_of_getElem? (i := 107) rfl)) (by decide) (by decide)) (g := (mkF m 574 #[.val (.int p0), .val (.int p1), .val (.int p2), .val (.int p3), .val (.int pp1086), .val (.int rr1087), .val (.double (FP.i2d p2)), .second, .val (.int v1088), .val (.ref a1092), .val (.int (17 : Int32)), .val (.ref r1765), .val (.ref wb1766), .val (.ref tb1767), .val (.ref db1768), .unset] [(.double (FP.i2d p2)), (.int rr1087), (.int pp1086), (.int (6 : Int32)), (.ref db1768), (.ref tb1767), (.ref wb1766)])) rfl (by rw [hml]; rfl) (argsL := [(.ref wb1766), (.ref tb1767), (.ref db1768), (.int (6 : Int32)), (.int pp1086), (.int rr1087), (.double (FP.i2d p2))]) (rest := []) (lenOf pd_10 rfl) rfl (by show 2 * 0 + _ ≤ _; exact Nat.le_of_eq rfl) (hb hby at_574) (fun _ _ => ⟨rfl, e1891, (by decide : 11 + 0 ≤ _), (by decide : 204 + 0 ≤ _)⟩)
    have hQ1898b : Q15 Z wb1766 tb1767 db1768 6 pp1086 rr1087 (FP.i2d p2) 17 (fun t => .int ((own_pi (own_w pp1086) 17) t)) (fun t => .int ((own_pi (own_w rr1087) 17) t)) (fun t => .double ((own_pd (own_d p2 p3) 17) t)) ((own_pi (own_w pp1086) 17) 6) ((own_pi (own_w rr1087) 17) 6) ((own_pd (own_d p2 p3) 17) 6) T1763.heap n0 vv1898 T1898.heap L1898c := hQ1898
    clear hQ1898
    dsimp only [Pt.U, Pt.locs, Pt.cells, Pt.slots] at X1898 l1898 y1898 z1898 st1898
    subst y1898 z1898
    obtain ⟨rfl, Nq1899, Kq1900⟩ := hQ1898b
    have N1901 : Fr n0 L1898 := by rw [l1898]; exact Fr.app N1890 Nq1899
    refine Go.of (g' := (mkF m 577 #[.val (.int p0), .val (.int p1), .val (.int p2), .val (.int p3), .val (.int pp1086), .val (.int rr1087), .val (.double (FP.i2d p2)), .second, .val (.int v1088), .val (.ref a1092), .val (.int (17 : Int32)), .val (.ref r1765), .val (.ref wb1766), .val (.ref tb1767), .val (.ref db1768), .unset] [(.int (1 : Int32))])) st1898 ?_
    have e1902 : T1898.heap = T1763.heap := Kq1900
    have A1903 := (⟨X1898, hx, hby⟩ : Ax _ _ _ _ _ _ _ _ _ _ _ _ _ _ _)
    refine g_ifN A1903 at_577 (c0_eq_f (by decide)) (pc' := 580) rfl ?_
    refine g_aload A1903 at_580 rfl rfl (pc' := 582) rfl ?_
    refine g_aload A1903 at_582 rfl rfl (pc' := 584) rfl ?_
    refine g_aload A1903 at_584 rfl rfl (pc' := 586) rfl ?_
    refine g_bipush A1903 at_586 (v := (7 : Int32)) rfl (pc' := 588) rfl ?_
    refine g_iload A1903 at_588 rfl (pc' := 590) rfl ?_
    refine g_iload A1903 at_590 rfl (pc' := 592) rfl ?_
    refine g_dload A1903 at_592 rfl (pc' := 594) rfl ?_
    have hp1904 : 7 < 17 := (by decide)
    have hp1905 : ((own_pi (own_w pp1086) 17) 7) = (pp1086 + (Int32.ofNat 7)) := (own_we (by decide))
    have hp1906 : ((own_pi (own_w rr1087) 17) 7) = (rr1087 + (Int32.ofNat 7)) := (own_we (by decide))
    have hp1907 : FP.dcmp ((own_pd (own_d p2 p3) 17) 7) (FP.dadd (FP.i2d p2) (FP.i2d (Int32.ofNat 7))) = some .eq := (own_de (by decide) (by decide))
    have hp1908 : Fin64 (FP.i2d p2) := (i2d_fin p2)
    obtain ⟨vv1909, _, ⟨T1909, L1909, k1909, n1909⟩, -, X1909, ⟨L1909c, hQ1909, l1909, y1909, z1909⟩, st1909⟩ := Jvm.LawKit.callS X1898 hx (y := (⟨"com/example/retinue/retinue/PairsAddPinLaw", "at", "([I[I[DIIID)Z"⟩ : MethodName)) hown (mvT hZ (hw _ (List.mem_of_getElem? (i := 105) rfl))) (mvT hZ (hw _ (List.mem_of_getElem? (i := 106) rfl))) (mvT hZ (hw _ (List.mem_of_getElem? (i := 107) rfl))) (mvT hZ (hw _ (List.mem_of_getElem? (i := 108) rfl))) (by decide) (backOf (W := 0) (rm15 l Z a0 hw [] wb1766 tb1767 db1768 7 pp1086 rr1087 (FP.i2d p2) 17 (fun t => .int ((own_pi (own_w pp1086) 17) t)) (fun t => .int ((own_pi (own_w rr1087) 17) t)) (fun t => .double ((own_pd (own_d p2 p3) 17) t)) ((own_pi (own_w pp1086) 17) 7) ((own_pi (own_w rr1087) 17) 7) ((own_pd (own_d p2 p3) 17) 7) T1763.heap n0 Z1794 V1776 V1777 V1778 hp1904 rfl rfl rfl hp1905 hp1906 hp1907 hp1908) hZ (hw _ (List.mem_of_getElem? (i := 108) rfl)) (hw _ (List.mem_of_getElem? (i := 107) rfl)) (by decide) (by decide)) (g := (mkF m 594 #[.val (.int p0), .val (.int p1), .val (.int p2), .val (.int p3), .val (.int pp1086), .val (.int rr1087), .val (.double (FP.i2d p2)), .second, .val (.int v1088), .val (.ref a1092), .val (.int (17 : Int32)), .val (.ref r1765), .val (.ref wb1766), .val (.ref tb1767), .val (.ref db1768), .unset] [(.double (FP.i2d p2)), (.int rr1087), (.int pp1086), (.int (7 : Int32)), (.ref db1768), (.ref tb1767), (.ref wb1766)])) rfl (by rw [hml]; rfl) (argsL := [(.ref wb1766), (.ref tb1767), (.ref db1768), (.int (7 : Int32)), (.int pp1086), (.int rr1087), (.double (FP.i2d p2))]) (rest := []) (lenOf pd_10 rfl) rfl (by show 2 * 0 + _ ≤ _; exact Nat.le_of_eq rfl) (hb hby at_594) (fun _ _ => ⟨rfl, e1902, (by decide : 11 + 0 ≤ _), (by decide : 204 + 0 ≤ _)⟩)
    have hQ1909b : Q15 Z wb1766 tb1767 db1768 7 pp1086 rr1087 (FP.i2d p2) 17 (fun t => .int ((own_pi (own_w pp1086) 17) t)) (fun t => .int ((own_pi (own_w rr1087) 17) t)) (fun t => .double ((own_pd (own_d p2 p3) 17) t)) ((own_pi (own_w pp1086) 17) 7) ((own_pi (own_w rr1087) 17) 7) ((own_pd (own_d p2 p3) 17) 7) T1763.heap n0 vv1909 T1909.heap L1909c := hQ1909
    clear hQ1909
    dsimp only [Pt.U, Pt.locs, Pt.cells, Pt.slots] at X1909 l1909 y1909 z1909 st1909
    subst y1909 z1909
    obtain ⟨rfl, Nq1910, Kq1911⟩ := hQ1909b
    have N1912 : Fr n0 L1909 := by rw [l1909]; exact Fr.app N1901 Nq1910
    refine Go.of (g' := (mkF m 597 #[.val (.int p0), .val (.int p1), .val (.int p2), .val (.int p3), .val (.int pp1086), .val (.int rr1087), .val (.double (FP.i2d p2)), .second, .val (.int v1088), .val (.ref a1092), .val (.int (17 : Int32)), .val (.ref r1765), .val (.ref wb1766), .val (.ref tb1767), .val (.ref db1768), .unset] [(.int (1 : Int32))])) st1909 ?_
    have e1913 : T1909.heap = T1763.heap := Kq1911
    have A1914 := (⟨X1909, hx, hby⟩ : Ax _ _ _ _ _ _ _ _ _ _ _ _ _ _ _)
    refine g_ifN A1914 at_597 (c0_eq_f (by decide)) (pc' := 600) rfl ?_
    refine g_aload A1914 at_600 rfl rfl (pc' := 602) rfl ?_
    refine g_aload A1914 at_602 rfl rfl (pc' := 604) rfl ?_
    refine g_aload A1914 at_604 rfl rfl (pc' := 606) rfl ?_
    refine g_bipush A1914 at_606 (v := (8 : Int32)) rfl (pc' := 608) rfl ?_
    refine g_iload A1914 at_608 rfl (pc' := 610) rfl ?_
    refine g_iload A1914 at_610 rfl (pc' := 612) rfl ?_
    refine g_dload A1914 at_612 rfl (pc' := 614) rfl ?_
    have hp1915 : 8 < 17 := (by decide)
    have hp1916 : ((own_pi (own_w pp1086) 17) 8) = (pp1086 + (Int32.ofNat 8)) := (own_we (by decide))
    have hp1917 : ((own_pi (own_w rr1087) 17) 8) = (rr1087 + (Int32.ofNat 8)) := (own_we (by decide))
    have hp1918 : FP.dcmp ((own_pd (own_d p2 p3) 17) 8) (FP.dadd (FP.i2d p2) (FP.i2d (Int32.ofNat 8))) = some .eq := (own_de (by decide) (by decide))
    have hp1919 : Fin64 (FP.i2d p2) := (i2d_fin p2)
    obtain ⟨vv1920, _, ⟨T1920, L1920, k1920, n1920⟩, -, X1920, ⟨L1920c, hQ1920, l1920, y1920, z1920⟩, st1920⟩ := Jvm.LawKit.callS X1909 hx (y := (⟨"com/example/retinue/retinue/PairsAddPinLaw", "at", "([I[I[DIIID)Z"⟩ : MethodName)) hown (mvT hZ (hw _ (List.mem_of_getElem? (i := 105) rfl))) (mvT hZ (hw _ (List.mem_of_getElem? (i := 106) rfl))) (mvT hZ (hw _ (List.mem_of_getElem? (i := 107) rfl))) (mvT hZ (hw _ (List.mem_of_getElem? (i := 108) rfl))) (by decide) (backOf (W := 0) (rm15 l Z a0 hw [] wb1766 tb1767 db1768 8 pp1086 rr1087 (FP.i2d p2) 17 (fun t => .int ((own_pi (own_w pp1086) 17) t)) (fun t => .int ((own_pi (own_w rr1087) 17) t)) (fun t => .double ((own_pd (own_d p2 p3) 17) t)) ((own_pi (own_w pp1086) 17) 8) ((own_pi (own_w rr1087) 17) 8) ((own_pd (own_d p2 p3) 17) 8) T1763.heap n0 Z1794 V1776 V1777 V1778 hp1915 rfl rfl rfl hp1916 hp1917 hp1918 hp1919) hZ (hw _ (List.mem_of_getElem? (i := 108) rfl)) (hw _ (List.mem_of_getElem? (i := 107) rfl)) (by decide) (by decide)) (g := (mkF m 614 #[.val (.int p0), .val (.int p1), .val (.int p2), .val (.int p3), .val (.int pp1086), .val (.int rr1087), .val (.double (FP.i2d p2)), .second, .val (.int v1088), .val (.ref a1092), .val (.int (17 : Int32)), .val (.ref r1765), .val (.ref wb1766), .val (.ref tb1767), .val (.ref db1768), .unset] [(.double (FP.i2d p2)), (.int rr1087), (.int pp1086), (.int (8 : Int32)), (.ref db1768), (.ref tb1767), (.ref wb1766)])) rfl (by rw [hml]; rfl) (argsL := [(.ref wb1766), (.ref tb1767), (.ref db1768), (.int (8 : Int32)), (.int pp1086), (.int rr1087), (.double (FP.i2d p2))]) (rest := []) (lenOf pd_10 rfl) rfl (by show 2 * 0 + _ ≤ _; exact Nat.le_of_eq rfl) (hb hby at_614) (fun _ _ => ⟨rfl, e1913, (by decide : 11 + 0 ≤ _), (by decide : 204 + 0 ≤ _)⟩)
    have hQ1920b : Q15 Z wb1766 tb1767 db1768 8 pp1086 rr1087 (FP.i2d p2) 17 (fun t => .int ((own_pi (own_w pp1086) 17) t)) (fun t => .int ((own_pi (own_w rr1087) 17) t)) (fun t => .double ((own_pd (own_d p2 p3) 17) t)) ((own_pi (own_w pp1086) 17) 8) ((own_pi (own_w rr1087) 17) 8) ((own_pd (own_d p2 p3) 17) 8) T1763.heap n0 vv1920 T1920.heap L1920c := hQ1920
    clear hQ1920
    dsimp only [Pt.U, Pt.locs, Pt.cells, Pt.slots] at X1920 l1920 y1920 z1920 st1920
    subst y1920 z1920
    obtain ⟨rfl, Nq1921, Kq1922⟩ := hQ1920b
    have N1923 : Fr n0 L1920 := by rw [l1920]; exact Fr.app N1912 Nq1921
    refine Go.of (g' := (mkF m 617 #[.val (.int p0), .val (.int p1), .val (.int p2), .val (.int p3), .val (.int pp1086), .val (.int rr1087), .val (.double (FP.i2d p2)), .second, .val (.int v1088), .val (.ref a1092), .val (.int (17 : Int32)), .val (.ref r1765), .val (.ref wb1766), .val (.ref tb1767), .val (.ref db1768), .unset] [(.int (1 : Int32))])) st1920 ?_
    have e1924 : T1920.heap = T1763.heap := Kq1922
    have A1925 := (⟨X1920, hx, hby⟩ : Ax _ _ _ _ _ _ _ _ _ _ _ _ _ _ _)
    refine g_ifN A1925 at_617 (c0_eq_f (by decide)) (pc' := 620) rfl ?_
    refine g_aload A1925 at_620 rfl rfl (pc' := 622) rfl ?_
    refine g_aload A1925 at_622 rfl rfl (pc' := 624) rfl ?_
    refine g_aload A1925 at_624 rfl rfl (pc' := 626) rfl ?_
    refine g_bipush A1925 at_626 (v := (9 : Int32)) rfl (pc' := 628) rfl ?_
    refine g_iload A1925 at_628 rfl (pc' := 630) rfl ?_
    refine g_iload A1925 at_630 rfl (pc' := 632) rfl ?_
    refine g_dload A1925 at_632 rfl (pc' := 634) rfl ?_
    have hp1926 : 9 < 17 := (by decide)
    have hp1927 : ((own_pi (own_w pp1086) 17) 9) = (pp1086 + (Int32.ofNat 9)) := (own_we (by decide))
    have hp1928 : ((own_pi (own_w rr1087) 17) 9) = (rr1087 + (Int32.ofNat 9)) := (own_we (by decide))
    have hp1929 : FP.dcmp ((own_pd (own_d p2 p3) 17) 9) (FP.dadd (FP.i2d p2) (FP.i2d (Int32.ofNat 9))) = some .eq := (own_de (by decide) (by decide))
    have hp1930 : Fin64 (FP.i2d p2) := (i2d_fin p2)
    obtain ⟨vv1931, _, ⟨T1931, L1931, k1931, n1931⟩, -, X1931, ⟨L1931c, hQ1931, l1931, y1931, z1931⟩, st1931⟩ := Jvm.LawKit.callS X1920 hx (y := (⟨"com/example/retinue/retinue/PairsAddPinLaw", "at", "([I[I[DIIID)Z"⟩ : MethodName)) hown (mvT hZ (hw _ (List.mem_of_getElem? (i := 105) rfl))) (mvT hZ (hw _ (List.mem_of_getElem? (i := 106) rfl))) (mvT hZ (hw _ (List.mem_of_getElem? (i := 107) rfl))) (mvT hZ (hw _ (List.mem_of_getElem? (i := 108) rfl))) (by decide) (backOf (W := 0) (rm15 l Z a0 hw [] wb1766 tb1767 db1768 9 pp1086 rr1087 (FP.i2d p2) 17 (fun t => .int ((own_pi (own_w pp1086) 17) t)) (fun t => .int ((own_pi (own_w rr1087) 17) t)) (fun t => .double ((own_pd (own_d p2 p3) 17) t)) ((own_pi (own_w pp1086) 17) 9) ((own_pi (own_w rr1087) 17) 9) ((own_pd (own_d p2 p3) 17) 9) T1763.heap n0 Z1794 V1776 V1777 V1778 hp1926 rfl rfl rfl hp1927 hp1928 hp1929 hp1930) hZ (hw _ (List.mem_of_getElem? (i := 108) rfl)) (hw _ (List.mem_of_getElem? (i := 107) rfl)) (by decide) (by decide)) (g := (mkF m 634 #[.val (.int p0), .val (.int p1), .val (.int p2), .val (.int p3), .val (.int pp1086), .val (.int rr1087), .val (.double (FP.i2d p2)), .second, .val (.int v1088), .val (.ref a1092), .val (.int (17 : Int32)), .val (.ref r1765), .val (.ref wb1766), .val (.ref tb1767), .val (.ref db1768), .unset] [(.double (FP.i2d p2)), (.int rr1087), (.int pp1086), (.int (9 : Int32)), (.ref db1768), (.ref tb1767), (.ref wb1766)])) rfl (by rw [hml]; rfl) (argsL := [(.ref wb1766), (.ref tb1767), (.ref db1768), (.int (9 : Int32)), (.int pp1086), (.int rr1087), (.double (FP.i2d p2))]) (rest := []) (lenOf pd_10 rfl) rfl (by show 2 * 0 + _ ≤ _; exact Nat.le_of_eq rfl) (hb hby at_634) (fun _ _ => ⟨rfl, e1924, (by decide : 11 + 0 ≤ _), (by decide : 204 + 0 ≤ _)⟩)
    have hQ1931b : Q15 Z wb1766 tb1767 db1768 9 pp1086 rr1087 (FP.i2d p2) 17 (fun t => .int ((own_pi (own_w pp1086) 17) t)) (fun t => .int ((own_pi (own_w rr1087) 17) t)) (fun t => .double ((own_pd (own_d p2 p3) 17) t)) ((own_pi (own_w pp1086) 17) 9) ((own_pi (own_w rr1087) 17) 9) ((own_pd (own_d p2 p3) 17) 9) T1763.heap n0 vv1931 T1931.heap L1931c := hQ1931
    clear hQ1931
    dsimp only [Pt.U, Pt.locs, Pt.cells, Pt.slots] at X1931 l1931 y1931 z1931 st1931
    subst y1931 z1931
    obtain ⟨rfl, Nq1932, Kq1933⟩ := hQ1931b
    have N1934 : Fr n0 L1931 := by rw [l1931]; exact Fr.app N1923 Nq1932
    refine Go.of (g' := (mkF m 637 #[.val (.int p0), .val (.int p1), .val (.int p2), .val (.int p3), .val (.int pp1086), .val (.int rr1087), .val (.double (FP.i2d p2)), .second, .val (.int v1088), .val (.ref a1092), .val (.int (17 : Int32)), .val (.ref r1765), .val (.ref wb1766), .val (.ref tb1767), .val (.ref db1768), .unset] [(.int (1 : Int32))])) st1931 ?_
    have e1935 : T1931.heap = T1763.heap := Kq1933
    have A1936 := (⟨X1931, hx, hby⟩ : Ax _ _ _ _ _ _ _ _ _ _ _ _ _ _ _)
    refine g_ifN A1936 at_637 (c0_eq_f (by decide)) (pc' := 640) rfl ?_
    refine g_aload A1936 at_640 rfl rfl (pc' := 642) rfl ?_
    refine g_aload A1936 at_642 rfl rfl (pc' := 644) rfl ?_
    refine g_aload A1936 at_644 rfl rfl (pc' := 646) rfl ?_
    refine g_bipush A1936 at_646 (v := (10 : Int32)) rfl (pc' := 648) rfl ?_
    refine g_iload A1936 at_648 rfl (pc' := 650) rfl ?_
    refine g_iload A1936 at_650 rfl (pc' := 652) rfl ?_
    refine g_dload A1936 at_652 rfl (pc' := 654) rfl ?_
    have hp1937 : 10 < 17 := (by decide)
    have hp1938 : ((own_pi (own_w pp1086) 17) 10) = (pp1086 + (Int32.ofNat 10)) := (own_we (by decide))
    have hp1939 : ((own_pi (own_w rr1087) 17) 10) = (rr1087 + (Int32.ofNat 10)) := (own_we (by decide))
    have hp1940 : FP.dcmp ((own_pd (own_d p2 p3) 17) 10) (FP.dadd (FP.i2d p2) (FP.i2d (Int32.ofNat 10))) = some .eq := (own_de (by decide) (by decide))
    have hp1941 : Fin64 (FP.i2d p2) := (i2d_fin p2)
    obtain ⟨vv1942, _, ⟨T1942, L1942, k1942, n1942⟩, -, X1942, ⟨L1942c, hQ1942, l1942, y1942, z1942⟩, st1942⟩ := Jvm.LawKit.callS X1931 hx (y := (⟨"com/example/retinue/retinue/PairsAddPinLaw", "at", "([I[I[DIIID)Z"⟩ : MethodName)) hown (mvT hZ (hw _ (List.mem_of_getElem? (i := 105) rfl))) (mvT hZ (hw _ (List.mem_of_getElem? (i := 106) rfl))) (mvT hZ (hw _ (List.mem_of_getElem? (i := 107) rfl))) (mvT hZ (hw _ (List.mem_of_getElem? (i := 108) rfl))) (by decide) (backOf (W := 0) (rm15 l Z a0 hw [] wb1766 tb1767 db1768 10 pp1086 rr1087 (FP.i2d p2) 17 (fun t => .int ((own_pi (own_w pp1086) 17) t)) (fun t => .int ((own_pi (own_w rr1087) 17) t)) (fun t => .double ((own_pd (own_d p2 p3) 17) t)) ((own_pi (own_w pp1086) 17) 10) ((own_pi (own_w rr1087) 17) 10) ((own_pd (own_d p2 p3) 17) 10) T1763.heap n0 Z1794 V1776 V1777 V1778 hp1937 rfl rfl rfl hp1938 hp1939 hp1940 hp1941) hZ (hw _ (List.mem_of_getElem? (i := 108) rfl)) (hw _ (List.mem_of_getElem? (i := 107) rfl)) (by decide) (by decide)) (g := (mkF m 654 #[.val (.int p0), .val (.int p1), .val (.int p2), .val (.int p3), .val (.int pp1086), .val (.int rr1087), .val (.double (FP.i2d p2)), .second, .val (.int v1088), .val (.ref a1092), .val (.int (17 : Int32)), .val (.ref r1765), .val (.ref wb1766), .val (.ref tb1767), .val (.ref db1768), .unset] [(.double (FP.i2d p2)), (.int rr1087), (.int pp1086), (.int (10 : Int32)), (.ref db1768), (.ref tb1767), (.ref wb1766)])) rfl (by rw [hml]; rfl) (argsL := [(.ref wb1766), (.ref tb1767), (.ref db1768), (.int (10 : Int32)), (.int pp1086), (.int rr1087), (.double (FP.i2d p2))]) (rest := []) (lenOf pd_10 rfl) rfl (by show 2 * 0 + _ ≤ _; exact Nat.le_of_eq rfl) (hb hby at_654) (fun _ _ => ⟨rfl, e1935, (by decide : 11 + 0 ≤ _), (by decide : 204 + 0 ≤ _)⟩)
    have hQ1942b : Q15 Z wb1766 tb1767 db1768 10 pp1086 rr1087 (FP.i2d p2) 17 (fun t => .int ((own_pi (own_w pp1086) 17) t)) (fun t => .int ((own_pi (own_w rr1087) 17) t)) (fun t => .double ((own_pd (own_d p2 p3) 17) t)) ((own_pi (own_w pp1086) 17) 10) ((own_pi (own_w rr1087) 17) 10) ((own_pd (own_d p2 p3) 17) 10) T1763.heap n0 vv1942 T1942.heap L1942c := hQ1942
    clear hQ1942
    dsimp only [Pt.U, Pt.locs, Pt.cells, Pt.slots] at X1942 l1942 y1942 z1942 st1942
    subst y1942 z1942
    obtain ⟨rfl, Nq1943, Kq1944⟩ := hQ1942b
    have N1945 : Fr n0 L1942 := by rw [l1942]; exact Fr.app N1934 Nq1943
    refine Go.of (g' := (mkF m 657 #[.val (.int p0), .val (.int p1), .val (.int p2), .val (.int p3), .val (.int pp1086), .val (.int rr1087), .val (.double (FP.i2d p2)), .second, .val (.int v1088), .val (.ref a1092), .val (.int (17 : Int32)), .val (.ref r1765), .val (.ref wb1766), .val (.ref tb1767), .val (.ref db1768), .unset] [(.int (1 : Int32))])) st1942 ?_
    have e1946 : T1942.heap = T1763.heap := Kq1944
    have A1947 := (⟨X1942, hx, hby⟩ : Ax _ _ _ _ _ _ _ _ _ _ _ _ _ _ _)
    refine g_ifN A1947 at_657 (c0_eq_f (by decide)) (pc' := 660) rfl ?_
    refine g_aload A1947 at_660 rfl rfl (pc' := 662) rfl ?_
    refine g_aload A1947 at_662 rfl rfl (pc' := 664) rfl ?_
    refine g_aload A1947 at_664 rfl rfl (pc' := 666) rfl ?_
    refine g_bipush A1947 at_666 (v := (11 : Int32)) rfl (pc' := 668) rfl ?_
    refine g_iload A1947 at_668 rfl (pc' := 670) rfl ?_
    refine g_iload A1947 at_670 rfl (pc' := 672) rfl ?_
    refine g_dload A1947 at_672 rfl (pc' := 674) rfl ?_
    have hp1948 : 11 < 17 := (by decide)
    have hp1949 : ((own_pi (own_w pp1086) 17) 11) = (pp1086 + (Int32.ofNat 11)) := (own_we (by decide))
    have hp1950 : ((own_pi (own_w rr1087) 17) 11) = (rr1087 + (Int32.ofNat 11)) := (own_we (by decide))
    have hp1951 : FP.dcmp ((own_pd (own_d p2 p3) 17) 11) (FP.dadd (FP.i2d p2) (FP.i2d (Int32.ofNat 11))) = some .eq := (own_de (by decide) (by decide))
    have hp1952 : Fin64 (FP.i2d p2) := (i2d_fin p2)
    obtain ⟨vv1953, _, ⟨T1953, L1953, k1953, n1953⟩, -, X1953, ⟨L1953c, hQ1953, l1953, y1953, z1953⟩, st1953⟩ := Jvm.LawKit.callS X1942 hx (y := (⟨"com/example/retinue/retinue/PairsAddPinLaw", "at", "([I[I[DIIID)Z"⟩ : MethodName)) hown (mvT hZ (hw _ (List.mem_of_getElem? (i := 105) rfl))) (mvT hZ (hw _ (List.mem_of_getElem? (i := 106) rfl))) (mvT hZ (hw _ (List.mem_of_getElem? (i := 107) rfl))) (mvT hZ (hw _ (List.mem_of_getElem? (i := 108) rfl))) (by decide) (backOf (W := 0) (rm15 l Z a0 hw [] wb1766 tb1767 db1768 11 pp1086 rr1087 (FP.i2d p2) 17 (fun t => .int ((own_pi (own_w pp1086) 17) t)) (fun t => .int ((own_pi (own_w rr1087) 17) t)) (fun t => .double ((own_pd (own_d p2 p3) 17) t)) ((own_pi (own_w pp1086) 17) 11) ((own_pi (own_w rr1087) 17) 11) ((own_pd (own_d p2 p3) 17) 11) T1763.heap n0 Z1794 V1776 V1777 V1778 hp1948 rfl rfl rfl hp1949 hp1950 hp1951 hp1952) hZ (hw _ (List.mem_of_getElem? (i := 108) rfl)) (hw _ (List.mem_of_getElem? (i := 107) rfl)) (by decide) (by decide)) (g := (mkF m 674 #[.val (.int p0), .val (.int p1), .val (.int p2), .val (.int p3), .val (.int pp1086), .val (.int rr1087), .val (.double (FP.i2d p2)), .second, .val (.int v1088), .val (.ref a1092), .val (.int (17 : Int32)), .val (.ref r1765), .val (.ref wb1766), .val (.ref tb1767), .val (.ref db1768), .unset] [(.double (FP.i2d p2)), (.int rr1087), (.int pp1086), (.int (11 : Int32)), (.ref db1768), (.ref tb1767), (.ref wb1766)])) rfl (by rw [hml]; rfl) (argsL := [(.ref wb1766), (.ref tb1767), (.ref db1768), (.int (11 : Int32)), (.int pp1086), (.int rr1087), (.double (FP.i2d p2))]) (rest := []) (lenOf pd_10 rfl) rfl (by show 2 * 0 + _ ≤ _; exact Nat.le_of_eq rfl) (hb hby at_674) (fun _ _ => ⟨rfl, e1946, (by decide : 11 + 0 ≤ _), (by decide : 204 + 0 ≤ _)⟩)
    have hQ1953b : Q15 Z wb1766 tb1767 db1768 11 pp1086 rr1087 (FP.i2d p2) 17 (fun t => .int ((own_pi (own_w pp1086) 17) t)) (fun t => .int ((own_pi (own_w rr1087) 17) t)) (fun t => .double ((own_pd (own_d p2 p3) 17) t)) ((own_pi (own_w pp1086) 17) 11) ((own_pi (own_w rr1087) 17) 11) ((own_pd (own_d p2 p3) 17) 11) T1763.heap n0 vv1953 T1953.heap L1953c := hQ1953
    clear hQ1953
    dsimp only [Pt.U, Pt.locs, Pt.cells, Pt.slots] at X1953 l1953 y1953 z1953 st1953
    subst y1953 z1953
    obtain ⟨rfl, Nq1954, Kq1955⟩ := hQ1953b
    have N1956 : Fr n0 L1953 := by rw [l1953]; exact Fr.app N1945 Nq1954
    refine Go.of (g' := (mkF m 677 #[.val (.int p0), .val (.int p1), .val (.int p2), .val (.int p3), .val (.int pp1086), .val (.int rr1087), .val (.double (FP.i2d p2)), .second, .val (.int v1088), .val (.ref a1092), .val (.int (17 : Int32)), .val (.ref r1765), .val (.ref wb1766), .val (.ref tb1767), .val (.ref db1768), .unset] [(.int (1 : Int32))])) st1953 ?_
    have e1957 : T1953.heap = T1763.heap := Kq1955
    have A1958 := (⟨X1953, hx, hby⟩ : Ax _ _ _ _ _ _ _ _ _ _ _ _ _ _ _)
    refine g_ifN A1958 at_677 (c0_eq_f (by decide)) (pc' := 680) rfl ?_
    refine g_aload A1958 at_680 rfl rfl (pc' := 682) rfl ?_
    refine g_aload A1958 at_682 rfl rfl (pc' := 684) rfl ?_
    refine g_aload A1958 at_684 rfl rfl (pc' := 686) rfl ?_
    refine g_bipush A1958 at_686 (v := (12 : Int32)) rfl (pc' := 688) rfl ?_
    refine g_iload A1958 at_688 rfl (pc' := 690) rfl ?_
    refine g_iload A1958 at_690 rfl (pc' := 692) rfl ?_
    refine g_dload A1958 at_692 rfl (pc' := 694) rfl ?_
    have hp1959 : 12 < 17 := (by decide)
    have hp1960 : ((own_pi (own_w pp1086) 17) 12) = (pp1086 + (Int32.ofNat 12)) := (own_we (by decide))
    have hp1961 : ((own_pi (own_w rr1087) 17) 12) = (rr1087 + (Int32.ofNat 12)) := (own_we (by decide))
    have hp1962 : FP.dcmp ((own_pd (own_d p2 p3) 17) 12) (FP.dadd (FP.i2d p2) (FP.i2d (Int32.ofNat 12))) = some .eq := (own_de (by decide) (by decide))
    have hp1963 : Fin64 (FP.i2d p2) := (i2d_fin p2)
    obtain ⟨vv1964, _, ⟨T1964, L1964, k1964, n1964⟩, -, X1964, ⟨L1964c, hQ1964, l1964, y1964, z1964⟩, st1964⟩ := Jvm.LawKit.callS X1953 hx (y := (⟨"com/example/retinue/retinue/PairsAddPinLaw", "at", "([I[I[DIIID)Z"⟩ : MethodName)) hown (mvT hZ (hw _ (List.mem_of_getElem? (i := 105) rfl))) (mvT hZ (hw _ (List.mem_of_getElem? (i := 106) rfl))) (mvT hZ (hw _ (List.mem_of_getElem? (i := 107) rfl))) (mvT hZ (hw _ (List.mem_of_getElem? (i := 108) rfl))) (by decide) (backOf (W := 0) (rm15 l Z a0 hw [] wb1766 tb1767 db1768 12 pp1086 rr1087 (FP.i2d p2) 17 (fun t => .int ((own_pi (own_w pp1086) 17) t)) (fun t => .int ((own_pi (own_w rr1087) 17) t)) (fun t => .double ((own_pd (own_d p2 p3) 17) t)) ((own_pi (own_w pp1086) 17) 12) ((own_pi (own_w rr1087) 17) 12) ((own_pd (own_d p2 p3) 17) 12) T1763.heap n0 Z1794 V1776 V1777 V1778 hp1959 rfl rfl rfl hp1960 hp1961 hp1962 hp1963) hZ (hw _ (List.mem_of_getElem? (i := 108) rfl)) (hw _ (List.mem_of_getElem? (i := 107) rfl)) (by decide) (by decide)) (g := (mkF m 694 #[.val (.int p0), .val (.int p1), .val (.int p2), .val (.int p3), .val (.int pp1086), .val (.int rr1087), .val (.double (FP.i2d p2)), .second, .val (.int v1088), .val (.ref a1092), .val (.int (17 : Int32)), .val (.ref r1765), .val (.ref wb1766), .val (.ref tb1767), .val (.ref db1768), .unset] [(.double (FP.i2d p2)), (.int rr1087), (.int pp1086), (.int (12 : Int32)), (.ref db1768), (.ref tb1767), (.ref wb1766)])) rfl (by rw [hml]; rfl) (argsL := [(.ref wb1766), (.ref tb1767), (.ref db1768), (.int (12 : Int32)), (.int pp1086), (.int rr1087), (.double (FP.i2d p2))]) (rest := []) (lenOf pd_10 rfl) rfl (by show 2 * 0 + _ ≤ _; exact Nat.le_of_eq rfl) (hb hby at_694) (fun _ _ => ⟨rfl, e1957, (by decide : 11 + 0 ≤ _), (by decide : 204 + 0 ≤ _)⟩)
    have hQ1964b : Q15 Z wb1766 tb1767 db1768 12 pp1086 rr1087 (FP.i2d p2) 17 (fun t => .int ((own_pi (own_w pp1086) 17) t)) (fun t => .int ((own_pi (own_w rr1087) 17) t)) (fun t => .double ((own_pd (own_d p2 p3) 17) t)) ((own_pi (own_w pp1086) 17) 12) ((own_pi (own_w rr1087) 17) 12) ((own_pd (own_d p2 p3) 17) 12) T1763.heap n0 vv1964 T1964.heap L1964c := hQ1964
    clear hQ1964
    dsimp only [Pt.U, Pt.locs, Pt.cells, Pt.slots] at X1964 l1964 y1964 z1964 st1964
    subst y1964 z1964
    obtain ⟨rfl, Nq1965, Kq1966⟩ := hQ1964b
    have N1967 : Fr n0 L1964 := by rw [l1964]; exact Fr.app N1956 Nq1965
    refine Go.of (g' := (mkF m 697 #[.val (.int p0), .val (.int p1), .val (.int p2), .val (.int p3), .val (.int pp1086), .val (.int rr1087), .val (.double (FP.i2d p2)), .second, .val (.int v1088), .val (.ref a1092), .val (.int (17 : Int32)), .val (.ref r1765), .val (.ref wb1766), .val (.ref tb1767), .val (.ref db1768), .unset] [(.int (1 : Int32))])) st1964 ?_
    have e1968 : T1964.heap = T1763.heap := Kq1966
    have A1969 := (⟨X1964, hx, hby⟩ : Ax _ _ _ _ _ _ _ _ _ _ _ _ _ _ _)
    refine g_ifN A1969 at_697 (c0_eq_f (by decide)) (pc' := 700) rfl ?_
    refine g_aload A1969 at_700 rfl rfl (pc' := 702) rfl ?_
    refine g_aload A1969 at_702 rfl rfl (pc' := 704) rfl ?_
    refine g_aload A1969 at_704 rfl rfl (pc' := 706) rfl ?_
    refine g_bipush A1969 at_706 (v := (13 : Int32)) rfl (pc' := 708) rfl ?_
    refine g_iload A1969 at_708 rfl (pc' := 710) rfl ?_
    refine g_iload A1969 at_710 rfl (pc' := 712) rfl ?_
    refine g_dload A1969 at_712 rfl (pc' := 714) rfl ?_
    have hp1970 : 13 < 17 := (by decide)
    have hp1971 : ((own_pi (own_w pp1086) 17) 13) = (pp1086 + (Int32.ofNat 13)) := (own_we (by decide))
    have hp1972 : ((own_pi (own_w rr1087) 17) 13) = (rr1087 + (Int32.ofNat 13)) := (own_we (by decide))
    have hp1973 : FP.dcmp ((own_pd (own_d p2 p3) 17) 13) (FP.dadd (FP.i2d p2) (FP.i2d (Int32.ofNat 13))) = some .eq := (own_de (by decide) (by decide))
    have hp1974 : Fin64 (FP.i2d p2) := (i2d_fin p2)
    obtain ⟨vv1975, _, ⟨T1975, L1975, k1975, n1975⟩, -, X1975, ⟨L1975c, hQ1975, l1975, y1975, z1975⟩, st1975⟩ := Jvm.LawKit.callS X1964 hx (y := (⟨"com/example/retinue/retinue/PairsAddPinLaw", "at", "([I[I[DIIID)Z"⟩ : MethodName)) hown (mvT hZ (hw _ (List.mem_of_getElem? (i := 105) rfl))) (mvT hZ (hw _ (List.mem_of_getElem? (i := 106) rfl))) (mvT hZ (hw _ (List.mem_of_getElem? (i := 107) rfl))) (mvT hZ (hw _ (List.mem_of_getElem? (i := 108) rfl))) (by decide) (backOf (W := 0) (rm15 l Z a0 hw [] wb1766 tb1767 db1768 13 pp1086 rr1087 (FP.i2d p2) 17 (fun t => .int ((own_pi (own_w pp1086) 17) t)) (fun t => .int ((own_pi (own_w rr1087) 17) t)) (fun t => .double ((own_pd (own_d p2 p3) 17) t)) ((own_pi (own_w pp1086) 17) 13) ((own_pi (own_w rr1087) 17) 13) ((own_pd (own_d p2 p3) 17) 13) T1763.heap n0 Z1794 V1776 V1777 V1778 hp1970 rfl rfl rfl hp1971 hp1972 hp1973 hp1974) hZ (hw _ (List.mem_of_getElem? (i := 108) rfl)) (hw _ (List.mem_of_getElem? (i := 107) rfl)) (by decide) (by decide)) (g := (mkF m 714 #[.val (.int p0), .val (.int p1), .val (.int p2), .val (.int p3), .val (.int pp1086), .val (.int rr1087), .val (.double (FP.i2d p2)), .second, .val (.int v1088), .val (.ref a1092), .val (.int (17 : Int32)), .val (.ref r1765), .val (.ref wb1766), .val (.ref tb1767), .val (.ref db1768), .unset] [(.double (FP.i2d p2)), (.int rr1087), (.int pp1086), (.int (13 : Int32)), (.ref db1768), (.ref tb1767), (.ref wb1766)])) rfl (by rw [hml]; rfl) (argsL := [(.ref wb1766), (.ref tb1767), (.ref db1768), (.int (13 : Int32)), (.int pp1086), (.int rr1087), (.double (FP.i2d p2))]) (rest := []) (lenOf pd_10 rfl) rfl (by show 2 * 0 + _ ≤ _; exact Nat.le_of_eq rfl) (hb hby at_714) (fun _ _ => ⟨rfl, e1968, (by decide : 11 + 0 ≤ _), (by decide : 204 + 0 ≤ _)⟩)
    have hQ1975b : Q15 Z wb1766 tb1767 db1768 13 pp1086 rr1087 (FP.i2d p2) 17 (fun t => .int ((own_pi (own_w pp1086) 17) t)) (fun t => .int ((own_pi (own_w rr1087) 17) t)) (fun t => .double ((own_pd (own_d p2 p3) 17) t)) ((own_pi (own_w pp1086) 17) 13) ((own_pi (own_w rr1087) 17) 13) ((own_pd (own_d p2 p3) 17) 13) T1763.heap n0 vv1975 T1975.heap L1975c := hQ1975
    clear hQ1975
    dsimp only [Pt.U, Pt.locs, Pt.cells, Pt.slots] at X1975 l1975 y1975 z1975 st1975
    subst y1975 z1975
    obtain ⟨rfl, Nq1976, Kq1977⟩ := hQ1975b
    have N1978 : Fr n0 L1975 := by rw [l1975]; exact Fr.app N1967 Nq1976
    refine Go.of (g' := (mkF m 717 #[.val (.int p0), .val (.int p1), .val (.int p2), .val (.int p3), .val (.int pp1086), .val (.int rr1087), .val (.double (FP.i2d p2)), .second, .val (.int v1088), .val (.ref a1092), .val (.int (17 : Int32)), .val (.ref r1765), .val (.ref wb1766), .val (.ref tb1767), .val (.ref db1768), .unset] [(.int (1 : Int32))])) st1975 ?_
    have e1979 : T1975.heap = T1763.heap := Kq1977
    have A1980 := (⟨X1975, hx, hby⟩ : Ax _ _ _ _ _ _ _ _ _ _ _ _ _ _ _)
    refine g_ifN A1980 at_717 (c0_eq_f (by decide)) (pc' := 720) rfl ?_
    refine g_aload A1980 at_720 rfl rfl (pc' := 722) rfl ?_
    refine g_aload A1980 at_722 rfl rfl (pc' := 724) rfl ?_
    refine g_aload A1980 at_724 rfl rfl (pc' := 726) rfl ?_
    refine g_bipush A1980 at_726 (v := (14 : Int32)) rfl (pc' := 728) rfl ?_
    refine g_iload A1980 at_728 rfl (pc' := 730) rfl ?_
    refine g_iload A1980 at_730 rfl (pc' := 732) rfl ?_
    refine g_dload A1980 at_732 rfl (pc' := 734) rfl ?_
    have hp1981 : 14 < 17 := (by decide)
    have hp1982 : ((own_pi (own_w pp1086) 17) 14) = (pp1086 + (Int32.ofNat 14)) := (own_we (by decide))
    have hp1983 : ((own_pi (own_w rr1087) 17) 14) = (rr1087 + (Int32.ofNat 14)) := (own_we (by decide))
    have hp1984 : FP.dcmp ((own_pd (own_d p2 p3) 17) 14) (FP.dadd (FP.i2d p2) (FP.i2d (Int32.ofNat 14))) = some .eq := (own_de (by decide) (by decide))
    have hp1985 : Fin64 (FP.i2d p2) := (i2d_fin p2)
    obtain ⟨vv1986, _, ⟨T1986, L1986, k1986, n1986⟩, -, X1986, ⟨L1986c, hQ1986, l1986, y1986, z1986⟩, st1986⟩ := Jvm.LawKit.callS X1975 hx (y := (⟨"com/example/retinue/retinue/PairsAddPinLaw", "at", "([I[I[DIIID)Z"⟩ : MethodName)) hown (mvT hZ (hw _ (List.mem_of_getElem? (i := 105) rfl))) (mvT hZ (hw _ (List.mem_of_getElem? (i := 106) rfl))) (mvT hZ (hw _ (List.mem_of_getElem? (i := 107) rfl))) (mvT hZ (hw _ (List.mem_of_getElem? (i := 108) rfl))) (by decide) (backOf (W := 0) (rm15 l Z a0 hw [] wb1766 tb1767 db1768 14 pp1086 rr1087 (FP.i2d p2) 17 (fun t => .int ((own_pi (own_w pp1086) 17) t)) (fun t => .int ((own_pi (own_w rr1087) 17) t)) (fun t => .double ((own_pd (own_d p2 p3) 17) t)) ((own_pi (own_w pp1086) 17) 14) ((own_pi (own_w rr1087) 17) 14) ((own_pd (own_d p2 p3) 17) 14) T1763.heap n0 Z1794 V1776 V1777 V1778 hp1981 rfl rfl rfl hp1982 hp1983 hp1984 hp1985) hZ (hw _ (List.mem_of_getElem? (i := 108) rfl)) (hw _ (List.mem_of_getElem? (i := 107) rfl)) (by decide) (by decide)) (g := (mkF m 734 #[.val (.int p0), .val (.int p1), .val (.int p2), .val (.int p3), .val (.int pp1086), .val (.int rr1087), .val (.double (FP.i2d p2)), .second, .val (.int v1088), .val (.ref a1092), .val (.int (17 : Int32)), .val (.ref r1765), .val (.ref wb1766), .val (.ref tb1767), .val (.ref db1768), .unset] [(.double (FP.i2d p2)), (.int rr1087), (.int pp1086), (.int (14 : Int32)), (.ref db1768), (.ref tb1767), (.ref wb1766)])) rfl (by rw [hml]; rfl) (argsL := [(.ref wb1766), (.ref tb1767), (.ref db1768), (.int (14 : Int32)), (.int pp1086), (.int rr1087), (.double (FP.i2d p2))]) (rest := []) (lenOf pd_10 rfl) rfl (by show 2 * 0 + _ ≤ _; exact Nat.le_of_eq rfl) (hb hby at_734) (fun _ _ => ⟨rfl, e1979, (by decide : 11 + 0 ≤ _), (by decide : 204 + 0 ≤ _)⟩)
    have hQ1986b : Q15 Z wb1766 tb1767 db1768 14 pp1086 rr1087 (FP.i2d p2) 17 (fun t => .int ((own_pi (own_w pp1086) 17) t)) (fun t => .int ((own_pi (own_w rr1087) 17) t)) (fun t => .double ((own_pd (own_d p2 p3) 17) t)) ((own_pi (own_w pp1086) 17) 14) ((own_pi (own_w rr1087) 17) 14) ((own_pd (own_d p2 p3) 17) 14) T1763.heap n0 vv1986 T1986.heap L1986c := hQ1986
    clear hQ1986
    dsimp only [Pt.U, Pt.locs, Pt.cells, Pt.slots] at X1986 l1986 y1986 z1986 st1986
    subst y1986 z1986
    obtain ⟨rfl, Nq1987, Kq1988⟩ := hQ1986b
    have N1989 : Fr n0 L1986 := by rw [l1986]; exact Fr.app N1978 Nq1987
    refine Go.of (g' := (mkF m 737 #[.val (.int p0), .val (.int p1), .val (.int p2), .val (.int p3), .val (.int pp1086), .val (.int rr1087), .val (.double (FP.i2d p2)), .second, .val (.int v1088), .val (.ref a1092), .val (.int (17 : Int32)), .val (.ref r1765), .val (.ref wb1766), .val (.ref tb1767), .val (.ref db1768), .unset] [(.int (1 : Int32))])) st1986 ?_
    have e1990 : T1986.heap = T1763.heap := Kq1988
    have A1991 := (⟨X1986, hx, hby⟩ : Ax _ _ _ _ _ _ _ _ _ _ _ _ _ _ _)
    refine g_ifN A1991 at_737 (c0_eq_f (by decide)) (pc' := 740) rfl ?_
    refine g_aload A1991 at_740 rfl rfl (pc' := 742) rfl ?_
    refine g_aload A1991 at_742 rfl rfl (pc' := 744) rfl ?_
    refine g_aload A1991 at_744 rfl rfl (pc' := 746) rfl ?_
    refine g_bipush A1991 at_746 (v := (15 : Int32)) rfl (pc' := 748) rfl ?_
    refine g_iload A1991 at_748 rfl (pc' := 750) rfl ?_
    refine g_iload A1991 at_750 rfl (pc' := 752) rfl ?_
    refine g_dload A1991 at_752 rfl (pc' := 754) rfl ?_
    have hp1992 : 15 < 17 := (by decide)
    have hp1993 : ((own_pi (own_w pp1086) 17) 15) = (pp1086 + (Int32.ofNat 15)) := (own_we (by decide))
    have hp1994 : ((own_pi (own_w rr1087) 17) 15) = (rr1087 + (Int32.ofNat 15)) := (own_we (by decide))
    have hp1995 : FP.dcmp ((own_pd (own_d p2 p3) 17) 15) (FP.dadd (FP.i2d p2) (FP.i2d (Int32.ofNat 15))) = some .eq := (own_de (by decide) (by decide))
    have hp1996 : Fin64 (FP.i2d p2) := (i2d_fin p2)
    obtain ⟨vv1997, _, ⟨T1997, L1997, k1997, n1997⟩, -, X1997, ⟨L1997c, hQ1997, l1997, y1997, z1997⟩, st1997⟩ := Jvm.LawKit.callS X1986 hx (y := (⟨"com/example/retinue/retinue/PairsAddPinLaw", "at", "([I[I[DIIID)Z"⟩ : MethodName)) hown (mvT hZ (hw _ (List.mem_of_getElem? (i := 105) rfl))) (mvT hZ (hw _ (List.mem_of_getElem? (i := 106) rfl))) (mvT hZ (hw _ (List.mem_of_getElem? (i := 107) rfl))) (mvT hZ (hw _ (List.mem_of_getElem? (i := 108) rfl))) (by decide) (backOf (W := 0) (rm15 l Z a0 hw [] wb1766 tb1767 db1768 15 pp1086 rr1087 (FP.i2d p2) 17 (fun t => .int ((own_pi (own_w pp1086) 17) t)) (fun t => .int ((own_pi (own_w rr1087) 17) t)) (fun t => .double ((own_pd (own_d p2 p3) 17) t)) ((own_pi (own_w pp1086) 17) 15) ((own_pi (own_w rr1087) 17) 15) ((own_pd (own_d p2 p3) 17) 15) T1763.heap n0 Z1794 V1776 V1777 V1778 hp1992 rfl rfl rfl hp1993 hp1994 hp1995 hp1996) hZ (hw _ (List.mem_of_getElem? (i := 108) rfl)) (hw _ (List.mem_of_getElem? (i := 107) rfl)) (by decide) (by decide)) (g := (mkF m 754 #[.val (.int p0), .val (.int p1), .val (.int p2), .val (.int p3), .val (.int pp1086), .val (.int rr1087), .val (.double (FP.i2d p2)), .second, .val (.int v1088), .val (.ref a1092), .val (.int (17 : Int32)), .val (.ref r1765), .val (.ref wb1766), .val (.ref tb1767), .val (.ref db1768), .unset] [(.double (FP.i2d p2)), (.int rr1087), (.int pp1086), (.int (15 : Int32)), (.ref db1768), (.ref tb1767), (.ref wb1766)])) rfl (by rw [hml]; rfl) (argsL := [(.ref wb1766), (.ref tb1767), (.ref db1768), (.int (15 : Int32)), (.int pp1086), (.int rr1087), (.double (FP.i2d p2))]) (rest := []) (lenOf pd_10 rfl) rfl (by show 2 * 0 + _ ≤ _; exact Nat.le_of_eq rfl) (hb hby at_754) (fun _ _ => ⟨rfl, e1990, (by decide : 11 + 0 ≤ _), (by decide : 204 + 0 ≤ _)⟩)
    have hQ1997b : Q15 Z wb1766 tb1767 db1768 15 pp1086 rr1087 (FP.i2d p2) 17 (fun t => .int ((own_pi (own_w pp1086) 17) t)) (fun t => .int ((own_pi (own_w rr1087) 17) t)) (fun t => .double ((own_pd (own_d p2 p3) 17) t)) ((own_pi (own_w pp1086) 17) 15) ((own_pi (own_w rr1087) 17) 15) ((own_pd (own_d p2 p3) 17) 15) T1763.heap n0 vv1997 T1997.heap L1997c := hQ1997
    clear hQ1997
    dsimp only [Pt.U, Pt.locs, Pt.cells, Pt.slots] at X1997 l1997 y1997 z1997 st1997
    subst y1997 z1997
    obtain ⟨rfl, Nq1998, Kq1999⟩ := hQ1997b
    have N2000 : Fr n0 L1997 := by rw [l1997]; exact Fr.app N1989 Nq1998
    refine Go.of (g' := (mkF m 757 #[.val (.int p0), .val (.int p1), .val (.int p2), .val (.int p3), .val (.int pp1086), .val (.int rr1087), .val (.double (FP.i2d p2)), .second, .val (.int v1088), .val (.ref a1092), .val (.int (17 : Int32)), .val (.ref r1765), .val (.ref wb1766), .val (.ref tb1767), .val (.ref db1768), .unset] [(.int (1 : Int32))])) st1997 ?_
    have e2001 : T1997.heap = T1763.heap := Kq1999
    have A2002 := (⟨X1997, hx, hby⟩ : Ax _ _ _ _ _ _ _ _ _ _ _ _ _ _ _)
    refine g_ifN A2002 at_757 (c0_eq_f (by decide)) (pc' := 760) rfl ?_
    refine g_iconst A2002 at_760 (v := (1 : Int32)) rfl (pc' := 761) rfl ?_
    refine g_goto A2002 at_761 (pc' := 765) rfl ?_
    refine g_istore A2002 at_765 (ls' := #[.val (.int p0), .val (.int p1), .val (.int p2), .val (.int p3), .val (.int pp1086), .val (.int rr1087), .val (.double (FP.i2d p2)), .second, .val (.int v1088), .val (.ref a1092), .val (.int (17 : Int32)), .val (.ref r1765), .val (.ref wb1766), .val (.ref tb1767), .val (.ref db1768), .val (.int (1 : Int32))]) rfl (pc' := 767) rfl ?_
    refine g_iload A2002 at_767 rfl (pc' := 769) rfl ?_
    refine g_ifN A2002 at_769 (b0_eq_f hv1088 hc1473) (pc' := 772) rfl ?_
    refine g_iload A2002 at_772 rfl (pc' := 774) rfl ?_
    refine g_ifN A2002 at_774 (c0_eq_f (by decide)) (pc' := 777) rfl ?_
    refine g_aload A2002 at_777 rfl rfl (pc' := 779) rfl ?_
    refine g_bipush A2002 at_779 (v := (16 : Int32)) rfl (pc' := 781) rfl ?_
    refine g_iaload A2002 hZ e2001 V1776 (i := 16) (by decide) rfl (x := ((own_pi (own_w pp1086) 17) 16)) rfl at_781 (pc' := 782) rfl ?_
    refine g_iload A2002 at_782 rfl (pc' := 784) rfl ?_
    refine g_bipush A2002 at_784 (v := (16 : Int32)) rfl (pc' := 786) rfl ?_
    refine g_iadd A2002 at_786 (pc' := 787) rfl ?_
    refine g_icN A2002 at_787 (c2_ne_f (own_we (by decide))) (pc' := 790) rfl ?_
    refine g_aload A2002 at_790 rfl rfl (pc' := 792) rfl ?_
    refine g_bipush A2002 at_792 (v := (16 : Int32)) rfl (pc' := 794) rfl ?_
    refine g_iaload A2002 hZ e2001 V1777 (i := 16) (by decide) rfl (x := ((own_pi (own_w rr1087) 17) 16)) rfl at_794 (pc' := 795) rfl ?_
    refine g_iload A2002 at_795 rfl (pc' := 797) rfl ?_
    refine g_bipush A2002 at_797 (v := (16 : Int32)) rfl (pc' := 799) rfl ?_
    refine g_iadd A2002 at_799 (pc' := 800) rfl ?_
    refine g_icN A2002 at_800 (c2_ne_f (own_we (by decide))) (pc' := 803) rfl ?_
    refine g_aload A2002 at_803 rfl rfl (pc' := 805) rfl ?_
    refine g_bipush A2002 at_805 (v := (16 : Int32)) rfl (pc' := 807) rfl ?_
    refine g_daload A2002 hZ e2001 V1778 (i := 16) (by decide) rfl (x := ((own_pd (own_d p2 p3) 17) 16)) rfl at_807 (pc' := 808) rfl ?_
    refine g_iloadN A2002 at_808 rfl (pc' := 809) rfl ?_
    refine g_i2d A2002 at_809 (pc' := 810) rfl ?_
    refine g_dcmp A2002 at_810 (pc' := 811) rfl ?_
    refine g_ifN A2002 at_811 (d_l_ne_f (show FP.dcmp (FP.i2d p3) (FP.i2d p3) = some .eq from own_self (i2d_fin p3))) (pc' := 814) rfl ?_
    refine g_iconst A2002 at_814 (v := (1 : Int32)) rfl (pc' := 815) rfl ?_
    refine g_goto A2002 at_815 (pc' := 819) rfl ?_
    refine g_istore A2002 at_819 (ls' := #[.val (.int p0), .val (.int p1), .val (.int p2), .val (.int p3), .val (.int pp1086), .val (.int rr1087), .val (.double (FP.i2d p2)), .second, .val (.int v1088), .val (.ref a1092), .val (.int (17 : Int32)), .val (.ref r1765), .val (.ref wb1766), .val (.ref tb1767), .val (.ref db1768), .val (.int (1 : Int32))]) rfl (pc' := 821) rfl ?_
    refine g_iload A2002 at_821 rfl (pc' := 823) rfl ?_
    exact g_ret (Q := Q0 Z p0 p1 p2 p3 h0 n0) A2002 at_823 Bd.notSynchronized Bd.returns rfl (Or.inl ⟨rfl, by simp, _, rfl⟩) (by decide) (by decide) (by rw [e2001]; exact ⟨rfl, N2000⟩)
set_option maxRecDepth 65536 in
set_option maxHeartbeats 40000000 in
theorem comes_1 {Post : Tables → Env → Array Value → State → Outcome → State → Prop} (hpost : ∀ tb e args s v u, (limb_1_1.after args s (.returned v) u = true ∧ limb_1_2.after args s (.returned v) u = true ∧ True) → FrameEnd s (.returned v) u (Jvm.fieldLocs frame_1_writes args s ++ Jvm.arrayLocs frame_1_arrays args s ++ Jvm.staticLocs frame_1_statics s) 32 512 → Post tb e args s (.returned v) u) :
    ArmFor flags0 classFile x code maxLocals ret World_1 tables_1 room_1 Calls_1 rest_1 Pre_1 Post := by
  intro l hfl _ _ p e ha hc hk s m args below hf hA hF happ hP
  obtain ⟨hcalls, hrest, hpre⟩ := hP
  obtain ⟨-, -, -, hnamed, -, -, -, hat⟩ := (Spec.applies_iff hf).mp happ
  obtain ⟨hg, hn⟩ := and_e (Cond.before_iff.mp (show (Jvm.Cond.and given_1 narrow_1).before args s = true from hpre))
  obtain ⟨g0, hg1⟩ := and_e hg
  obtain ⟨w0, w1, w2, w3, rfl⟩ : ∃ w0 w1 w2 w3 : Value, args = #[w0, w1, w2, w3] := by
    have hs : args.size = 4 := by simpa [Cond.value, given_1] using g0
    obtain ⟨L⟩ := args
    match L, hs with
    | [w0, w1, w2, w3], _ => exact ⟨w0, w1, w2, w3, rfl⟩
  have hw := fun d (hd : d ∈ tables_1) => atoms_spec (ws := Jvm.Cond.code x code maxLocals ret :: tables_1) hat d (List.mem_cons_of_mem _ hd)
  have hfit : Fit s := fun {y c} hc i hi => by
    obtain ⟨ha, rfl⟩ := Array.getElem?_eq_some_iff.mp hc
    have q := List.all_eq_true.mp ((Array.all_eq_true_iff_forall_mem.mp hF) _ (Array.getElem_mem ha)) i (List.mem_range.mpr hi)
    simpa [Array.getElem?_eq_getElem hi] using q
  obtain ⟨k0, hg2⟩ := and_e hg1
  obtain ⟨i0, j0⟩ := is_v k0
  obtain rfl : w0 = (.int i0) := Option.some.inj j0
  obtain ⟨k1, hg3⟩ := and_e hg2
  obtain ⟨i1, j1⟩ := is_v k1
  obtain rfl : w1 = (.int i1) := Option.some.inj j1
  obtain ⟨k2, hg4⟩ := and_e hg3
  obtain ⟨i2, j2⟩ := is_v k2
  obtain rfl : w2 = (.int i2) := Option.some.inj j2
  obtain ⟨i3, j3⟩ := is_v hg4
  obtain rfl : w3 = (.int i3) := Option.some.inj j3
  obtain ⟨n, o, h1, h2, h3, _, L, rfl, ⟨rfl, N⟩, hq⟩ := rm0 l s _ hw tables_1 i0 i1 i2 i3 s.heap s.heap.size (Nat.le_refl _)  p e ha hc hk s m _ below hf ((Spec.applies_iff_loose hf).mp happ).1 ⟨rfl, State.Warmed39.refl s, rfl⟩ trivial
  refine ⟨n, _, h1, h2, h3, hpost _ _ _ _ _ _ ⟨Cond.after_iff.mpr rfl, Cond.after_iff.mpr (eq_i res_at (Term.int_eval (1)) rfl), trivial⟩ ⟨hq.1, hq.2.1, (hq.2.2.sift fun y hy => Or.inr (N y hy)).mono (by decide) (by decide)⟩⟩
theorem main_1_1 : Claimed_1_1 := comes_1 fun _ _ _ _ _ _ h hF => ⟨h.1, hF⟩
theorem main_1_2 : Claimed_1_2 := comes_1 fun _ _ _ _ _ _ h hF => ⟨h.2.1, hF⟩
end Jvm.Pilot.@@N@@
namespace Jvm.Pilot.@@N@@
open Jvm Jvm.ClassFile Sem Op Lib Jvm.Free Jvm.Stand Jvm.Pilot.@@N@@.Jvm.D
/-! MADE BY PROGRAM (witnessworld.py) out of the Statement's table words and the real class files: 21 classes; the members and pool entries that the words name. The judged class is class 1, her method 2. -/
namespace start1
open Jvm.ClassFile
def u (s : String) : CpInfo := .utf8 (stringToUtf16 s)
/-- a pool by its gaps: so many unusable entries, then the entry; so many at the end -/
def gap : Nat → List CpInfo → List CpInfo
  | 0, r => r
  | n + 1, r => .unusable :: gap n r
def poolList (es : List (Nat × CpInfo)) (last : Nat) : List CpInfo := es.foldr (fun e r => gap e.1 (e.2 :: r)) (gap last [])
def pool (es : List (Nat × CpInfo)) (last : Nat) : Array CpInfo := ⟨poolList es last⟩
def fileOf (pool : Array CpInfo) (this : Nat) (attrs : Array Attribute := #[]) (ms : Array MethodInfo := #[]) (fl : Nat := 33) (sup : Nat := 0) (ifs : Array Nat := #[]) (fds : Array FieldInfo := #[]) : ClassFile where
  minorVersion := 0
  majorVersion := 65
  constantPool := pool
  accessFlags := fl
  thisClass := this
  superClass := sup
  interfaces := ifs
  fields := fds
  methods := ms
  attributes := attrs
def plain (name : String) (sup : Option ClassId) : Class where
  name := name
  kind := .ordinary
  loader := none
  accessFlags := 33
  super := sup
  interfaces := #[]
  cf := none
  fields := #[]
  methods := #[]
  instanceTypes := #[]
  staticTypes := #[]
  resolved := #[]
  callSites := []
  init := .initialized
  statics := none
  mirror := none

def pool0 : Array CpInfo := pool [(5, u "<init>"), (0, u "()V"), (1, .class_ 10), (1, u "java/lang/Object"), (85, u "clone"), (0, u "()Ljava/lang/Object;")] 26

def k0c0 : Code := { maxStack := 0, maxLocals := 1, code := object_method_1_code, exceptionTable := #[], attributes := #[] }
def k0m0 : Method := { name := "<init>", desc := "()V", sig := { parameters := [], returnType := none }, accessFlags := 1, code := some k0c0 }
def k0m1 : Method := { name := "clone", desc := "()Ljava/lang/Object;", sig := { parameters := [], returnType := some (.object "java/lang/Object") }, accessFlags := 260, code := none }
/-- java/lang/Object -/
def k0 : Class := { plain "java/lang/Object" none with
  accessFlags := 33
  interfaces := #[]
  cf := some (fileOf pool0 8 #[] #[{ accessFlags := 1, nameIndex := 5, descriptorIndex := 6, attributes := #[] }, { accessFlags := 260, nameIndex := 96, descriptorIndex := 97, attributes := #[] }] 33 0 #[] #[])
  fields := #[]
  methods := #[k0m0, k0m1]
  instanceTypes := #[]
  staticTypes := #[]
  resolved := Array.replicate 124 none
  statics := none }

def pool1 : Array CpInfo := pool [(2, .class_ 4), (0, .nameAndType 5 6), (0, u "java/lang/Object"), (0, u "<init>"), (0, u "()V"), (0, .integer 1073741823), (0, .class_ 9), (0, u "com/example/retinue/retinue/Matching$Pairs"), (0, .methodref 8 3), (0, .methodref 8 12), (0, .nameAndType 13 14), (0, u "add"), (0, u "(IID)V"), (0, .double 4611686018427387904), (1, .double 4613937818241073152), (1, .double 4616189618054758400), (1, .double 4617315517961601024), (1, .double 4618441417868443648), (1, .double 4619567317775286272), (1, .double 4620693217682128896), (1, .double 4621256167635550208), (1, .double 4621819117588971520), (1, .double 4622382067542392832), (1, .double 4622945017495814144), (1, .double 4623507967449235456), (1, .double 4624070917402656768), (1, .double 4624633867356078080), (3, .integer 2147483647), (0, .methodref 8 47), (0, .nameAndType 48 49), (0, u "batch"), (0, u "(II)Lcom/example/retinue/retinue/Matching$Batch;"), (0, .methodref 51 52), (0, .class_ 53), (0, .nameAndType 54 55), (0, u "com/example/retinue/retinue/Matching$Batch"), (0, u "worker"), (0, u "()[I"), (0, .methodref 51 57), (0, .nameAndType 58 55), (0, u "task"), (0, .methodref 51 60), (0, .nameAndType 61 62), (0, u "weight"), (0, u "()[D"), (0, .methodref 64 65), (0, .class_ 66), (0, .nameAndType 67 68), (0, u "com/example/retinue/retinue/PairsAddPinLaw"), (0, u "at"), (0, u "([I[I[DIIID)Z"), (3, u "law"), (0, u "(IIII)Z")] 11

def k1m0 : Method := { name := "<init>", desc := "()V", sig := { parameters := [], returnType := none }, accessFlags := 1, code := none }
def k1c1 : Code := { maxStack := 6, maxLocals := 8, code := method_2_code, exceptionTable := #[], attributes := #[] }
def k1m1 : Method := { name := "at", desc := "([I[I[DIIID)Z", sig := { parameters := [(.array .int), (.array .int), (.array .double), .int, .int, .int, .double], returnType := some .boolean }, accessFlags := 10, code := some k1c1 }
def k1c2 : Code := { maxStack := 8, maxLocals := 16, code := code, exceptionTable := #[], attributes := #[] }
def k1m2 : Method := { name := "law", desc := "(IIII)Z", sig := { parameters := [.int, .int, .int, .int], returnType := some .boolean }, accessFlags := 9, code := some k1c2 }
/-- com/example/retinue/retinue/PairsAddPinLaw -/
def k1 : Class := { plain "com/example/retinue/retinue/PairsAddPinLaw" (some 0) with
  accessFlags := 49
  interfaces := #[]
  cf := some (fileOf pool1 64 #[] #[{ accessFlags := 1, nameIndex := 5, descriptorIndex := 6, attributes := #[] }, { accessFlags := 10, nameIndex := 67, descriptorIndex := 68, attributes := #[] }, { accessFlags := 9, nameIndex := 72, descriptorIndex := 73, attributes := #[] }] 49 2 #[] #[])
  fields := #[]
  methods := #[k1m0, k1m1, k1m2]
  instanceTypes := #[]
  staticTypes := #[]
  resolved := Array.replicate 85 none
  statics := none }

def pool2 : Array CpInfo := pool [(1, .methodref 2 3), (0, .class_ 4), (0, .nameAndType 5 6), (0, u "java/lang/Object"), (0, u "<init>"), (0, u "()V"), (0, .fieldref 8 9), (0, .class_ 10), (0, .nameAndType 11 12), (0, u "com/example/retinue/retinue/Matching$Pairs"), (0, u "worker"), (0, u "[I"), (0, .fieldref 8 14), (0, .nameAndType 15 12), (0, u "task"), (0, .fieldref 8 17), (0, .nameAndType 18 19), (0, u "weight"), (0, u "[D"), (0, .fieldref 8 21), (0, .nameAndType 22 23), (0, u "count"), (0, u "I"), (0, .methodref 25 26), (0, .class_ 27), (0, .nameAndType 28 29), (0, u "java/util/Arrays"), (0, u "copyOf"), (0, u "([II)[I"), (0, .methodref 25 31), (0, .nameAndType 28 32), (0, u "([DI)[D"), (0, .class_ 34), (0, u "com/example/retinue/retinue/Matching$Batch"), (0, .methodref 33 36), (0, .nameAndType 5 37), (0, u "(II[I[I[D)V"), (2, u "add"), (0, u "(IID)V"), (1, u "batch"), (0, u "(II)Lcom/example/retinue/retinue/Matching$Batch;"), (3, .class_ 49), (0, u "com/example/retinue/retinue/Matching")] 3

def k2c0 : Code := { maxStack := 2, maxLocals := 1, code := prog_17_method_1_code, exceptionTable := #[], attributes := #[] }
def k2m0 : Method := { name := "<init>", desc := "()V", sig := { parameters := [], returnType := none }, accessFlags := 0, code := some k2c0 }
def k2c1 : Code := { maxStack := 4, maxLocals := 6, code := prog_17_method_2_code, exceptionTable := #[], attributes := #[] }
def k2m1 : Method := { name := "add", desc := "(IID)V", sig := { parameters := [.int, .int, .double], returnType := none }, accessFlags := 0, code := some k2c1 }
def k2c2 : Code := { maxStack := 8, maxLocals := 3, code := prog_17_method_3_code, exceptionTable := #[], attributes := #[] }
def k2m2 : Method := { name := "batch", desc := "(II)Lcom/example/retinue/retinue/Matching$Batch;", sig := { parameters := [.int, .int], returnType := some (.object "com/example/retinue/retinue/Matching$Batch") }, accessFlags := 0, code := some k2c2 }
/-- com/example/retinue/retinue/Matching$Pairs -/
def k2 : Class := { plain "com/example/retinue/retinue/Matching$Pairs" (some 0) with
  accessFlags := 48
  interfaces := #[]
  cf := some (fileOf pool2 8 #[.nestHost 48] #[{ accessFlags := 0, nameIndex := 5, descriptorIndex := 6, attributes := #[] }, { accessFlags := 0, nameIndex := 40, descriptorIndex := 41, attributes := #[] }, { accessFlags := 0, nameIndex := 43, descriptorIndex := 44, attributes := #[] }] 48 2 #[] #[{ accessFlags := 2, nameIndex := 11, descriptorIndex := 12, attributes := #[] }, { accessFlags := 2, nameIndex := 15, descriptorIndex := 12, attributes := #[] }, { accessFlags := 2, nameIndex := 18, descriptorIndex := 19, attributes := #[] }, { accessFlags := 2, nameIndex := 22, descriptorIndex := 23, attributes := #[] }])
  fields := #[{ name := "worker", type := (.array .int), accessFlags := 2, slot := 0, constantValue := 0 }, { name := "task", type := (.array .int), accessFlags := 2, slot := 1, constantValue := 0 }, { name := "weight", type := (.array .double), accessFlags := 2, slot := 2, constantValue := 0 }, { name := "count", type := .int, accessFlags := 2, slot := 3, constantValue := 0 }]
  methods := #[k2m0, k2m1, k2m2]
  instanceTypes := #[(.array .int), (.array .int), (.array .double), .int]
  staticTypes := #[]
  resolved := Array.replicate 53 none
  statics := none }

def pool3 : Array CpInfo := pool [(2, .class_ 4), (1, u "java/lang/Object"), (0, u "<init>"), (0, u "()V"), (7, .class_ 16), (1, u "java/util/Arrays"), (57, .class_ 76), (1, u "java/util/Arrays$NaturalOrder"), (32, u "()Ljava/lang/Object;"), (3, .class_ 115), (1, u "java/util/Arrays$LegacyMergeSort"), (1, u "Z"), (10, .nameAndType 129 109), (0, u "clone"), (20, .methodref 151 152), (0, .class_ 153), (0, .nameAndType 154 155), (0, u "java/lang/System"), (0, u "arraycopy"), (0, u "(Ljava/lang/Object;ILjava/lang/Object;II)V"), (146, u "copyOf"), (1, .methodref 305 306), (0, .class_ 307), (0, .nameAndType 308 309), (0, u "java/lang/Math"), (0, u "min"), (0, u "(II)I"), (6, .methodref 317 128), (0, .class_ 318), (0, u "[I"), (9, .methodref 329 128), (0, .class_ 330), (0, u "[D"), (44, .class_ 376), (0, u "java/util/Arrays$ArrayList"), (68, u "$assertionsDisabled"), (269, u "MIN_ARRAY_SORT_GRAN"), (0, u "I"), (2, u "INSERTIONSORT_THRESHOLD"), (151, u "([II)[I"), (3, u "([DI)[D"), (99, .class_ 976), (0, u "java/util/Arrays$ArrayItr")] 52

def k3m0 : Method := { name := "<init>", desc := "()V", sig := { parameters := [], returnType := none }, accessFlags := 2, code := none }
def k3c1 : Code := { maxStack := 6, maxLocals := 3, code := jdk_65_method_123_code, exceptionTable := #[], attributes := #[] }
def k3m1 : Method := { name := "copyOf", desc := "([II)[I", sig := { parameters := [(.array .int), .int], returnType := some (.array .int) }, accessFlags := 9, code := some k3c1 }
def k3c2 : Code := { maxStack := 6, maxLocals := 3, code := jdk_65_method_127_code, exceptionTable := #[], attributes := #[] }
def k3m2 : Method := { name := "copyOf", desc := "([DI)[D", sig := { parameters := [(.array .double), .int], returnType := some (.array .double) }, accessFlags := 9, code := some k3c2 }
/-- java/util/Arrays -/
def k3 : Class := { plain "java/util/Arrays" (some 0) with
  accessFlags := 49
  interfaces := #[]
  cf := some (fileOf pool3 14 #[.nestMembers #[975, 375, 113, 74]] #[{ accessFlags := 2, nameIndex := 5, descriptorIndex := 6, attributes := #[] }, { accessFlags := 9, nameIndex := 302, descriptorIndex := 871, attributes := #[] }, { accessFlags := 9, nameIndex := 302, descriptorIndex := 875, attributes := #[] }] 49 2 #[] #[{ accessFlags := 26, nameIndex := 715, descriptorIndex := 716, attributes := #[] }, { accessFlags := 26, nameIndex := 719, descriptorIndex := 716, attributes := #[] }, { accessFlags := 4120, nameIndex := 445, descriptorIndex := 117, attributes := #[] }])
  fields := #[{ name := "MIN_ARRAY_SORT_GRAN", type := .int, accessFlags := 26, slot := 0, constantValue := 0 }, { name := "INSERTIONSORT_THRESHOLD", type := .int, accessFlags := 26, slot := 1, constantValue := 0 }, { name := "$assertionsDisabled", type := .boolean, accessFlags := 4120, slot := 2, constantValue := 0 }]
  methods := #[k3m0, k3m1, k3m2]
  instanceTypes := #[]
  staticTypes := #[.int, .int, .boolean]
  resolved := Array.replicate 1029 none
  statics := none }

def pool4 : Array CpInfo := pool [(1, .class_ 2), (0, u "java/lang/Math"), (1, .class_ 6), (1, u "java/lang/Object"), (0, u "<init>"), (0, u "()V"), (5, u "(D)D"), (83, .class_ 100), (1, u "java/lang/Math$RandomNumberGeneratorHolder"), (23, u "abs"), (47, u "negativeZeroFloatBits"), (0, u "J"), (2, u "negativeZeroDoubleBits"), (24, u "min"), (43, u "$assertionsDisabled"), (0, u "Z"), (88, u "(II)I"), (2, u "twoToTheDoubleScaleDown"), (0, u "D"), (4, u "twoToTheDoubleScaleUp"), (9, u "E"), (3, u "PI"), (2, u "TAU"), (2, u "DEGREES_TO_RADIANS"), (0, u "RADIANS_TO_DEGREES")] 94

def k4m0 : Method := { name := "<init>", desc := "()V", sig := { parameters := [], returnType := none }, accessFlags := 2, code := none }
def k4c1 : Code := { maxStack := 4, maxLocals := 2, code := jdk_29_method_64_code, exceptionTable := #[], attributes := #[] }
def k4m1 : Method := { name := "abs", desc := "(D)D", sig := { parameters := [.double], returnType := some .double }, accessFlags := 9, code := some k4c1 }
def k4c2 : Code := { maxStack := 2, maxLocals := 2, code := jdk_29_method_69_code, exceptionTable := #[], attributes := #[] }
def k4m2 : Method := { name := "min", desc := "(II)I", sig := { parameters := [.int, .int], returnType := some .int }, accessFlags := 9, code := some k4c2 }
/-- java/lang/Math -/
def k4 : Class := { plain "java/lang/Math" (some 0) with
  accessFlags := 49
  interfaces := #[]
  cf := some (fileOf pool4 1 #[.nestMembers #[98]] #[{ accessFlags := 2, nameIndex := 7, descriptorIndex := 8, attributes := #[] }, { accessFlags := 9, nameIndex := 124, descriptorIndex := 14, attributes := #[] }, { accessFlags := 9, nameIndex := 201, descriptorIndex := 335, attributes := #[] }] 49 4 #[] #[{ accessFlags := 25, nameIndex := 354, descriptorIndex := 339, attributes := #[] }, { accessFlags := 25, nameIndex := 358, descriptorIndex := 339, attributes := #[] }, { accessFlags := 25, nameIndex := 361, descriptorIndex := 339, attributes := #[] }, { accessFlags := 26, nameIndex := 364, descriptorIndex := 339, attributes := #[] }, { accessFlags := 26, nameIndex := 365, descriptorIndex := 339, attributes := #[] }, { accessFlags := 26, nameIndex := 172, descriptorIndex := 173, attributes := #[] }, { accessFlags := 26, nameIndex := 176, descriptorIndex := 173, attributes := #[] }, { accessFlags := 8, nameIndex := 344, descriptorIndex := 339, attributes := #[] }, { accessFlags := 8, nameIndex := 338, descriptorIndex := 339, attributes := #[] }, { accessFlags := 4120, nameIndex := 245, descriptorIndex := 246, attributes := #[] }])
  fields := #[{ name := "E", type := .double, accessFlags := 25, slot := 0, constantValue := 0 }, { name := "PI", type := .double, accessFlags := 25, slot := 1, constantValue := 0 }, { name := "TAU", type := .double, accessFlags := 25, slot := 2, constantValue := 0 }, { name := "DEGREES_TO_RADIANS", type := .double, accessFlags := 26, slot := 3, constantValue := 0 }, { name := "RADIANS_TO_DEGREES", type := .double, accessFlags := 26, slot := 4, constantValue := 0 }, { name := "negativeZeroFloatBits", type := .long, accessFlags := 26, slot := 5, constantValue := 0 }, { name := "negativeZeroDoubleBits", type := .long, accessFlags := 26, slot := 6, constantValue := 0 }, { name := "twoToTheDoubleScaleUp", type := .double, accessFlags := 8, slot := 7, constantValue := 0 }, { name := "twoToTheDoubleScaleDown", type := .double, accessFlags := 8, slot := 8, constantValue := 0 }, { name := "$assertionsDisabled", type := .boolean, accessFlags := 4120, slot := 9, constantValue := 0 }]
  methods := #[k4m0, k4m1, k4m2]
  instanceTypes := #[]
  staticTypes := #[.double, .double, .double, .double, .double, .long, .long, .double, .double, .boolean]
  resolved := Array.replicate 460 none
  statics := none }

def pool5 : Array CpInfo := pool [(2, .class_ 4), (1, u "java/lang/Object"), (0, u "<init>"), (0, u "()V"), (1, .class_ 10), (1, u "java/lang/System"), (0, u "allowSecurityManager"), (0, u "I"), (16, u "cons"), (0, u "Ljava/io/Console;"), (77, .class_ 110), (1, u "java/lang/System$CallersHolder"), (43, u "initialErrStream"), (0, u "Ljava/io/PrintStream;"), (19, u "security"), (0, u "Ljava/lang/SecurityManager;"), (31, .class_ 209), (0, u "java/lang/System$1"), (7, u "props"), (0, u "Ljava/util/Properties;"), (2, u "lineSeparator"), (0, u "Ljava/lang/String;"), (96, .class_ 321), (1, u "java/lang/System$LoggerFinder"), (5, .class_ 328), (0, u "java/lang/System$Logger"), (67, u "err"), (2, u "out"), (91, u "notSupportedJnuEncoding"), (15, u "in"), (17, u "initialIn"), (0, u "Ljava/io/InputStream;"), (35, u "bootLayer"), (0, u "Ljava/lang/ModuleLayer;"), (99, .class_ 664), (0, u "java/lang/System$2"), (9, u "NEVER"), (2, u "MAYBE"), (49, u "arraycopy"), (0, u "(Ljava/lang/Object;ILjava/lang/Object;II)V"), (72, .class_ 802), (0, u "java/lang/System$Logger$Level")] 31

def k5m0 : Method := { name := "<init>", desc := "()V", sig := { parameters := [], returnType := none }, accessFlags := 2, code := none }
def k5m1 : Method := { name := "arraycopy", desc := "(Ljava/lang/Object;ILjava/lang/Object;II)V", sig := { parameters := [(.object "java/lang/Object"), .int, (.object "java/lang/Object"), .int, .int], returnType := none }, accessFlags := 265, code := none }
/-- java/lang/System -/
def k5 : Class := { plain "java/lang/System" (some 0) with
  accessFlags := 49
  interfaces := #[]
  cf := some (fileOf pool5 8 #[.nestMembers #[319, 327, 801, 108, 663, 208]] #[{ accessFlags := 2, nameIndex := 5, descriptorIndex := 6, attributes := #[] }, { accessFlags := 265, nameIndex := 727, descriptorIndex := 728, attributes := #[] }] 49 2 #[] #[{ accessFlags := 25, nameIndex := 507, descriptorIndex := 526, attributes := #[] }, { accessFlags := 25, nameIndex := 399, descriptorIndex := 155, attributes := #[] }, { accessFlags := 25, nameIndex := 396, descriptorIndex := 155, attributes := #[] }, { accessFlags := 10, nameIndex := 525, descriptorIndex := 526, attributes := #[] }, { accessFlags := 26, nameIndex := 674, descriptorIndex := 12, attributes := #[] }, { accessFlags := 26, nameIndex := 677, descriptorIndex := 12, attributes := #[] }, { accessFlags := 10, nameIndex := 11, descriptorIndex := 12, attributes := #[] }, { accessFlags := 74, nameIndex := 175, descriptorIndex := 176, attributes := #[] }, { accessFlags := 10, nameIndex := 491, descriptorIndex := 222, attributes := #[] }, { accessFlags := 74, nameIndex := 29, descriptorIndex := 30, attributes := #[] }, { accessFlags := 74, nameIndex := 154, descriptorIndex := 155, attributes := #[] }, { accessFlags := 10, nameIndex := 217, descriptorIndex := 218, attributes := #[] }, { accessFlags := 10, nameIndex := 221, descriptorIndex := 222, attributes := #[] }, { accessFlags := 8, nameIndex := 562, descriptorIndex := 563, attributes := #[] }])
  fields := #[{ name := "in", type := (.object "java/io/InputStream"), accessFlags := 25, slot := 0, constantValue := 0 }, { name := "out", type := (.object "java/io/PrintStream"), accessFlags := 25, slot := 1, constantValue := 0 }, { name := "err", type := (.object "java/io/PrintStream"), accessFlags := 25, slot := 2, constantValue := 0 }, { name := "initialIn", type := (.object "java/io/InputStream"), accessFlags := 10, slot := 3, constantValue := 0 }, { name := "NEVER", type := .int, accessFlags := 26, slot := 4, constantValue := 0 }, { name := "MAYBE", type := .int, accessFlags := 26, slot := 5, constantValue := 0 }, { name := "allowSecurityManager", type := .int, accessFlags := 10, slot := 6, constantValue := 0 }, { name := "security", type := (.object "java/lang/SecurityManager"), accessFlags := 74, slot := 7, constantValue := 0 }, { name := "notSupportedJnuEncoding", type := (.object "java/lang/String"), accessFlags := 10, slot := 8, constantValue := 0 }, { name := "cons", type := (.object "java/io/Console"), accessFlags := 74, slot := 9, constantValue := 0 }, { name := "initialErrStream", type := (.object "java/io/PrintStream"), accessFlags := 74, slot := 10, constantValue := 0 }, { name := "props", type := (.object "java/util/Properties"), accessFlags := 10, slot := 11, constantValue := 0 }, { name := "lineSeparator", type := (.object "java/lang/String"), accessFlags := 10, slot := 12, constantValue := 0 }, { name := "bootLayer", type := (.object "java/lang/ModuleLayer"), accessFlags := 8, slot := 13, constantValue := 0 }]
  methods := #[k5m0, k5m1]
  instanceTypes := #[]
  staticTypes := #[(.object "java/io/InputStream"), (.object "java/io/PrintStream"), (.object "java/io/PrintStream"), (.object "java/io/InputStream"), .int, .int, .int, (.object "java/lang/SecurityManager"), (.object "java/lang/String"), (.object "java/io/Console"), (.object "java/io/PrintStream"), (.object "java/util/Properties"), (.object "java/lang/String"), (.object "java/lang/ModuleLayer")]
  resolved := Array.replicate 834 none
  statics := none }

def pool6 : Array CpInfo := pool [(1, .methodref 2 3), (0, .class_ 4), (0, .nameAndType 5 6), (0, u "java/lang/Object"), (0, u "<init>"), (0, u "()V"), (0, .class_ 8), (0, u "java/lang/Record")] 13

def k6c0 : Code := { maxStack := 1, maxLocals := 1, code := jdk_30_method_1_code, exceptionTable := #[], attributes := #[] }
def k6m0 : Method := { name := "<init>", desc := "()V", sig := { parameters := [], returnType := none }, accessFlags := 4, code := some k6c0 }
/-- java/lang/Record -/
def k6 : Class := { plain "java/lang/Record" (some 0) with
  accessFlags := 1057
  interfaces := #[]
  cf := some (fileOf pool6 7 #[] #[{ accessFlags := 4, nameIndex := 5, descriptorIndex := 6, attributes := #[] }] 1057 2 #[] #[])
  fields := #[]
  methods := #[k6m0]
  instanceTypes := #[]
  staticTypes := #[]
  resolved := Array.replicate 22 none
  statics := none }

def pool7 : Array CpInfo := pool [(1, .methodref 2 3), (0, .class_ 4), (0, .nameAndType 5 6), (0, u "java/lang/Record"), (0, u "<init>"), (0, u "()V"), (7, .methodref 15 16), (0, .class_ 17), (0, .nameAndType 18 19), (0, u "java/lang/Double"), (0, u "isFinite"), (0, u "(D)Z"), (4, .fieldref 25 26), (0, .class_ 27), (0, .nameAndType 28 29), (0, u "com/example/retinue/retinue/Matching$Batch"), (0, u "workers"), (0, u "I"), (0, .fieldref 25 31), (0, .nameAndType 32 29), (0, u "tasks"), (0, .fieldref 25 34), (0, .nameAndType 35 36), (0, u "worker"), (0, u "[I"), (0, .fieldref 25 38), (0, .nameAndType 39 36), (0, u "task"), (0, .fieldref 25 41), (0, .nameAndType 42 43), (0, u "weight"), (0, u "[D"), (12, u "(II[I[I[D)V"), (10, u "()[I"), (0, u "()[D"), (3, .class_ 73), (0, u "com/example/retinue/retinue/Matching")] 31

def k7c0 : Code := { maxStack := 3, maxLocals := 7, code := prog_16_method_1_code, exceptionTable := #[], attributes := #[] }
def k7m0 : Method := { name := "<init>", desc := "(II[I[I[D)V", sig := { parameters := [.int, .int, (.array .int), (.array .int), (.array .double)], returnType := none }, accessFlags := 0, code := some k7c0 }
def k7c1 : Code := { maxStack := 1, maxLocals := 1, code := prog_16_method_8_code, exceptionTable := #[], attributes := #[] }
def k7m1 : Method := { name := "worker", desc := "()[I", sig := { parameters := [], returnType := some (.array .int) }, accessFlags := 1, code := some k7c1 }
def k7c2 : Code := { maxStack := 1, maxLocals := 1, code := prog_16_method_9_code, exceptionTable := #[], attributes := #[] }
def k7m2 : Method := { name := "task", desc := "()[I", sig := { parameters := [], returnType := some (.array .int) }, accessFlags := 1, code := some k7c2 }
def k7c3 : Code := { maxStack := 1, maxLocals := 1, code := prog_16_method_10_code, exceptionTable := #[], attributes := #[] }
def k7m3 : Method := { name := "weight", desc := "()[D", sig := { parameters := [], returnType := some (.array .double) }, accessFlags := 1, code := some k7c3 }
/-- com/example/retinue/retinue/Matching$Batch -/
def k7 : Class := { plain "com/example/retinue/retinue/Matching$Batch" (some 6) with
  accessFlags := 48
  interfaces := #[]
  cf := some (fileOf pool7 25 #[.nestHost 72] #[{ accessFlags := 0, nameIndex := 5, descriptorIndex := 56, attributes := #[] }, { accessFlags := 1, nameIndex := 35, descriptorIndex := 67, attributes := #[] }, { accessFlags := 1, nameIndex := 39, descriptorIndex := 67, attributes := #[] }, { accessFlags := 1, nameIndex := 42, descriptorIndex := 68, attributes := #[] }] 48 2 #[] #[{ accessFlags := 18, nameIndex := 28, descriptorIndex := 29, attributes := #[] }, { accessFlags := 18, nameIndex := 32, descriptorIndex := 29, attributes := #[] }, { accessFlags := 18, nameIndex := 35, descriptorIndex := 36, attributes := #[] }, { accessFlags := 18, nameIndex := 39, descriptorIndex := 36, attributes := #[] }, { accessFlags := 18, nameIndex := 42, descriptorIndex := 43, attributes := #[] }])
  fields := #[{ name := "workers", type := .int, accessFlags := 18, slot := 0, constantValue := 0 }, { name := "tasks", type := .int, accessFlags := 18, slot := 1, constantValue := 0 }, { name := "worker", type := (.array .int), accessFlags := 18, slot := 2, constantValue := 0 }, { name := "task", type := (.array .int), accessFlags := 18, slot := 3, constantValue := 0 }, { name := "weight", type := (.array .double), accessFlags := 18, slot := 4, constantValue := 0 }]
  methods := #[k7m0, k7m1, k7m2, k7m3]
  instanceTypes := #[.int, .int, (.array .int), (.array .int), (.array .double)]
  staticTypes := #[]
  resolved := Array.replicate 105 none
  statics := none }

def pool8 : Array CpInfo := pool [(1, .class_ 2), (0, u "java/io/Serializable"), (0, .class_ 4), (0, u "java/lang/Object")] 2

/-- java/io/Serializable -/
def k8 : Class := { plain "java/io/Serializable" (some 0) with
  accessFlags := 1537
  interfaces := #[]
  cf := some (fileOf pool8 1 #[] #[] 1537 3 #[] #[])
  fields := #[]
  methods := #[]
  instanceTypes := #[]
  staticTypes := #[]
  resolved := Array.replicate 7 none
  statics := none }

def pool9 : Array CpInfo := pool [(2, .class_ 4), (1, u "java/lang/Object"), (0, u "<init>"), (0, u "()V"), (1, .class_ 10), (1, u "java/lang/Number"), (2, .class_ 14), (0, u "java/io/Serializable"), (0, u "serialVersionUID"), (0, u "J")] 20

def k9m0 : Method := { name := "<init>", desc := "()V", sig := { parameters := [], returnType := none }, accessFlags := 1, code := none }
/-- java/lang/Number -/
def k9 : Class := { plain "java/lang/Number" (some 0) with
  accessFlags := 1057
  interfaces := #[8]
  cf := some (fileOf pool9 8 #[] #[{ accessFlags := 1, nameIndex := 5, descriptorIndex := 6, attributes := #[] }] 1057 2 #[13] #[{ accessFlags := 26, nameIndex := 15, descriptorIndex := 16, attributes := #[] }])
  fields := #[{ name := "serialVersionUID", type := .long, accessFlags := 26, slot := 0, constantValue := 0 }]
  methods := #[k9m0]
  instanceTypes := #[]
  staticTypes := #[.long]
  resolved := Array.replicate 37 none
  statics := none }

def pool10 : Array CpInfo := pool [(1, .class_ 2), (0, u "java/lang/Comparable"), (0, .class_ 4), (0, u "java/lang/Object")] 7

/-- java/lang/Comparable -/
def k10 : Class := { plain "java/lang/Comparable" (some 0) with
  accessFlags := 1537
  interfaces := #[]
  cf := some (fileOf pool10 1 #[] #[] 1537 3 #[] #[])
  fields := #[]
  methods := #[]
  instanceTypes := #[]
  staticTypes := #[]
  resolved := Array.replicate 12 none
  statics := none }

def pool11 : Array CpInfo := pool [(1, .class_ 2), (0, u "java/lang/constant/Constable"), (0, .class_ 4), (0, u "java/lang/Object")] 6

/-- java/lang/constant/Constable -/
def k11 : Class := { plain "java/lang/constant/Constable" (some 0) with
  accessFlags := 1537
  interfaces := #[]
  cf := some (fileOf pool11 1 #[] #[] 1537 3 #[] #[])
  fields := #[]
  methods := #[]
  instanceTypes := #[]
  staticTypes := #[]
  resolved := Array.replicate 11 none
  statics := none }

def pool12 : Array CpInfo := pool [(1, .class_ 2), (0, u "java/lang/constant/ConstantDesc"), (0, .class_ 4), (0, u "java/lang/Object")] 32

/-- java/lang/constant/ConstantDesc -/
def k12 : Class := { plain "java/lang/constant/ConstantDesc" (some 0) with
  accessFlags := 1537
  interfaces := #[]
  cf := some (fileOf pool12 1 #[] #[] 1537 3 #[] #[])
  fields := #[]
  methods := #[]
  instanceTypes := #[]
  staticTypes := #[]
  resolved := Array.replicate 37 none
  statics := none }

def pool13 : Array CpInfo := pool [(1, .class_ 2), (0, u "java/lang/Double"), (10, u "isFinite"), (0, u "(D)Z"), (8, .class_ 25), (1, u "java/lang/Math"), (12, .methodref 23 39), (0, .nameAndType 40 41), (0, u "abs"), (0, u "(D)D"), (69, .double 9218868437227405311), (2, .class_ 116), (1, u "java/lang/Number"), (3, u "value"), (0, u "D"), (51, u "TYPE"), (0, u "Ljava/lang/Class;"), (0, .class_ 176), (0, u "java/lang/Comparable"), (0, .class_ 178), (0, u "java/lang/constant/Constable"), (0, .class_ 180), (0, u "java/lang/constant/ConstantDesc"), (0, u "POSITIVE_INFINITY"), (3, u "NEGATIVE_INFINITY"), (2, u "NaN"), (2, u "MAX_VALUE"), (0, u "MIN_NORMAL"), (0, u "MIN_VALUE"), (2, u "SIZE"), (0, u "I"), (1, u "PRECISION"), (1, u "MAX_EXPONENT"), (1, u "MIN_EXPONENT"), (1, u "BYTES"), (3, u "serialVersionUID"), (0, u "J")] 79

def k13c0 : Code := { maxStack := 4, maxLocals := 2, code := jdk_117_method_8_code, exceptionTable := #[], attributes := #[] }
def k13m0 : Method := { name := "isFinite", desc := "(D)Z", sig := { parameters := [.double], returnType := some .boolean }, accessFlags := 9, code := some k13c0 }
/-- java/lang/Double -/
def k13 : Class := { plain "java/lang/Double" (some 9) with
  accessFlags := 49
  interfaces := #[10, 11, 12]
  cf := some (fileOf pool13 1 #[] #[{ accessFlags := 9, nameIndex := 13, descriptorIndex := 14, attributes := #[] }] 49 114 #[175, 177, 179] #[{ accessFlags := 25, nameIndex := 181, descriptorIndex := 121, attributes := #[] }, { accessFlags := 25, nameIndex := 185, descriptorIndex := 121, attributes := #[] }, { accessFlags := 25, nameIndex := 188, descriptorIndex := 121, attributes := #[] }, { accessFlags := 25, nameIndex := 191, descriptorIndex := 121, attributes := #[] }, { accessFlags := 25, nameIndex := 192, descriptorIndex := 121, attributes := #[] }, { accessFlags := 25, nameIndex := 193, descriptorIndex := 121, attributes := #[] }, { accessFlags := 25, nameIndex := 196, descriptorIndex := 197, attributes := #[] }, { accessFlags := 25, nameIndex := 199, descriptorIndex := 197, attributes := #[] }, { accessFlags := 25, nameIndex := 201, descriptorIndex := 197, attributes := #[] }, { accessFlags := 25, nameIndex := 203, descriptorIndex := 197, attributes := #[] }, { accessFlags := 25, nameIndex := 205, descriptorIndex := 197, attributes := #[] }, { accessFlags := 25, nameIndex := 173, descriptorIndex := 174, attributes := #[] }, { accessFlags := 18, nameIndex := 120, descriptorIndex := 121, attributes := #[] }, { accessFlags := 26, nameIndex := 209, descriptorIndex := 210, attributes := #[] }])
  fields := #[{ name := "POSITIVE_INFINITY", type := .double, accessFlags := 25, slot := 0, constantValue := 0 }, { name := "NEGATIVE_INFINITY", type := .double, accessFlags := 25, slot := 1, constantValue := 0 }, { name := "NaN", type := .double, accessFlags := 25, slot := 2, constantValue := 0 }, { name := "MAX_VALUE", type := .double, accessFlags := 25, slot := 3, constantValue := 0 }, { name := "MIN_NORMAL", type := .double, accessFlags := 25, slot := 4, constantValue := 0 }, { name := "MIN_VALUE", type := .double, accessFlags := 25, slot := 5, constantValue := 0 }, { name := "SIZE", type := .int, accessFlags := 25, slot := 6, constantValue := 0 }, { name := "PRECISION", type := .int, accessFlags := 25, slot := 7, constantValue := 0 }, { name := "MAX_EXPONENT", type := .int, accessFlags := 25, slot := 8, constantValue := 0 }, { name := "MIN_EXPONENT", type := .int, accessFlags := 25, slot := 9, constantValue := 0 }, { name := "BYTES", type := .int, accessFlags := 25, slot := 10, constantValue := 0 }, { name := "TYPE", type := (.object "java/lang/Class"), accessFlags := 25, slot := 11, constantValue := 0 }, { name := "value", type := .double, accessFlags := 18, slot := 0, constantValue := 0 }, { name := "serialVersionUID", type := .long, accessFlags := 26, slot := 12, constantValue := 0 }]
  methods := #[k13m0]
  instanceTypes := #[.double]
  staticTypes := #[.double, .double, .double, .double, .double, .double, .int, .int, .int, .int, .int, (.object "java/lang/Class"), .long]
  resolved := Array.replicate 290 none
  statics := none }

def pool14 : Array CpInfo := pool [(1, .class_ 2), (0, u "java/lang/Cloneable"), (0, .class_ 4), (0, u "java/lang/Object")] 2

/-- java/lang/Cloneable -/
def k14 : Class := { plain "java/lang/Cloneable" (some 0) with
  accessFlags := 1537
  interfaces := #[]
  cf := some (fileOf pool14 1 #[] #[] 1537 3 #[] #[])
  fields := #[]
  methods := #[]
  instanceTypes := #[]
  staticTypes := #[]
  resolved := Array.replicate 7 none
  statics := none }

/-- the primitive byte -/
def k15 : Class := { plain "byte" none with kind := .primitive 'B', accessFlags := 0x411 }
/-- [B -/
def k16 : Class := { plain "[B" (some 0) with kind := .array 15 .byte, interfaces := #[14, 8], accessFlags := 1041 }

/-- the primitive double -/
def k17 : Class := { plain "double" none with kind := .primitive 'D', accessFlags := 0x411 }
/-- [D -/
def k18 : Class := { plain "[D" (some 0) with kind := .array 17 .double, interfaces := #[14, 8], accessFlags := 1041 }

/-- the primitive int -/
def k19 : Class := { plain "int" none with kind := .primitive 'I', accessFlags := 0x411 }
/-- [I -/
def k20 : Class := { plain "[I" (some 0) with kind := .array 19 .int, interfaces := #[14, 8], accessFlags := 1041 }

def heap : Heap := #[]
def classes : Array Class := #[k0, k1, k2, k3, k4, k5, k6, k7, k8, k9, k10, k11, k12, k13, k14, k15, k16, k17, k18, k19, k20]
def interned : List (Array UInt16 × Addr) := []
def slotsUsed : Nat := 0
def theMethod : MethodId := ⟨1, 2⟩
def args0 : Array Value := #[.int 5, .int 3, .int 1, .int 1]
def aboutOver (below : List Frame) : State where
  vm := { classes := classes, interned := interned.toArray }
  heap := heap
  slotsUsed := slotsUsed
  threads := #[{ frames := .invoking theMethod args0 :: below }]
def below0 : List Frame := [.native { method := ⟨0, 0⟩, args := #[] }]
def about1 : State := aboutOver below0
def p0 : Program := .bare "" "" ""
def e0 : Env := launch0.env 0 0 0
theorem w_frames : about1.frames = Frame.invoking theMethod args0 :: below0 := rfl
set_option maxRecDepth 65536 in
theorem w_args : argsFit about1.vm theMethod args0 = true := by decide +kernel
set_option maxRecDepth 65536 in
theorem w_heap : heapFits about1 = true := by decide +kernel
set_option maxRecDepth 65536 in
theorem w_runnable : about1.curStatus? = some .runnable := by decide +kernel
set_option maxRecDepth 65536 in
theorem w_alone : about1.alone = true := by decide +kernel
set_option maxRecDepth 65536 in
theorem w_named : about1.methodNamed? x = some theMethod := by decide +kernel
set_option maxRecDepth 65536 in
theorem w_hears : about1.hears theMethod below0 = true := by decide +kernel
set_option maxRecDepth 65536 in
theorem w_ripe : about1.ripe theMethod args0 below0 = true := by decide +kernel
theorem w_running : about1.status = .running := rfl
set_option maxRecDepth 65536 in
theorem w_room : about1.hasRoom e0.platform room_1 = true :=
  launch0.hasRoom_least _ room_1 (by decide +kernel) (by decide +kernel) (by decide +kernel) (by decide +kernel) (by decide +kernel) (by decide +kernel)
theorem allAtoms_all (ts : List Jvm.Cond) (a : Array Jvm.Value) (st : Jvm.State) : (allAtoms ts).before a st = ts.all (fun c => c.before a st) := by
  induction ts with
  | nil => rfl
  | cons c t ih =>
    show (Jvm.Cond.and c (allAtoms t)).before a st = _
    rw [Jvm.Cond.before_and, ih, List.all_cons]
def words1 : List Jvm.Cond := Jvm.Cond.code x code maxLocals ret :: tables_1
/-- a 'code' word, met by the world's own term for the bytes: nothing is compared byte by byte -/
theorem code_word {y : MethodName} {bytes : ByteArray} {mx : Nat} {rt : Option FieldType} {a : Array Value} {s : State} {m : MethodId} {meth : Method} {c : Code} (h1 : s.methodNamed? y = some m) (h2 : s.vm.method? m = some meth) (h3 : meth.code = some c) (h4 : c.code = bytes)
    (h5 : (c.maxLocals == mx && c.exceptionTable.isEmpty && decide (c.maxStack ≤ mostOperands) && decide (meth.sig.returnType = rt) && !meth.locks && decide (parseMethodDescriptor y.desc = some meth.sig)) = true) : (Jvm.Cond.code y bytes mx rt).before a s = true := by
  simp only [Bool.and_eq_true, beq_iff_eq, Bool.not_eq_true', decide_eq_true_eq] at h5
  obtain ⟨⟨⟨⟨⟨g1, g2⟩, g3⟩, g4⟩, g5⟩, g6⟩ := h5
  simp [Cond.before, Cond.holds, Cond.value, h1, h2, h3, h4, g1, g2, g3, g4, g5, g6]
def isCode : Jvm.Cond → Bool
  | .code _ _ _ _ => true
  | _ => false
theorem all_split {L : List Jvm.Cond} {P : Jvm.Cond → Bool} (h1 : L.all (fun c => isCode c || P c) = true) (h2 : ∀ c ∈ L.filter isCode, P c = true) : L.all P = true := by
  refine List.all_eq_true.mpr fun c hc => ?_
  have h := List.all_eq_true.mp h1 c hc
  rcases Bool.eq_false_or_eq_true (isCode c) with hi | hi
  · exact h2 c (List.mem_filter.mpr ⟨hc, hi⟩)
  · simpa [hi] using h
set_option maxRecDepth 65536 in
theorem w_c0 : (Jvm.Cond.code x code maxLocals ret).before args0 about1 = true := code_word (m := ⟨1, 2⟩) (meth := k1m2) (c := k1c2) (by decide +kernel) rfl rfl rfl (by decide +kernel)
set_option maxRecDepth 65536 in
theorem w_c1 : (Jvm.Cond.code ({ cls := "com/example/retinue/retinue/Matching$Pairs", name := "<init>", desc := "()V" } : Jvm.MethodName) prog_17_method_1_code (1 : Nat) (Option.none : Option Jvm.ClassFile.FieldType)).before args0 about1 = true := code_word (m := ⟨2, 0⟩) (meth := k2m0) (c := k2c0) (by decide +kernel) rfl rfl rfl (by decide +kernel)
set_option maxRecDepth 65536 in
theorem w_c2 : (Jvm.Cond.code ({ cls := "java/lang/Object", name := "<init>", desc := "()V" } : Jvm.MethodName) object_method_1_code (1 : Nat) (Option.none : Option Jvm.ClassFile.FieldType)).before args0 about1 = true := code_word (m := ⟨0, 0⟩) (meth := k0m0) (c := k0c0) (by decide +kernel) rfl rfl rfl (by decide +kernel)
set_option maxRecDepth 65536 in
theorem w_c3 : (Jvm.Cond.code ({ cls := "com/example/retinue/retinue/Matching$Pairs", name := "add", desc := "(IID)V" } : Jvm.MethodName) prog_17_method_2_code (6 : Nat) (Option.none : Option Jvm.ClassFile.FieldType)).before args0 about1 = true := code_word (m := ⟨2, 1⟩) (meth := k2m1) (c := k2c1) (by decide +kernel) rfl rfl rfl (by decide +kernel)
set_option maxRecDepth 65536 in
theorem w_c4 : (Jvm.Cond.code ({ cls := "java/util/Arrays", name := "copyOf", desc := "([II)[I" } : Jvm.MethodName) jdk_65_method_123_code (3 : Nat) (Option.some (Jvm.ClassFile.FieldType.array Jvm.ClassFile.FieldType.int))).before args0 about1 = true := code_word (m := ⟨3, 1⟩) (meth := k3m1) (c := k3c1) (by decide +kernel) rfl rfl rfl (by decide +kernel)
set_option maxRecDepth 65536 in
theorem w_c5 : (Jvm.Cond.code ({ cls := "java/lang/Math", name := "min", desc := "(II)I" } : Jvm.MethodName) jdk_29_method_69_code (2 : Nat) (Option.some Jvm.ClassFile.FieldType.int)).before args0 about1 = true := code_word (m := ⟨4, 2⟩) (meth := k4m2) (c := k4c2) (by decide +kernel) rfl rfl rfl (by decide +kernel)
set_option maxRecDepth 65536 in
theorem w_c6 : (Jvm.Cond.code ({ cls := "java/util/Arrays", name := "copyOf", desc := "([DI)[D" } : Jvm.MethodName) jdk_65_method_127_code (3 : Nat) (Option.some (Jvm.ClassFile.FieldType.array Jvm.ClassFile.FieldType.double))).before args0 about1 = true := code_word (m := ⟨3, 2⟩) (meth := k3m2) (c := k3c2) (by decide +kernel) rfl rfl rfl (by decide +kernel)
set_option maxRecDepth 65536 in
theorem w_c7 : (Jvm.Cond.code ({ cls := "com/example/retinue/retinue/Matching$Pairs", name := "batch", desc := "(II)Lcom/example/retinue/retinue/Matching$Batch;" } : Jvm.MethodName) prog_17_method_3_code (3 : Nat) (Option.some (Jvm.ClassFile.FieldType.object "com/example/retinue/retinue/Matching$Batch"))).before args0 about1 = true := code_word (m := ⟨2, 2⟩) (meth := k2m2) (c := k2c2) (by decide +kernel) rfl rfl rfl (by decide +kernel)
set_option maxRecDepth 65536 in
theorem w_c8 : (Jvm.Cond.code ({ cls := "com/example/retinue/retinue/Matching$Batch", name := "<init>", desc := "(II[I[I[D)V" } : Jvm.MethodName) prog_16_method_1_code (7 : Nat) (Option.none : Option Jvm.ClassFile.FieldType)).before args0 about1 = true := code_word (m := ⟨7, 0⟩) (meth := k7m0) (c := k7c0) (by decide +kernel) rfl rfl rfl (by decide +kernel)
set_option maxRecDepth 65536 in
theorem w_c9 : (Jvm.Cond.code ({ cls := "java/lang/Record", name := "<init>", desc := "()V" } : Jvm.MethodName) jdk_30_method_1_code (1 : Nat) (Option.none : Option Jvm.ClassFile.FieldType)).before args0 about1 = true := code_word (m := ⟨6, 0⟩) (meth := k6m0) (c := k6c0) (by decide +kernel) rfl rfl rfl (by decide +kernel)
set_option maxRecDepth 65536 in
theorem w_c10 : (Jvm.Cond.code ({ cls := "java/lang/Double", name := "isFinite", desc := "(D)Z" } : Jvm.MethodName) jdk_117_method_8_code (2 : Nat) (Option.some Jvm.ClassFile.FieldType.boolean)).before args0 about1 = true := code_word (m := ⟨13, 0⟩) (meth := k13m0) (c := k13c0) (by decide +kernel) rfl rfl rfl (by decide +kernel)
set_option maxRecDepth 65536 in
theorem w_c11 : (Jvm.Cond.code ({ cls := "java/lang/Math", name := "abs", desc := "(D)D" } : Jvm.MethodName) jdk_29_method_64_code (2 : Nat) (Option.some Jvm.ClassFile.FieldType.double)).before args0 about1 = true := code_word (m := ⟨4, 1⟩) (meth := k4m1) (c := k4c1) (by decide +kernel) rfl rfl rfl (by decide +kernel)
set_option maxRecDepth 65536 in
theorem w_c12 : (Jvm.Cond.code ({ cls := "com/example/retinue/retinue/Matching$Batch", name := "worker", desc := "()[I" } : Jvm.MethodName) prog_16_method_8_code (1 : Nat) (Option.some (Jvm.ClassFile.FieldType.array Jvm.ClassFile.FieldType.int))).before args0 about1 = true := code_word (m := ⟨7, 1⟩) (meth := k7m1) (c := k7c1) (by decide +kernel) rfl rfl rfl (by decide +kernel)
set_option maxRecDepth 65536 in
theorem w_c13 : (Jvm.Cond.code ({ cls := "com/example/retinue/retinue/Matching$Batch", name := "task", desc := "()[I" } : Jvm.MethodName) prog_16_method_9_code (1 : Nat) (Option.some (Jvm.ClassFile.FieldType.array Jvm.ClassFile.FieldType.int))).before args0 about1 = true := code_word (m := ⟨7, 2⟩) (meth := k7m2) (c := k7c2) (by decide +kernel) rfl rfl rfl (by decide +kernel)
set_option maxRecDepth 65536 in
theorem w_c14 : (Jvm.Cond.code ({ cls := "com/example/retinue/retinue/Matching$Batch", name := "weight", desc := "()[D" } : Jvm.MethodName) prog_16_method_10_code (1 : Nat) (Option.some (Jvm.ClassFile.FieldType.array Jvm.ClassFile.FieldType.double))).before args0 about1 = true := code_word (m := ⟨7, 3⟩) (meth := k7m3) (c := k7c3) (by decide +kernel) rfl rfl rfl (by decide +kernel)
set_option maxRecDepth 65536 in
theorem w_c15 : (Jvm.Cond.code ({ cls := "com/example/retinue/retinue/PairsAddPinLaw", name := "at", desc := "([I[I[DIIID)Z" } : Jvm.MethodName) method_2_code (8 : Nat) (Option.some Jvm.ClassFile.FieldType.boolean)).before args0 about1 = true := code_word (m := ⟨1, 1⟩) (meth := k1m1) (c := k1c1) (by decide +kernel) rfl rfl rfl (by decide +kernel)
def codes1 : List Jvm.Cond := [Jvm.Cond.code x code maxLocals ret, Jvm.Cond.code ({ cls := "com/example/retinue/retinue/Matching$Pairs", name := "<init>", desc := "()V" } : Jvm.MethodName) prog_17_method_1_code (1 : Nat) (Option.none : Option Jvm.ClassFile.FieldType), Jvm.Cond.code ({ cls := "java/lang/Object", name := "<init>", desc := "()V" } : Jvm.MethodName) object_method_1_code (1 : Nat) (Option.none : Option Jvm.ClassFile.FieldType), Jvm.Cond.code ({ cls := "com/example/retinue/retinue/Matching$Pairs", name := "add", desc := "(IID)V" } : Jvm.MethodName) prog_17_method_2_code (6 : Nat) (Option.none : Option Jvm.ClassFile.FieldType), Jvm.Cond.code ({ cls := "java/util/Arrays", name := "copyOf", desc := "([II)[I" } : Jvm.MethodName) jdk_65_method_123_code (3 : Nat) (Option.some (Jvm.ClassFile.FieldType.array Jvm.ClassFile.FieldType.int)), Jvm.Cond.code ({ cls := "java/lang/Math", name := "min", desc := "(II)I" } : Jvm.MethodName) jdk_29_method_69_code (2 : Nat) (Option.some Jvm.ClassFile.FieldType.int), Jvm.Cond.code ({ cls := "java/util/Arrays", name := "copyOf", desc := "([DI)[D" } : Jvm.MethodName) jdk_65_method_127_code (3 : Nat) (Option.some (Jvm.ClassFile.FieldType.array Jvm.ClassFile.FieldType.double)), Jvm.Cond.code ({ cls := "com/example/retinue/retinue/Matching$Pairs", name := "batch", desc := "(II)Lcom/example/retinue/retinue/Matching$Batch;" } : Jvm.MethodName) prog_17_method_3_code (3 : Nat) (Option.some (Jvm.ClassFile.FieldType.object "com/example/retinue/retinue/Matching$Batch")), Jvm.Cond.code ({ cls := "com/example/retinue/retinue/Matching$Batch", name := "<init>", desc := "(II[I[I[D)V" } : Jvm.MethodName) prog_16_method_1_code (7 : Nat) (Option.none : Option Jvm.ClassFile.FieldType), Jvm.Cond.code ({ cls := "java/lang/Record", name := "<init>", desc := "()V" } : Jvm.MethodName) jdk_30_method_1_code (1 : Nat) (Option.none : Option Jvm.ClassFile.FieldType), Jvm.Cond.code ({ cls := "java/lang/Double", name := "isFinite", desc := "(D)Z" } : Jvm.MethodName) jdk_117_method_8_code (2 : Nat) (Option.some Jvm.ClassFile.FieldType.boolean), Jvm.Cond.code ({ cls := "java/lang/Math", name := "abs", desc := "(D)D" } : Jvm.MethodName) jdk_29_method_64_code (2 : Nat) (Option.some Jvm.ClassFile.FieldType.double), Jvm.Cond.code ({ cls := "com/example/retinue/retinue/Matching$Batch", name := "worker", desc := "()[I" } : Jvm.MethodName) prog_16_method_8_code (1 : Nat) (Option.some (Jvm.ClassFile.FieldType.array Jvm.ClassFile.FieldType.int)), Jvm.Cond.code ({ cls := "com/example/retinue/retinue/Matching$Batch", name := "task", desc := "()[I" } : Jvm.MethodName) prog_16_method_9_code (1 : Nat) (Option.some (Jvm.ClassFile.FieldType.array Jvm.ClassFile.FieldType.int)), Jvm.Cond.code ({ cls := "com/example/retinue/retinue/Matching$Batch", name := "weight", desc := "()[D" } : Jvm.MethodName) prog_16_method_10_code (1 : Nat) (Option.some (Jvm.ClassFile.FieldType.array Jvm.ClassFile.FieldType.double)), Jvm.Cond.code ({ cls := "com/example/retinue/retinue/PairsAddPinLaw", name := "at", desc := "([I[I[DIIID)Z" } : Jvm.MethodName) method_2_code (8 : Nat) (Option.some Jvm.ClassFile.FieldType.boolean)]
set_option maxRecDepth 65536 in
theorem codes_eq : words1.filter isCode = codes1 := rfl
theorem w_codes : ∀ c ∈ words1.filter isCode, c.before args0 about1 = true := by
  rw [codes_eq]
  intro c hc
  simp only [codes1, List.mem_cons, List.not_mem_nil, or_false] at hc
  rcases hc with rfl | rfl | rfl | rfl | rfl | rfl | rfl | rfl | rfl | rfl | rfl | rfl | rfl | rfl | rfl | rfl
  · exact w_c0
  · exact w_c1
  · exact w_c2
  · exact w_c3
  · exact w_c4
  · exact w_c5
  · exact w_c6
  · exact w_c7
  · exact w_c8
  · exact w_c9
  · exact w_c10
  · exact w_c11
  · exact w_c12
  · exact w_c13
  · exact w_c14
  · exact w_c15
set_option maxRecDepth 65536 in
theorem w_t1 : (words1.take 24).all (fun c => isCode c || c.before args0 about1) = true := by decide +kernel
set_option maxRecDepth 65536 in
theorem w_t2 : ((words1.drop 24).take 24).all (fun c => isCode c || c.before args0 about1) = true := by decide +kernel
set_option maxRecDepth 65536 in
theorem w_t3 : (((words1.drop 24).drop 24).take 24).all (fun c => isCode c || c.before args0 about1) = true := by decide +kernel
set_option maxRecDepth 65536 in
theorem w_t4 : ((((words1.drop 24).drop 24).drop 24).take 24).all (fun c => isCode c || c.before args0 about1) = true := by decide +kernel
set_option maxRecDepth 65536 in
theorem w_t5 : (((((words1.drop 24).drop 24).drop 24).drop 24).take 24).all (fun c => isCode c || c.before args0 about1) = true := by decide +kernel
set_option maxRecDepth 65536 in
theorem w_t6 : (((((words1.drop 24).drop 24).drop 24).drop 24).drop 24).all (fun c => isCode c || c.before args0 about1) = true := by decide +kernel
theorem w_tables : (allAtoms (Jvm.Cond.code x code maxLocals ret :: tables_1)).before args0 about1 = true := by
  rw [allAtoms_all]
  show words1.all (fun c => c.before args0 about1) = true
  refine all_split ?_ w_codes
  rw [← List.take_append_drop 24 words1, List.all_append, w_t1, ← List.take_append_drop 24 (words1.drop 24), List.all_append, w_t2, ← List.take_append_drop 24 ((words1.drop 24).drop 24), List.all_append, w_t3, ← List.take_append_drop 24 (((words1.drop 24).drop 24).drop 24), List.all_append, w_t4, ← List.take_append_drop 24 ((((words1.drop 24).drop 24).drop 24).drop 24), List.all_append, w_t5, w_t6]
  rfl
set_option maxRecDepth 65536 in
theorem w_case : (Jvm.Cond.and given_1 narrow_1).before args0 about1 = true := by decide +kernel
theorem w_applies : (headSpec (Jvm.Cond.code x code maxLocals ret :: tables_1) room_1).applies x e0.platform about1 = true :=
  (Spec.applies_iff w_frames).mpr ⟨w_running, w_runnable, w_alone, w_named, w_hears, w_ripe, w_room, w_tables⟩
theorem atStart : AtStart classFile x code maxLocals ret World_1 tables_1 room_1 Calls_1 rest_1 Pre_1 launch0 p0 e0 about1 theMethod args0 below0 :=
  ⟨lists_1, trivial, launch0.admits_env _ _ _, launch0.least_env, fairChoices_fair.cas, fairChoices_fair.clock, w_frames, w_args, w_heap, w_applies, trivial, trivial, w_case⟩
end start1
theorem witness_1 : WitnessClaimed_1 := ⟨start1.p0, start1.e0, start1.about1, start1.theMethod, start1.args0, start1.below0, start1.atStart⟩
end Jvm.Pilot.@@N@@
