import JvmDerived
import JvmDerived.Pilot.@@N@@Statement
import JvmDerived.Pilot.@@N@@Code
set_option linter.unusedVariables false
set_option linter.unusedSimpArgs false
namespace Jvm.Pilot.@@N@@
open Jvm Jvm.ClassFile Sem Op Lib Jvm.Free Jvm.Free.Fl Jvm.Stand Jvm.LawKit Jvm.RoadKit Bundle Jvm.Pilot.@@N@@.Jvm.D
section own_go
/-- where the walk stands, with the two facts that every step asks -/
def Ax (p : Program) (l : Launch) (e : Env) (R : Room) (s : State) (m : MethodId) (args : Array Value) (below : List Frame) (meth : Method) (c : Code) (T : State) (locs : List Loc) (cells slots : Nat) (B : ByteArray) : Prop := Stand p l e R s m args below meth c T locs cells slots ∧ p.tables.exec = Jvm.exec ∧ c.code = B
/-- from this frame the run ends, and P holds of its end -/
def Go (p : Program) (e : Env) (below : List Frame) (P : State → Outcome → Prop) (T : State) (g : JFrame) : Prop := ∃ U o, Steps p.tables e below (T.setTop g) U ∧ U.status = .running ∧ Ended U below o ∧ P U o
variable {p : Program} {l : Launch} {e : Env} {R : Room} {s : State} {m : MethodId} {args : Array Value} {below : List Frame} {meth : Method} {c : Code} {T : State} {locs : List Loc} {cells slots : Nat} {P : State → Outcome → Prop} {B : ByteArray} {pc pc' : Nat} {ls ls' : Array Slot} {st : List Value}
theorem Go.of {T' : State} {g g' : JFrame} (k : ∀ t, Steps p.tables e below (T'.setTop g') t → Steps p.tables e below (T.setTop g) t) (h : Go p e below P T' g') : Go p e below P T g := by
  obtain ⟨U, o, h1, h2⟩ := h
  exact ⟨U, o, k _ h1, h2⟩
theorem Go.tr {T' : State} {g g' : JFrame} (k : Steps p.tables e below (T.setTop g) (T'.setTop g')) (h : Go p e below P T' g') : Go p e below P T g := Go.of (fun _ h => k.trans h) h
theorem Go.cast {g g' : JFrame} (q : g = g') (h : Go p e below P T g') : Go p e below P T g := q ▸ h

theorem g_iadd (A : Ax p l e R s m args below meth c T locs cells slots B) {x : Int32} {y : Int32} (hd : decode B pc = .ok (.iadd, 1)) (hp : pc + 1 = pc') (k : Go p e below P T (mkF m pc' ls (.int (x + y) :: st))) : Go p e below P T (mkF m pc ls (.int y :: .int x :: st)) := by
  subst hp; exact Go.of (fun _ k' => XS.iadd A.1.here A.2.1 rfl (hb A.2.2 hd) rfl k') k
theorem g_isub (A : Ax p l e R s m args below meth c T locs cells slots B) {x : Int32} {y : Int32} (hd : decode B pc = .ok (.isub, 1)) (hp : pc + 1 = pc') (k : Go p e below P T (mkF m pc' ls (.int (x - y) :: st))) : Go p e below P T (mkF m pc ls (.int y :: .int x :: st)) := by
  subst hp; exact Go.of (fun _ k' => XS.isub A.1.here A.2.1 rfl (hb A.2.2 hd) rfl k') k
theorem g_iand (A : Ax p l e R s m args below meth c T locs cells slots B) {x : Int32} {y : Int32} (hd : decode B pc = .ok (.iand, 1)) (hp : pc + 1 = pc') (k : Go p e below P T (mkF m pc' ls (.int (x &&& y) :: st))) : Go p e below P T (mkF m pc ls (.int y :: .int x :: st)) := by
  subst hp; exact Go.of (fun _ k' => XS.iand A.1.here A.2.1 rfl (hb A.2.2 hd) rfl k') k
theorem g_imul (A : Ax p l e R s m args below meth c T locs cells slots B) {x : Int32} {y : Int32} (hd : decode B pc = .ok (.imul, 1)) (hp : pc + 1 = pc') (k : Go p e below P T (mkF m pc' ls (.int (x * y) :: st))) : Go p e below P T (mkF m pc ls (.int y :: .int x :: st)) := by
  subst hp; exact Go.of (fun _ k' => XS.imul A.1.here A.2.1 rfl (hb A.2.2 hd) rfl k') k
theorem g_iaddL (A : Ax p l e R s m args below meth c T locs cells slots B) {x y z : Int32} (hd : decode B pc = .ok (.iadd, 1)) (hz : x + y = z) (hp : pc + 1 = pc') (k : Go p e below P T (mkF m pc' ls (.int z :: st))) : Go p e below P T (mkF m pc ls (.int y :: .int x :: st)) := g_iadd A hd hp (hz.symm ▸ k)
theorem g_isubL (A : Ax p l e R s m args below meth c T locs cells slots B) {x y z : Int32} (hd : decode B pc = .ok (.isub, 1)) (hz : x - y = z) (hp : pc + 1 = pc') (k : Go p e below P T (mkF m pc' ls (.int z :: st))) : Go p e below P T (mkF m pc ls (.int y :: .int x :: st)) := g_isub A hd hp (hz.symm ▸ k)
theorem g_imulL (A : Ax p l e R s m args below meth c T locs cells slots B) {x y z : Int32} (hd : decode B pc = .ok (.imul, 1)) (hz : x * y = z) (hp : pc + 1 = pc') (k : Go p e below P T (mkF m pc' ls (.int z :: st))) : Go p e below P T (mkF m pc ls (.int y :: .int x :: st)) := g_imul A hd hp (hz.symm ▸ k)
theorem g_iandL (A : Ax p l e R s m args below meth c T locs cells slots B) {x y z : Int32} (hd : decode B pc = .ok (.iand, 1)) (hz : x &&& y = z) (hp : pc + 1 = pc') (k : Go p e below P T (mkF m pc' ls (.int z :: st))) : Go p e below P T (mkF m pc ls (.int y :: .int x :: st)) := g_iand A hd hp (hz.symm ▸ k)
theorem g_ixor (A : Ax p l e R s m args below meth c T locs cells slots B) {x : Int32} {y : Int32} (hd : decode B pc = .ok (.ixor, 1)) (hp : pc + 1 = pc') (k : Go p e below P T (mkF m pc' ls (.int (x ^^^ y) :: st))) : Go p e below P T (mkF m pc ls (.int y :: .int x :: st)) := by
  subst hp; exact Go.of (fun _ k' => XT.ixor A.1.here A.2.1 rfl (hb A.2.2 hd) rfl k') k
theorem g_ior (A : Ax p l e R s m args below meth c T locs cells slots B) {x : Int32} {y : Int32} (hd : decode B pc = .ok (.ior, 1)) (hp : pc + 1 = pc') (k : Go p e below P T (mkF m pc' ls (.int (x ||| y) :: st))) : Go p e below P T (mkF m pc ls (.int y :: .int x :: st)) := by
  subst hp; exact Go.of (fun _ k' => XT.ior A.1.here A.2.1 rfl (hb A.2.2 hd) rfl k') k
theorem g_ishl (A : Ax p l e R s m args below meth c T locs cells slots B) {x : Int32} {y : Int32} (hd : decode B pc = .ok (.ishl, 1)) (hp : pc + 1 = pc') (k : Go p e below P T (mkF m pc' ls (.int (x <<< (y &&& 31)) :: st))) : Go p e below P T (mkF m pc ls (.int y :: .int x :: st)) := by
  subst hp; exact Go.of (fun _ k' => XT.ishl A.1.here A.2.1 rfl (hb A.2.2 hd) rfl k') k
theorem g_ishr (A : Ax p l e R s m args below meth c T locs cells slots B) {x : Int32} {y : Int32} (hd : decode B pc = .ok (.ishr, 1)) (hp : pc + 1 = pc') (k : Go p e below P T (mkF m pc' ls (.int (x >>> (y &&& 31)) :: st))) : Go p e below P T (mkF m pc ls (.int y :: .int x :: st)) := by
  subst hp; exact Go.of (fun _ k' => XT.ishr A.1.here A.2.1 rfl (hb A.2.2 hd) rfl k') k
theorem g_iushr (A : Ax p l e R s m args below meth c T locs cells slots B) {x : Int32} {y : Int32} (hd : decode B pc = .ok (.iushr, 1)) (hp : pc + 1 = pc') (k : Go p e below P T (mkF m pc' ls (.int (XT.ushr x y) :: st))) : Go p e below P T (mkF m pc ls (.int y :: .int x :: st)) := by
  subst hp; exact Go.of (fun _ k' => XT.iushr A.1.here A.2.1 rfl (hb A.2.2 hd) rfl k') k
theorem g_idiv (A : Ax p l e R s m args below meth c T locs cells slots B) {x : Int32} {y : Int32} (hd : decode B pc = .ok (.idiv, 1)) (hy : y ≠ 0) (hp : pc + 1 = pc') (k : Go p e below P T (mkF m pc' ls (.int (x / y) :: st))) : Go p e below P T (mkF m pc ls (.int y :: .int x :: st)) := by
  subst hp; exact Go.of (fun _ k' => XS.idiv A.1.here A.2.1 rfl (hb A.2.2 hd) rfl hy k') k
theorem g_ladd (A : Ax p l e R s m args below meth c T locs cells slots B) {x : Int64} {y : Int64} (hd : decode B pc = .ok (.ladd, 1)) (hp : pc + 1 = pc') (k : Go p e below P T (mkF m pc' ls (.long (x + y) :: st))) : Go p e below P T (mkF m pc ls (.long y :: .long x :: st)) := by
  subst hp; exact Go.of (fun _ k' => XT.ladd A.1.here A.2.1 rfl (hb A.2.2 hd) rfl k') k
theorem g_lsub (A : Ax p l e R s m args below meth c T locs cells slots B) {x : Int64} {y : Int64} (hd : decode B pc = .ok (.lsub, 1)) (hp : pc + 1 = pc') (k : Go p e below P T (mkF m pc' ls (.long (x - y) :: st))) : Go p e below P T (mkF m pc ls (.long y :: .long x :: st)) := by
  subst hp; exact Go.of (fun _ k' => XT.lsub A.1.here A.2.1 rfl (hb A.2.2 hd) rfl k') k
theorem g_lmul (A : Ax p l e R s m args below meth c T locs cells slots B) {x : Int64} {y : Int64} (hd : decode B pc = .ok (.lmul, 1)) (hp : pc + 1 = pc') (k : Go p e below P T (mkF m pc' ls (.long (x * y) :: st))) : Go p e below P T (mkF m pc ls (.long y :: .long x :: st)) := by
  subst hp; exact Go.of (fun _ k' => XT.lmul A.1.here A.2.1 rfl (hb A.2.2 hd) rfl k') k
theorem g_land (A : Ax p l e R s m args below meth c T locs cells slots B) {x : Int64} {y : Int64} (hd : decode B pc = .ok (.land, 1)) (hp : pc + 1 = pc') (k : Go p e below P T (mkF m pc' ls (.long (x &&& y) :: st))) : Go p e below P T (mkF m pc ls (.long y :: .long x :: st)) := by
  subst hp; exact Go.of (fun _ k' => XT.land A.1.here A.2.1 rfl (hb A.2.2 hd) rfl k') k
theorem g_lor (A : Ax p l e R s m args below meth c T locs cells slots B) {x : Int64} {y : Int64} (hd : decode B pc = .ok (.lor, 1)) (hp : pc + 1 = pc') (k : Go p e below P T (mkF m pc' ls (.long (x ||| y) :: st))) : Go p e below P T (mkF m pc ls (.long y :: .long x :: st)) := by
  subst hp; exact Go.of (fun _ k' => XT.lor A.1.here A.2.1 rfl (hb A.2.2 hd) rfl k') k
theorem g_lxor (A : Ax p l e R s m args below meth c T locs cells slots B) {x : Int64} {y : Int64} (hd : decode B pc = .ok (.lxor, 1)) (hp : pc + 1 = pc') (k : Go p e below P T (mkF m pc' ls (.long (x ^^^ y) :: st))) : Go p e below P T (mkF m pc ls (.long y :: .long x :: st)) := by
  subst hp; exact Go.of (fun _ k' => XT.lxor A.1.here A.2.1 rfl (hb A.2.2 hd) rfl k') k
theorem g_lshl (A : Ax p l e R s m args below meth c T locs cells slots B) {x : Int64} {y : Int32} (hd : decode B pc = .ok (.lshl, 1)) (hp : pc + 1 = pc') (k : Go p e below P T (mkF m pc' ls (.long (x <<< (y.toInt64 &&& 63)) :: st))) : Go p e below P T (mkF m pc ls (.int y :: .long x :: st)) := by
  subst hp; exact Go.of (fun _ k' => XT.lshl A.1.here A.2.1 rfl (hb A.2.2 hd) rfl k') k
theorem g_lshr (A : Ax p l e R s m args below meth c T locs cells slots B) {x : Int64} {y : Int32} (hd : decode B pc = .ok (.lshr, 1)) (hp : pc + 1 = pc') (k : Go p e below P T (mkF m pc' ls (.long (x >>> (y.toInt64 &&& 63)) :: st))) : Go p e below P T (mkF m pc ls (.int y :: .long x :: st)) := by
  subst hp; exact Go.of (fun _ k' => XT.lshr A.1.here A.2.1 rfl (hb A.2.2 hd) rfl k') k
theorem g_lushr (A : Ax p l e R s m args below meth c T locs cells slots B) {x : Int64} {y : Int32} (hd : decode B pc = .ok (.lushr, 1)) (hp : pc + 1 = pc') (k : Go p e below P T (mkF m pc' ls (.long (XT.ushrL x y) :: st))) : Go p e below P T (mkF m pc ls (.int y :: .long x :: st)) := by
  subst hp; exact Go.of (fun _ k' => XT.lushr A.1.here A.2.1 rfl (hb A.2.2 hd) rfl k') k
theorem g_ldiv (A : Ax p l e R s m args below meth c T locs cells slots B) {x : Int64} {y : Int64} (hd : decode B pc = .ok (.ldiv, 1)) (hy : y ≠ 0) (hp : pc + 1 = pc') (k : Go p e below P T (mkF m pc' ls (.long (x / y) :: st))) : Go p e below P T (mkF m pc ls (.long y :: .long x :: st)) := by
  subst hp; exact Go.of (fun _ k' => XT.ldiv A.1.here A.2.1 rfl (hb A.2.2 hd) rfl hy k') k
theorem g_lrem (A : Ax p l e R s m args below meth c T locs cells slots B) {x y : Int64} (hd : decode B pc = .ok (.lrem, 1)) (hy : y ≠ 0) (hp : pc + 1 = pc') (k : Go p e below P T (mkF m pc' ls (.long (x % y) :: st))) : Go p e below P T (mkF m pc ls (.long y :: .long x :: st)) := by
  subst hp; rw [← lrem_mod] at k; exact Go.of (fun _ k' => XT.lrem A.1.here A.2.1 rfl (hb A.2.2 hd) rfl hy k') k
theorem g_i2s (A : Ax p l e R s m args below meth c T locs cells slots B) {x : Int32} (hd : decode B pc = .ok (.i2s, 1)) (hp : pc + 1 = pc') (k : Go p e below P T (mkF m pc' ls (.int (x.toInt16.toInt32) :: st))) : Go p e below P T (mkF m pc ls (.int x :: st)) := by
  subst hp; exact Go.of (fun _ k' => XT.i2s A.1.here A.2.1 rfl (hb A.2.2 hd) rfl k') k
theorem g_i2b (A : Ax p l e R s m args below meth c T locs cells slots B) {x : Int32} (hd : decode B pc = .ok (.i2b, 1)) (hp : pc + 1 = pc') (k : Go p e below P T (mkF m pc' ls (.int (x.toInt8.toInt32) :: st))) : Go p e below P T (mkF m pc ls (.int x :: st)) := by
  subst hp; exact Go.of (fun _ k' => XT.i2b A.1.here A.2.1 rfl (hb A.2.2 hd) rfl k') k
theorem g_i2c (A : Ax p l e R s m args below meth c T locs cells slots B) {x : Int32} (hd : decode B pc = .ok (.i2c, 1)) (hp : pc + 1 = pc') (k : Go p e below P T (mkF m pc' ls (.int (x.toUInt32.toUInt16.toUInt32.toInt32) :: st))) : Go p e below P T (mkF m pc ls (.int x :: st)) := by
  subst hp; exact Go.of (fun _ k' => XT.i2c A.1.here A.2.1 rfl (hb A.2.2 hd) rfl k') k
theorem g_ineg (A : Ax p l e R s m args below meth c T locs cells slots B) {x : Int32} (hd : decode B pc = .ok (.ineg, 1)) (hp : pc + 1 = pc') (k : Go p e below P T (mkF m pc' ls (.int (-x) :: st))) : Go p e below P T (mkF m pc ls (.int x :: st)) := by
  subst hp; exact Go.of (fun _ k' => XS.ineg A.1.here A.2.1 rfl (hb A.2.2 hd) rfl k') k
theorem g_lneg (A : Ax p l e R s m args below meth c T locs cells slots B) {x : Int64} (hd : decode B pc = .ok (.lneg, 1)) (hp : pc + 1 = pc') (k : Go p e below P T (mkF m pc' ls (.long (-x) :: st))) : Go p e below P T (mkF m pc ls (.long x :: st)) := by
  subst hp; exact Go.of (fun _ k' => XT.lneg A.1.here A.2.1 rfl (hb A.2.2 hd) rfl k') k
theorem g_i2l (A : Ax p l e R s m args below meth c T locs cells slots B) {x : Int32} (hd : decode B pc = .ok (.i2l, 1)) (hp : pc + 1 = pc') (k : Go p e below P T (mkF m pc' ls (.long (x.toInt64) :: st))) : Go p e below P T (mkF m pc ls (.int x :: st)) := by
  subst hp; exact Go.of (fun _ k' => XT.i2l A.1.here A.2.1 rfl (hb A.2.2 hd) rfl k') k
theorem g_l2i (A : Ax p l e R s m args below meth c T locs cells slots B) {x : Int64} (hd : decode B pc = .ok (.l2i, 1)) (hp : pc + 1 = pc') (k : Go p e below P T (mkF m pc' ls (.int (x.toInt32) :: st))) : Go p e below P T (mkF m pc ls (.long x :: st)) := by
  subst hp; exact Go.of (fun _ k' => XT.l2i A.1.here A.2.1 rfl (hb A.2.2 hd) rfl k') k
theorem g_irem (A : Ax p l e R s m args below meth c T locs cells slots B) {x y : Int32} (hd : decode B pc = .ok (.irem, 1)) (hy : y ≠ 0) (hp : pc + 1 = pc') (k : Go p e below P T (mkF m pc' ls (.int (x % y) :: st))) : Go p e below P T (mkF m pc ls (.int y :: .int x :: st)) := by
  subst hp; exact Go.of (fun _ k' => iremM A.1 A.2.1 rfl (hb A.2.2 hd) rfl hy k') k
theorem g_iloadN (A : Ax p l e R s m args below meth c T locs cells slots B) {k : Fin 4} {v : Int32} (hd : decode B pc = .ok (.iload_n k, 1)) (hl : ls[k.val]? = some (.val (.int v))) (hp : pc + 1 = pc') (k : Go p e below P T (mkF m pc' ls (.int v :: st))) : Go p e below P T (mkF m pc ls st) := by
  subst hp; exact Go.of (fun _ k' => XS.iloadN A.1.here A.2.1 rfl (hb A.2.2 hd) hl k') k
theorem g_iload (A : Ax p l e R s m args below meth c T locs cells slots B) {k : Nat} {v : Int32} (hd : decode B pc = .ok (.iload k, 2)) (hl : ls[k]? = some (.val (.int v))) (hp : pc + 2 = pc') (k : Go p e below P T (mkF m pc' ls (.int v :: st))) : Go p e below P T (mkF m pc ls st) := by
  subst hp; exact Go.of (fun _ k' => XS.iload A.1.here A.2.1 rfl (hb A.2.2 hd) hl k') k
theorem g_lloadN (A : Ax p l e R s m args below meth c T locs cells slots B) {k : Fin 4} {v : Int64} (hd : decode B pc = .ok (.lload_n k, 1)) (hl : ls[k.val]? = some (.val (.long v))) (hp : pc + 1 = pc') (k : Go p e below P T (mkF m pc' ls (.long v :: st))) : Go p e below P T (mkF m pc ls st) := by
  subst hp; exact Go.of (fun _ k' => XT.lloadN A.1.here A.2.1 rfl (hb A.2.2 hd) hl k') k
theorem g_lload (A : Ax p l e R s m args below meth c T locs cells slots B) {k : Nat} {v : Int64} (hd : decode B pc = .ok (.lload k, 2)) (hl : ls[k]? = some (.val (.long v))) (hp : pc + 2 = pc') (k : Go p e below P T (mkF m pc' ls (.long v :: st))) : Go p e below P T (mkF m pc ls st) := by
  subst hp; exact Go.of (fun _ k' => XT.lload A.1.here A.2.1 rfl (hb A.2.2 hd) hl k') k
theorem g_aloadN (A : Ax p l e R s m args below meth c T locs cells slots B) {k : Fin 4} {v : Value} (hd : decode B pc = .ok (.aload_n k, 1)) (hl : ls[k.val]? = some (.val v)) (hv : v.isRef = true) (hp : pc + 1 = pc') (k : Go p e below P T (mkF m pc' ls (v :: st))) : Go p e below P T (mkF m pc ls st) := by
  subst hp; exact Go.of (fun _ k' => XS.aloadN A.1.here A.2.1 rfl (hb A.2.2 hd) hl hv k') k
theorem g_aload (A : Ax p l e R s m args below meth c T locs cells slots B) {k : Nat} {v : Value} (hd : decode B pc = .ok (.aload k, 2)) (hl : ls[k]? = some (.val v)) (hv : v.isRef = true) (hp : pc + 2 = pc') (k : Go p e below P T (mkF m pc' ls (v :: st))) : Go p e below P T (mkF m pc ls st) := by
  subst hp; exact Go.of (fun _ k' => XS.aload A.1.here A.2.1 rfl (hb A.2.2 hd) hl hv k') k
theorem g_dloadN (A : Ax p l e R s m args below meth c T locs cells slots B) {k : Fin 4} {v : UInt64} (hd : decode B pc = .ok (.dload_n k, 1)) (hl : ls[k.val]? = some (.val (.double v))) (hp : pc + 1 = pc') (k : Go p e below P T (mkF m pc' ls (.double v :: st))) : Go p e below P T (mkF m pc ls st) := by
  subst hp
  refine Go.of (fun t k' => ?_) k
  have h := A.1.here
  have hx := A.2.1
  have hd' := hb A.2.2 hd
  show Steps p.tables e below (T.setTop { method := m, pc := pc, locals := ls, stack := st, locked := none }) _
  jvm_step h [h.top, hx, hd', hl]
  exact k'
theorem g_dload (A : Ax p l e R s m args below meth c T locs cells slots B) {k : Nat} {v : UInt64} (hd : decode B pc = .ok (.dload k, 2)) (hl : ls[k]? = some (.val (.double v))) (hp : pc + 2 = pc') (k : Go p e below P T (mkF m pc' ls (.double v :: st))) : Go p e below P T (mkF m pc ls st) := by
  subst hp
  refine Go.of (fun t k' => ?_) k
  have h := A.1.here
  have hx := A.2.1
  have hd' := hb A.2.2 hd
  show Steps p.tables e below (T.setTop { method := m, pc := pc, locals := ls, stack := st, locked := none }) _
  jvm_step h [h.top, hx, hd', hl]
  exact k'
theorem g_istoreN (A : Ax p l e R s m args below meth c T locs cells slots B) {k : Fin 4} {x : Int32} (hd : decode B pc = .ok (.istore_n k, 1)) (hl : storeLocals ls k.val (.int x) = some ls') (hp : pc + 1 = pc') (k : Go p e below P T (mkF m pc' ls' st)) : Go p e below P T (mkF m pc ls (.int x :: st)) := by
  subst hp; exact Go.of (fun _ k' => XS.istoreN A.1.here A.2.1 rfl (hb A.2.2 hd) rfl hl k') k
theorem g_istore (A : Ax p l e R s m args below meth c T locs cells slots B) {k : Nat} {x : Int32} (hd : decode B pc = .ok (.istore k, 2)) (hl : storeLocals ls k (.int x) = some ls') (hp : pc + 2 = pc') (k : Go p e below P T (mkF m pc' ls' st)) : Go p e below P T (mkF m pc ls (.int x :: st)) := by
  subst hp; exact Go.of (fun _ k' => XS.istore A.1.here A.2.1 rfl (hb A.2.2 hd) rfl hl k') k
theorem g_lstoreN (A : Ax p l e R s m args below meth c T locs cells slots B) {k : Fin 4} {x : Int64} (hd : decode B pc = .ok (.lstore_n k, 1)) (hl : storeLocals ls k.val (.long x) = some ls') (hp : pc + 1 = pc') (k : Go p e below P T (mkF m pc' ls' st)) : Go p e below P T (mkF m pc ls (.long x :: st)) := by
  subst hp; exact Go.of (fun _ k' => XT.lstoreN A.1.here A.2.1 rfl (hb A.2.2 hd) rfl hl k') k
theorem g_lstore (A : Ax p l e R s m args below meth c T locs cells slots B) {k : Nat} {x : Int64} (hd : decode B pc = .ok (.lstore k, 2)) (hl : storeLocals ls k (.long x) = some ls') (hp : pc + 2 = pc') (k : Go p e below P T (mkF m pc' ls' st)) : Go p e below P T (mkF m pc ls (.long x :: st)) := by
  subst hp; exact Go.of (fun _ k' => XT.lstore A.1.here A.2.1 rfl (hb A.2.2 hd) rfl hl k') k
theorem g_astoreN (A : Ax p l e R s m args below meth c T locs cells slots B) {k : Fin 4} {x : Value} (hd : decode B pc = .ok (.astore_n k, 1)) (hv : x.isRef = true) (hl : storeLocals ls k.val x = some ls') (hp : pc + 1 = pc') (k : Go p e below P T (mkF m pc' ls' st)) : Go p e below P T (mkF m pc ls (x :: st)) := by
  subst hp; exact Go.of (fun _ k' => XS.astoreN A.1.here A.2.1 rfl (hb A.2.2 hd) rfl hv hl k') k
theorem g_astore (A : Ax p l e R s m args below meth c T locs cells slots B) {k : Nat} {x : Value} (hd : decode B pc = .ok (.astore k, 2)) (hv : x.isRef = true) (hl : storeLocals ls k x = some ls') (hp : pc + 2 = pc') (k : Go p e below P T (mkF m pc' ls' st)) : Go p e below P T (mkF m pc ls (x :: st)) := by
  subst hp; exact Go.of (fun _ k' => XS.astore A.1.here A.2.1 rfl (hb A.2.2 hd) rfl hv hl k') k
theorem g_dstoreN (A : Ax p l e R s m args below meth c T locs cells slots B) {k : Fin 4} {x : UInt64} (hd : decode B pc = .ok (.dstore_n k, 1)) (hl : storeLocals ls k.val (.double x) = some ls') (hp : pc + 1 = pc') (k : Go p e below P T (mkF m pc' ls' st)) : Go p e below P T (mkF m pc ls (.double x :: st)) := by
  subst hp
  refine Go.of (fun t k' => ?_) k
  have h := A.1.here
  have hx := A.2.1
  have hd' := hb A.2.2 hd
  show Steps p.tables e below (T.setTop { method := m, pc := pc, locals := ls, stack := .double x :: st, locked := none }) _
  jvm_step h [h.top, hx, hd']
  exact ⟨ls', hl, k'⟩
theorem g_dstore (A : Ax p l e R s m args below meth c T locs cells slots B) {k : Nat} {x : UInt64} (hd : decode B pc = .ok (.dstore k, 2)) (hl : storeLocals ls k (.double x) = some ls') (hp : pc + 2 = pc') (k : Go p e below P T (mkF m pc' ls' st)) : Go p e below P T (mkF m pc ls (.double x :: st)) := by
  subst hp
  refine Go.of (fun t k' => ?_) k
  have h := A.1.here
  have hx := A.2.1
  have hd' := hb A.2.2 hd
  show Steps p.tables e below (T.setTop { method := m, pc := pc, locals := ls, stack := .double x :: st, locked := none }) _
  jvm_step h [h.top, hx, hd']
  exact ⟨ls', hl, k'⟩
theorem g_iconst (A : Ax p l e R s m args below meth c T locs cells slots B) {i : Int} {v : Int32} (hd : decode B pc = .ok (.iconst i, 1)) (hv : Int32.ofInt i = v) (hp : pc + 1 = pc') (k : Go p e below P T (mkF m pc' ls (.int v :: st))) : Go p e below P T (mkF m pc ls st) := by
  subst hp hv; exact Go.of (fun _ k' => XS.iconst A.1.here A.2.1 rfl (hb A.2.2 hd) k') k
theorem g_bipush (A : Ax p l e R s m args below meth c T locs cells slots B) {i : Int} {v : Int32} (hd : decode B pc = .ok (.bipush i, 2)) (hv : (Int8.ofInt i).toInt32 = v) (hp : pc + 2 = pc') (k : Go p e below P T (mkF m pc' ls (.int v :: st))) : Go p e below P T (mkF m pc ls st) := by
  subst hp hv; exact Go.of (fun _ k' => XS.bipush A.1.here A.2.1 rfl (hb A.2.2 hd) k') k
theorem g_sipush (A : Ax p l e R s m args below meth c T locs cells slots B) {i : Int} {v : Int32} (hd : decode B pc = .ok (.sipush i, 3)) (hv : (Int16.ofInt i).toInt32 = v) (hp : pc + 3 = pc') (k : Go p e below P T (mkF m pc' ls (.int v :: st))) : Go p e below P T (mkF m pc ls st) := by
  subst hp hv; exact Go.of (fun _ k' => XS.sipush A.1.here A.2.1 rfl (hb A.2.2 hd) k') k
theorem g_aconst (A : Ax p l e R s m args below meth c T locs cells slots B) (hd : decode B pc = .ok (.aconst_null, 1)) (hp : pc + 1 = pc') (k : Go p e below P T (mkF m pc' ls (.null :: st))) : Go p e below P T (mkF m pc ls st) := by
  subst hp; exact Go.of (fun _ k' => XS.aconstNull A.1.here A.2.1 rfl (hb A.2.2 hd) k') k
theorem g_lconst (A : Ax p l e R s m args below meth c T locs cells slots B) {i : Fin 2} {v : Int64} (hd : decode B pc = .ok (.lconst i, 1)) (hv : Int64.ofNat i = v) (hp : pc + 1 = pc') (k : Go p e below P T (mkF m pc' ls (.long v :: st))) : Go p e below P T (mkF m pc ls st) := by
  subst hp hv; exact Go.of (fun _ k' => XT.lconst A.1.here A.2.1 rfl (hb A.2.2 hd) k') k
theorem g_dconst0 (A : Ax p l e R s m args below meth c T locs cells slots B) (hd : decode B pc = .ok (.dconst 0, 1)) (hp : pc + 1 = pc') (k : Go p e below P T (mkF m pc' ls (.double (0 : UInt64) :: st))) : Go p e below P T (mkF m pc ls st) := by
  subst hp
  refine Go.of (fun t k' => ?_) k
  have h := A.1.here
  have hx := A.2.1
  have hd' := hb A.2.2 hd
  show Steps p.tables e below (T.setTop { method := m, pc := pc, locals := ls, stack := st, locked := none }) _
  jvm_step h [h.top, hx, hd']
  exact k'
theorem g_dconst1 (A : Ax p l e R s m args below meth c T locs cells slots B) (hd : decode B pc = .ok (.dconst 1, 1)) (hp : pc + 1 = pc') (k : Go p e below P T (mkF m pc' ls (.double (4607182418800017408 : UInt64) :: st))) : Go p e below P T (mkF m pc ls st) := by
  subst hp
  refine Go.of (fun t k' => ?_) k
  have h := A.1.here
  have hx := A.2.1
  have hd' := hb A.2.2 hd
  show Steps p.tables e below (T.setTop { method := m, pc := pc, locals := ls, stack := st, locked := none }) _
  jvm_step h [h.top, hx, hd']
  exact k'
theorem g_dadd (A : Ax p l e R s m args below meth c T locs cells slots B) {x y : UInt64} (hd : decode B pc = .ok (.dadd, 1)) (hn : NoNaN64 (FP.dadd x y)) (hp : pc + 1 = pc') (k : Go p e below P T (mkF m pc' ls (.double (FP.dadd x y) :: st))) : Go p e below P T (mkF m pc ls (.double y :: .double x :: st)) := by
  subst hp
  refine Go.of (fun t k' => ?_) k
  have h := A.1.here
  have hx := A.2.1
  have hd' := hb A.2.2 hd
  show Steps p.tables e below (T.setTop { method := m, pc := pc, locals := ls, stack := .double y :: .double x :: st, locked := none }) _
  jvm_step h [h.top, hx, hd', Op.dadd.at_number h.top hn]
  exact k'
theorem g_dsub (A : Ax p l e R s m args below meth c T locs cells slots B) {x y : UInt64} (hd : decode B pc = .ok (.dsub, 1)) (hn : NoNaN64 (FP.dsub x y)) (hp : pc + 1 = pc') (k : Go p e below P T (mkF m pc' ls (.double (FP.dsub x y) :: st))) : Go p e below P T (mkF m pc ls (.double y :: .double x :: st)) := by
  subst hp
  refine Go.of (fun t k' => ?_) k
  have h := A.1.here
  have hx := A.2.1
  have hd' := hb A.2.2 hd
  show Steps p.tables e below (T.setTop { method := m, pc := pc, locals := ls, stack := .double y :: .double x :: st, locked := none }) _
  jvm_step h [h.top, hx, hd', Op.dsub.at_number h.top hn]
  exact k'
theorem g_dmul (A : Ax p l e R s m args below meth c T locs cells slots B) {x y : UInt64} (hd : decode B pc = .ok (.dmul, 1)) (hn : NoNaN64 (FP.dmul x y)) (hp : pc + 1 = pc') (k : Go p e below P T (mkF m pc' ls (.double (FP.dmul x y) :: st))) : Go p e below P T (mkF m pc ls (.double y :: .double x :: st)) := by
  subst hp
  refine Go.of (fun t k' => ?_) k
  have h := A.1.here
  have hx := A.2.1
  have hd' := hb A.2.2 hd
  show Steps p.tables e below (T.setTop { method := m, pc := pc, locals := ls, stack := .double y :: .double x :: st, locked := none }) _
  jvm_step h [h.top, hx, hd', Op.dmul.at_number h.top hn]
  exact k'
theorem g_ddiv (A : Ax p l e R s m args below meth c T locs cells slots B) {x y : UInt64} (hd : decode B pc = .ok (.ddiv, 1)) (hn : NoNaN64 (FP.ddiv x y)) (hp : pc + 1 = pc') (k : Go p e below P T (mkF m pc' ls (.double (FP.ddiv x y) :: st))) : Go p e below P T (mkF m pc ls (.double y :: .double x :: st)) := by
  subst hp
  refine Go.of (fun t k' => ?_) k
  have h := A.1.here
  have hx := A.2.1
  have hd' := hb A.2.2 hd
  show Steps p.tables e below (T.setTop { method := m, pc := pc, locals := ls, stack := .double y :: .double x :: st, locked := none }) _
  jvm_step h [h.top, hx, hd', Op.ddiv.at_number h.top hn]
  exact k'
theorem g_dneg (A : Ax p l e R s m args below meth c T locs cells slots B) {x : UInt64} (hd : decode B pc = .ok (.dneg, 1)) (hp : pc + 1 = pc') (k : Go p e below P T (mkF m pc' ls (.double (FP.dneg x) :: st))) : Go p e below P T (mkF m pc ls (.double x :: st)) := by
  subst hp
  refine Go.of (fun t k' => ?_) k
  have h := A.1.here
  have hx := A.2.1
  have hd' := hb A.2.2 hd
  show Steps p.tables e below (T.setTop { method := m, pc := pc, locals := ls, stack := .double x :: st, locked := none }) _
  jvm_step h [h.top, hx, hd']
  exact k'
theorem g_i2d (A : Ax p l e R s m args below meth c T locs cells slots B) {x : Int32} (hd : decode B pc = .ok (.i2d, 1)) (hp : pc + 1 = pc') (k : Go p e below P T (mkF m pc' ls (.double (FP.i2d x) :: st))) : Go p e below P T (mkF m pc ls (.int x :: st)) := by
  subst hp
  refine Go.of (fun t k' => ?_) k
  have h := A.1.here
  have hx := A.2.1
  have hd' := hb A.2.2 hd
  show Steps p.tables e below (T.setTop { method := m, pc := pc, locals := ls, stack := .int x :: st, locked := none }) _
  jvm_step h [h.top, hx, hd']
  exact k'
theorem g_l2d (A : Ax p l e R s m args below meth c T locs cells slots B) {x : Int64} (hd : decode B pc = .ok (.l2d, 1)) (hp : pc + 1 = pc') (k : Go p e below P T (mkF m pc' ls (.double (FP.l2d x) :: st))) : Go p e below P T (mkF m pc ls (.long x :: st)) := by
  subst hp
  refine Go.of (fun t k' => ?_) k
  have h := A.1.here
  have hx := A.2.1
  have hd' := hb A.2.2 hd
  show Steps p.tables e below (T.setTop { method := m, pc := pc, locals := ls, stack := .long x :: st, locked := none }) _
  jvm_step h [h.top, hx, hd']
  exact k'
theorem g_dcmp (A : Ax p l e R s m args below meth c T locs cells slots B) {x y : UInt64} {op : CmpOp} (hd : decode B pc = .ok (.dcmp op, 1)) (hp : pc + 1 = pc') (k : Go p e below P T (mkF m pc' ls (.int (cmpValue (FP.dcmp x y) op) :: st))) : Go p e below P T (mkF m pc ls (.double y :: .double x :: st)) := by
  subst hp
  refine Go.of (fun t k' => ?_) k
  have h := A.1.here
  have hx := A.2.1
  have hd' := hb A.2.2 hd
  show Steps p.tables e below (T.setTop { method := m, pc := pc, locals := ls, stack := .double y :: .double x :: st, locked := none }) _
  jvm_step h [h.top, hx, hd']
  exact k'
theorem g_lcmp (A : Ax p l e R s m args below meth c T locs cells slots B) {x y : Int64} (hd : decode B pc = .ok (.lcmp, 1)) (hp : pc + 1 = pc') (k : Go p e below P T (mkF m pc' ls (.int (XT.cmpL x y) :: st))) : Go p e below P T (mkF m pc ls (.long y :: .long x :: st)) := by
  subst hp; exact Go.of (fun _ k' => XT.lcmp A.1.here A.2.1 rfl (hb A.2.2 hd) rfl k') k
theorem g_dup (A : Ax p l e R s m args below meth c T locs cells slots B) {x : Value} (hd : decode B pc = .ok (.dup, 1)) (hc : x.category = 1) (hp : pc + 1 = pc') (k : Go p e below P T (mkF m pc' ls (x :: x :: st))) : Go p e below P T (mkF m pc ls (x :: st)) := by
  subst hp; exact Go.of (fun _ k' => XS.dup A.1.here A.2.1 rfl (hb A.2.2 hd) rfl hc k') k
theorem g_pop (A : Ax p l e R s m args below meth c T locs cells slots B) {x : Value} (hd : decode B pc = .ok (.pop, 1)) (hc : x.category = 1) (hp : pc + 1 = pc') (k : Go p e below P T (mkF m pc' ls st)) : Go p e below P T (mkF m pc ls (x :: st)) := by
  subst hp; exact Go.of (fun _ k' => XT.pop A.1.here A.2.1 rfl (hb A.2.2 hd) rfl hc k') k
theorem g_iinc (A : Ax p l e R s m args below meth c T locs cells slots B) {k : Nat} {i : Int} {x y : Int32} (hd : decode B pc = .ok (.iinc k i, 3)) (hl : ls[k]? = some (.val (.int x))) (hy : x + Int32.ofInt i = y) (hl' : storeLocals ls k (.int y) = some ls') (hp : pc + 3 = pc') (k : Go p e below P T (mkF m pc' ls' st)) : Go p e below P T (mkF m pc ls st) := by
  subst hp hy; exact Go.of (fun _ k' => XS.iinc A.1.here A.2.1 rfl (hb A.2.2 hd) hl hl' k') k
theorem own_off {pc pc' : Nat} {o : Int} (h : (pc : Int) + o = (pc' : Int)) : 0 ≤ (pc : Int) + o ∧ ((pc : Int) + o).toNat = pc' := by omega
theorem g_goto (A : Ax p l e R s m args below meth c T locs cells slots B) {o : Int} (hd : decode B pc = .ok (.goto o, 3)) (hp : (pc : Int) + o = (pc' : Int)) (k : Go p e below P T (mkF m pc' ls st)) : Go p e below P T (mkF m pc ls st) := Go.of (fun _ k' => XS.goto A.1.here A.2.1 rfl rfl (hb A.2.2 hd) (own_off hp).1 (own_off hp).2 k') k
theorem g_ifY (A : Ax p l e R s m args below meth c T locs cells slots B) {o : Int} {cd : ClassFile.Cond} {x : Int32} (hd : decode B pc = .ok (.ifCond cd o, 3)) (hc : ifCond.holds cd x = true) (hp : (pc : Int) + o = (pc' : Int)) (k : Go p e below P T (mkF m pc' ls st)) : Go p e below P T (mkF m pc ls (.int x :: st)) := Go.of (fun _ k' => XS.ifYes A.1.here A.2.1 rfl rfl (hb A.2.2 hd) rfl hc (own_off hp).1 (own_off hp).2 k') k
theorem g_ifN (A : Ax p l e R s m args below meth c T locs cells slots B) {o : Int} {cd : ClassFile.Cond} {x : Int32} (hd : decode B pc = .ok (.ifCond cd o, 3)) (hc : ifCond.holds cd x = false) (hp : pc + 3 = pc') (k : Go p e below P T (mkF m pc' ls st)) : Go p e below P T (mkF m pc ls (.int x :: st)) := by
  subst hp; exact Go.of (fun _ k' => XS.ifNo A.1.here A.2.1 rfl (hb A.2.2 hd) rfl hc k') k
theorem g_icY (A : Ax p l e R s m args below meth c T locs cells slots B) {o : Int} {cd : ClassFile.Cond} {x y : Int32} (hd : decode B pc = .ok (.if_icmp cd o, 3)) (hc : if_icmp.holds cd x y = true) (hp : (pc : Int) + o = (pc' : Int)) (k : Go p e below P T (mkF m pc' ls st)) : Go p e below P T (mkF m pc ls (.int y :: .int x :: st)) := Go.of (fun _ k' => XS.icmpYes A.1.here A.2.1 rfl rfl (hb A.2.2 hd) rfl hc (own_off hp).1 (own_off hp).2 k') k
theorem g_icN (A : Ax p l e R s m args below meth c T locs cells slots B) {o : Int} {cd : ClassFile.Cond} {x y : Int32} (hd : decode B pc = .ok (.if_icmp cd o, 3)) (hc : if_icmp.holds cd x y = false) (hp : pc + 3 = pc') (k : Go p e below P T (mkF m pc' ls st)) : Go p e below P T (mkF m pc ls (.int y :: .int x :: st)) := by
  subst hp; exact Go.of (fun _ k' => XS.icmpNo A.1.here A.2.1 rfl (hb A.2.2 hd) rfl hc k') k
theorem c0_eq_t {x : Int32} (h : x = 0) : ifCond.holds .eq x = true := (if0 _ _).trans (teq h).1
theorem c0_eq_f {x : Int32} (h : ¬ x = 0) : ifCond.holds .eq x = false := (if0 _ _).trans (feq h).1
theorem c0_ne_t {x : Int32} (h : ¬ x = 0) : ifCond.holds .ne x = true := (if0 _ _).trans (feq h).2
theorem c0_ne_f {x : Int32} (h : x = 0) : ifCond.holds .ne x = false := (if0 _ _).trans (teq h).2
theorem c0_lt_t {x : Int32} (h : x < 0) : ifCond.holds .lt x = true := (if0 _ _).trans (tlt h).1
theorem c0_lt_f {x : Int32} (h : ¬ x < 0) : ifCond.holds .lt x = false := (if0 _ _).trans (flt h).1
theorem c0_ge_t {x : Int32} (h : ¬ x < 0) : ifCond.holds .ge x = true := (if0 _ _).trans (flt h).2.1
theorem c0_ge_f {x : Int32} (h : x < 0) : ifCond.holds .ge x = false := (if0 _ _).trans (tlt h).2.1
theorem c0_gt_t {x : Int32} (h : 0 < x) : ifCond.holds .gt x = true := (if0 _ _).trans (tlt h).2.2.1
theorem c0_gt_f {x : Int32} (h : ¬ 0 < x) : ifCond.holds .gt x = false := (if0 _ _).trans (flt h).2.2.1
theorem c0_le_t {x : Int32} (h : ¬ 0 < x) : ifCond.holds .le x = true := (if0 _ _).trans (flt h).2.2.2
theorem c0_le_f {x : Int32} (h : 0 < x) : ifCond.holds .le x = false := (if0 _ _).trans (tlt h).2.2.2
theorem c2_eq_t {x y : Int32} (h : x = y) : if_icmp.holds .eq x y = true := (teq h).1
theorem c2_eq_f {x y : Int32} (h : ¬ x = y) : if_icmp.holds .eq x y = false := (feq h).1
theorem c2_ne_t {x y : Int32} (h : ¬ x = y) : if_icmp.holds .ne x y = true := (feq h).2
theorem c2_ne_f {x y : Int32} (h : x = y) : if_icmp.holds .ne x y = false := (teq h).2
theorem c2_lt_t {x y : Int32} (h : x < y) : if_icmp.holds .lt x y = true := (tlt h).1
theorem c2_lt_f {x y : Int32} (h : ¬ x < y) : if_icmp.holds .lt x y = false := (flt h).1
theorem c2_ge_t {x y : Int32} (h : ¬ x < y) : if_icmp.holds .ge x y = true := (flt h).2.1
theorem c2_ge_f {x y : Int32} (h : x < y) : if_icmp.holds .ge x y = false := (tlt h).2.1
theorem c2_gt_t {x y : Int32} (h : y < x) : if_icmp.holds .gt x y = true := (tlt h).2.2.1
theorem c2_gt_f {x y : Int32} (h : ¬ y < x) : if_icmp.holds .gt x y = false := (flt h).2.2.1
theorem c2_le_t {x y : Int32} (h : ¬ y < x) : if_icmp.holds .le x y = true := (flt h).2.2.2
theorem c2_le_f {x y : Int32} (h : y < x) : if_icmp.holds .le x y = false := (tlt h).2.2.2
theorem b0_eq_t {C : Prop} [Decidable C] {v : Int32} (e : v = if C then 1 else 0) (h : ¬ C) : ifCond.holds .eq v = true := c0_eq_t (by rw [e, if_neg h])
theorem b0_eq_f {C : Prop} [Decidable C] {v : Int32} (e : v = if C then 1 else 0) (h : C) : ifCond.holds .eq v = false := c0_eq_f (by rw [e, if_pos h]; decide)
theorem b0_ne_t {C : Prop} [Decidable C] {v : Int32} (e : v = if C then 1 else 0) (h : C) : ifCond.holds .ne v = true := c0_ne_t (by rw [e, if_pos h]; decide)
theorem b0_ne_f {C : Prop} [Decidable C] {v : Int32} (e : v = if C then 1 else 0) (h : ¬ C) : ifCond.holds .ne v = false := c0_ne_f (by rw [e, if_neg h])
theorem own_b01 {C : Prop} [Decidable C] {v : Int32} (e : v = if C then 1 else 0) : narrow .boolean (.int v) = .int v := by
  subst e; by_cases h : C
  · rw [if_pos h]; rfl
  · rw [if_neg h]; rfl
theorem own_fb {C : Prop} [Decidable C] {v : Int32} (e : v = if C then 1 else 0) : fits .boolean (.int v) = true := by
  subst e; by_cases h : C
  · rw [if_pos h]; rfl
  · rw [if_neg h]; rfl
theorem own_ndadd {x y : UInt64} (h1 : Fin64 x) (h2 : Fin64 y) : NoNaN64 (FP.dadd x y) := dadd_out h1.noNaN h2
theorem own_ndsub {x y : UInt64} (h1 : Fin64 x) (h2 : Fin64 y) : NoNaN64 (FP.dsub x y) := dsub_out h1.noNaN h2
theorem own_ndmul {x y : UInt64} (h1 : Fin64 x) (h2 : Fin64 y) : NoNaN64 (FP.dmul x y) := dmul_out h1 h2
theorem own_fin {x : UInt64} : Fin64 x ↔ FP.Core.DFin x := fin64_core
theorem own_fneg {x : UInt64} (h : Fin64 x) : Fin64 (FP.dneg x) := by
  obtain ⟨s, c, q, e⟩ := fin64_core.mp h
  exact fin64_core.mpr ⟨!s, c, q, (FP.val64_dneg x).trans (by rw [e]; rfl)⟩
theorem own_self {x : UInt64} (h : Fin64 x) : FP.dcmp x x = some .eq := FP.Core.dcmp_self (fin64_core.mp h).ne_nan
theorem own_sgt {x : UInt64} (h : Fin64 x) : ¬ FP.dcmp x x = some .gt := by rw [own_self h]; decide
theorem own_slt {x : UInt64} (h : Fin64 x) : ¬ FP.dcmp x x = some .lt := by rw [own_self h]; decide
theorem own_and {c d : Jvm.Cond} {a : Array Value} {s : State} (h1 : c.before a s = true) (h2 : d.before a s = true) : (Jvm.Cond.and c d).before a s = true := by rw [Cond.before_and, h1, h2]; rfl
theorem own_isfin {x : UInt64} (h : Fin64 x) : some (Value.int (if Jvm.Free.Fl.relLe (FP.dcmp (x &&& 0x7fffffffffffffff) Jvm.Free.Fl.maxD) = true then (1 : Int32) else 0)) = some (.int (1 : Int32)) := by rw [if_pos ((le_max_iff h.noNaN).mpr h)]
theorem own_isinf {x : UInt64} (h : Fin64 x) : some (Value.int (if Jvm.Free.Fl.relGt (FP.dcmp (x &&& 0x7fffffffffffffff) Jvm.Free.Fl.maxD) = true then (1 : Int32) else 0)) = some (.int (0 : Int32)) := by rw [if_neg (fun h4 => (gt_max_iff h.noNaN).mp h4 h)]
theorem own_dfin {i : Int} {x : UInt64} (h : FP.Core.DInt i x) : Fin64 x := by
  refine fin64_core.mpr ?_
  have q : FP.Core.Whole i (FP.Core.val64 x) := h
  cases e : FP.Core.val64 x with
  | nan => rw [e] at q; exact q.elim
  | inf s => rw [e] at q; exact q.elim
  | fin s c q => exact ⟨s, c, q, e⟩
theorem own_fn {v : Int32} (h : narrow .boolean (.int v) = .int v) : fits .boolean (.int v) = true := by
  have q : v &&& 1 = v := Value.int.inj h
  rcases and_one v with z | z <;> rw [z] at q <;> subst q <;> rfl
/-- a double less than, equal to .. another, as the code asks it -/
abbrev oGe (o : Option Ordering) : Prop := o = some .gt ∨ o = some .eq
abbrev oLe (o : Option Ordering) : Prop := o = some .lt ∨ o = some .eq
theorem d_l_eq_t {o : Option Ordering} (h : o = some .eq) : ifCond.holds .eq (cmpValue o .l) = true := by
  rcases o with _ | _ | _ | _ <;> first | rfl | decide | (exfalso; revert h; decide)
theorem d_l_eq_f {o : Option Ordering} (h : ¬ o = some .eq) : ifCond.holds .eq (cmpValue o .l) = false := by
  rcases o with _ | _ | _ | _ <;> first | rfl | decide | (exfalso; revert h; decide)
theorem d_l_ne_t {o : Option Ordering} (h : ¬ o = some .eq) : ifCond.holds .ne (cmpValue o .l) = true := by
  rcases o with _ | _ | _ | _ <;> first | rfl | decide | (exfalso; revert h; decide)
theorem d_l_ne_f {o : Option Ordering} (h : o = some .eq) : ifCond.holds .ne (cmpValue o .l) = false := by
  rcases o with _ | _ | _ | _ <;> first | rfl | decide | (exfalso; revert h; decide)
theorem d_g_eq_t {o : Option Ordering} (h : o = some .eq) : ifCond.holds .eq (cmpValue o .g) = true := by
  rcases o with _ | _ | _ | _ <;> first | rfl | decide | (exfalso; revert h; decide)
theorem d_g_eq_f {o : Option Ordering} (h : ¬ o = some .eq) : ifCond.holds .eq (cmpValue o .g) = false := by
  rcases o with _ | _ | _ | _ <;> first | rfl | decide | (exfalso; revert h; decide)
theorem d_g_ne_t {o : Option Ordering} (h : ¬ o = some .eq) : ifCond.holds .ne (cmpValue o .g) = true := by
  rcases o with _ | _ | _ | _ <;> first | rfl | decide | (exfalso; revert h; decide)
theorem d_g_ne_f {o : Option Ordering} (h : o = some .eq) : ifCond.holds .ne (cmpValue o .g) = false := by
  rcases o with _ | _ | _ | _ <;> first | rfl | decide | (exfalso; revert h; decide)
theorem d_l_lt_t {o : Option Ordering} (h : ¬ oGe o) : ifCond.holds .lt (cmpValue o .l) = true := by
  rcases o with _ | _ | _ | _ <;> first | rfl | decide | (exfalso; revert h; decide)
theorem d_l_lt_f {o : Option Ordering} (h : oGe o) : ifCond.holds .lt (cmpValue o .l) = false := by
  rcases o with _ | _ | _ | _ <;> first | rfl | decide | (exfalso; revert h; decide)
theorem d_l_ge_t {o : Option Ordering} (h : oGe o) : ifCond.holds .ge (cmpValue o .l) = true := by
  rcases o with _ | _ | _ | _ <;> first | rfl | decide | (exfalso; revert h; decide)
theorem d_l_ge_f {o : Option Ordering} (h : ¬ oGe o) : ifCond.holds .ge (cmpValue o .l) = false := by
  rcases o with _ | _ | _ | _ <;> first | rfl | decide | (exfalso; revert h; decide)
theorem d_l_gt_t {o : Option Ordering} (h : o = some .gt) : ifCond.holds .gt (cmpValue o .l) = true := by
  rcases o with _ | _ | _ | _ <;> first | rfl | decide | (exfalso; revert h; decide)
theorem d_l_gt_f {o : Option Ordering} (h : ¬ o = some .gt) : ifCond.holds .gt (cmpValue o .l) = false := by
  rcases o with _ | _ | _ | _ <;> first | rfl | decide | (exfalso; revert h; decide)
theorem d_l_le_t {o : Option Ordering} (h : ¬ o = some .gt) : ifCond.holds .le (cmpValue o .l) = true := by
  rcases o with _ | _ | _ | _ <;> first | rfl | decide | (exfalso; revert h; decide)
theorem d_l_le_f {o : Option Ordering} (h : o = some .gt) : ifCond.holds .le (cmpValue o .l) = false := by
  rcases o with _ | _ | _ | _ <;> first | rfl | decide | (exfalso; revert h; decide)
theorem d_g_lt_t {o : Option Ordering} (h : o = some .lt) : ifCond.holds .lt (cmpValue o .g) = true := by
  rcases o with _ | _ | _ | _ <;> first | rfl | decide | (exfalso; revert h; decide)
theorem d_g_lt_f {o : Option Ordering} (h : ¬ o = some .lt) : ifCond.holds .lt (cmpValue o .g) = false := by
  rcases o with _ | _ | _ | _ <;> first | rfl | decide | (exfalso; revert h; decide)
theorem d_g_ge_t {o : Option Ordering} (h : ¬ o = some .lt) : ifCond.holds .ge (cmpValue o .g) = true := by
  rcases o with _ | _ | _ | _ <;> first | rfl | decide | (exfalso; revert h; decide)
theorem d_g_ge_f {o : Option Ordering} (h : o = some .lt) : ifCond.holds .ge (cmpValue o .g) = false := by
  rcases o with _ | _ | _ | _ <;> first | rfl | decide | (exfalso; revert h; decide)
theorem d_g_gt_t {o : Option Ordering} (h : ¬ oLe o) : ifCond.holds .gt (cmpValue o .g) = true := by
  rcases o with _ | _ | _ | _ <;> first | rfl | decide | (exfalso; revert h; decide)
theorem d_g_gt_f {o : Option Ordering} (h : oLe o) : ifCond.holds .gt (cmpValue o .g) = false := by
  rcases o with _ | _ | _ | _ <;> first | rfl | decide | (exfalso; revert h; decide)
theorem d_g_le_t {o : Option Ordering} (h : oLe o) : ifCond.holds .le (cmpValue o .g) = true := by
  rcases o with _ | _ | _ | _ <;> first | rfl | decide | (exfalso; revert h; decide)
theorem d_g_le_f {o : Option Ordering} (h : ¬ oLe o) : ifCond.holds .le (cmpValue o .g) = false := by
  rcases o with _ | _ | _ | _ <;> first | rfl | decide | (exfalso; revert h; decide)
theorem l_eq (x y : Int64) : XT.cmpL x y = 0 ↔ x = y := lw_eq x y
theorem l_lt (x y : Int64) : XT.cmpL x y < 0 ↔ x < y := lw_lt x y
theorem l_gt (x y : Int64) : 0 < XT.cmpL x y ↔ y < x := lw_gt x y
theorem g_ret (A : Ax p l e R s m args below meth c T locs cells slots B) {w : Value} {t : FieldType} {i : Instr} {Q : Option Value → Heap → List Loc → Prop} {K S : Nat} (hd : decode B pc = .ok (i, 1)) (hlk : meth.locks = false) (hret : meth.sig.returnType = some t) (hn : narrow t w = w)
    (hi : (i = .ireturn ∧ (t = .int ∨ t = .boolean ∨ t = .byte ∨ t = .char ∨ t = .short) ∧ ∃ z, w = .int z) ∨ (i = .lreturn ∧ t = .long ∧ ∃ z, w = .long z) ∨ (i = .dreturn ∧ t = .double ∧ ∃ z, w = .double z) ∨ (i = .freturn ∧ t = .float ∧ ∃ z, w = .float z) ∨ (i = .areturn ∧ t.isReference = true ∧ w.isRef = true))
    (hK : cells ≤ K) (hS : slots ≤ S) (hQ : Q (some w) T.heap locs) : Go p e below (fun U o => ∃ v L, o = .returned v ∧ Q v U.heap L ∧ FrameEnd s o U L K S) T (mkF m pc ls (w :: st)) := by
  obtain ⟨fs, hr, hrun, hended, hW, hsame⟩ := A.1.leave (v := some w) (fun h => by rw [hret] at h; cases h) hlk
  exact ⟨_, _, retOut A.1 A.2.1 hret hn hi (hb A.2.2 hd) hr, hrun, hended, _, _, rfl, hQ, ⟨_, rfl⟩, hW, hsame.mono hK hS⟩
theorem g_retV (A : Ax p l e R s m args below meth c T locs cells slots B) {Q : Option Value → Heap → List Loc → Prop} {K S : Nat} (hd : decode B pc = .ok (.return_, 1)) (hlk : meth.locks = false) (hret : meth.sig.returnType = none)
    (hK : cells ≤ K) (hS : slots ≤ S) (hQ : Q none T.heap locs) : Go p e below (fun U o => ∃ v L, o = .returned v ∧ Q v U.heap L ∧ FrameEnd s o U L K S) T (mkF m pc ls []) := by
  obtain ⟨fs, hr, hrun, hended, hW, hsame⟩ := A.1.leave (v := none) (fun _ => rfl) hlk
  exact ⟨_, _, A.1.returnOut A.2.1 hret (hb A.2.2 hd) hr, hrun, hended, _, _, rfl, hQ, ⟨_, rfl⟩, hW, hsame.mono hK hS⟩
theorem g_ldcI (A : Ax p l e R s m args below meth c T locs cells slots B) {Z : State} {a0 : Array Value} {own : String} {i : Nat} {v : Int32} (hZ : Z.Warmed39 s.vm) (hown : s.vm.findClass own = some m.cls) (w : (Jvm.Cond.constant own i v).before a0 Z = true) (hd : decode B pc = .ok (.ldc i, 2)) (hp : pc + 2 = pc') (k : Go p e below P T (mkF m pc' ls (.int v :: st))) : Go p e below P T (mkF m pc ls st) := by
  subst hp; exact Go.of (A.1.ldcInt A.2.1 hown (mvT hZ w) (g := mkF m pc ls st) rfl (hb A.2.2 hd)) k
theorem g_ldcD (A : Ax p l e R s m args below meth c T locs cells slots B) {Z : State} {a0 : Array Value} {own : String} {i : Nat} {v : UInt64} (hZ : Z.Warmed39 s.vm) (hown : s.vm.findClass own = some m.cls) (w : (Jvm.Cond.constantDouble own i v).before a0 Z = true) (hd : decode B pc = .ok (.ldc2_w i, 3)) (hp : pc + 3 = pc') (k : Go p e below P T (mkF m pc' ls (.double v :: st))) : Go p e below P T (mkF m pc ls st) := by
  subst hp; exact Go.of (A.1.ldc2DoubleC A.2.1 hown (mvT hZ w) (g := mkF m pc ls st) rfl (hb A.2.2 hd)) k
theorem g_ldcL (A : Ax p l e R s m args below meth c T locs cells slots B) {Z : State} {a0 : Array Value} {own : String} {i : Nat} {v : Int64} (hZ : Z.Warmed39 s.vm) (hown : s.vm.findClass own = some m.cls) (w : (Jvm.Cond.constantLong own i v).before a0 Z = true) (hd : decode B pc = .ok (.ldc2_w i, 3)) (hp : pc + 3 = pc') (k : Go p e below P T (mkF m pc' ls (.long v :: st))) : Go p e below P T (mkF m pc ls st) := by
  subst hp; exact Go.of (A.1.ldc2Long A.2.1 hown (mvT hZ w) (g := mkF m pc ls st) rfl (hb A.2.2 hd)) k
theorem g_nnY (A : Ax p l e R s m args below meth c T locs cells slots B) {o : Int} {b : Addr} (hd : decode B pc = .ok (.ifnonnull o, 3)) (hp : (pc : Int) + o = (pc' : Int)) (k : Go p e below P T (mkF m pc' ls st)) : Go p e below P T (mkF m pc ls (.ref b :: st)) := Go.of (fun _ k' => XT.ifnonnullYes A.1.here A.2.1 rfl rfl (hb A.2.2 hd) rfl (own_off hp).1 (own_off hp).2 k') k
theorem g_nnN (A : Ax p l e R s m args below meth c T locs cells slots B) {o : Int} (hd : decode B pc = .ok (.ifnonnull o, 3)) (hp : pc + 3 = pc') (k : Go p e below P T (mkF m pc' ls st)) : Go p e below P T (mkF m pc ls (.null :: st)) := by
  subst hp; exact Go.of (fun _ k' => XT.ifnonnullNo A.1.here A.2.1 rfl (hb A.2.2 hd) rfl k') k
theorem g_nuY (A : Ax p l e R s m args below meth c T locs cells slots B) {o : Int} (hd : decode B pc = .ok (.ifnull o, 3)) (hp : (pc : Int) + o = (pc' : Int)) (k : Go p e below P T (mkF m pc' ls st)) : Go p e below P T (mkF m pc ls (.null :: st)) := Go.of (fun _ k' => XS.ifnullYes A.1.here A.2.1 rfl rfl (hb A.2.2 hd) rfl (own_off hp).1 (own_off hp).2 k') k
theorem g_nuN (A : Ax p l e R s m args below meth c T locs cells slots B) {o : Int} {b : Addr} (hd : decode B pc = .ok (.ifnull o, 3)) (hp : pc + 3 = pc') (k : Go p e below P T (mkF m pc' ls st)) : Go p e below P T (mkF m pc ls (.ref b :: st)) := by
  subst hp; exact Go.of (fun _ k' => XS.ifnullNo A.1.here A.2.1 rfl (hb A.2.2 hd) rfl k') k
theorem g_acY (A : Ax p l e R s m args below meth c T locs cells slots B) {o : Int} {cd : ClassFile.ACond} {x y : Value} (hd : decode B pc = .ok (.if_acmp cd o, 3)) (h1 : x.isRef = true) (h2 : y.isRef = true) (hc : XT.acmp cd x y = true) (hp : (pc : Int) + o = (pc' : Int)) (k : Go p e below P T (mkF m pc' ls st)) : Go p e below P T (mkF m pc ls (y :: x :: st)) := Go.of (fun _ k' => XT.acmpYes A.1.here A.2.1 rfl rfl (hb A.2.2 hd) rfl h1 h2 hc (own_off hp).1 (own_off hp).2 k') k
theorem g_acN (A : Ax p l e R s m args below meth c T locs cells slots B) {o : Int} {cd : ClassFile.ACond} {x y : Value} (hd : decode B pc = .ok (.if_acmp cd o, 3)) (h1 : x.isRef = true) (h2 : y.isRef = true) (hc : XT.acmp cd x y = false) (hp : pc + 3 = pc') (k : Go p e below P T (mkF m pc' ls st)) : Go p e below P T (mkF m pc ls (y :: x :: st)) := by
  subst hp; exact Go.of (fun _ k' => XT.acmpNo A.1.here A.2.1 rfl (hb A.2.2 hd) rfl h1 h2 hc k') k
/-- an array of n places: its i-th holds f i -/
def Dar (Z : State) (h : Heap) (a : Addr) (ty : FieldType) (n : Nat) (f : Nat → Value) : Prop := ∃ cl : Cell, RoadKit.Arr Z h a cl ty ∧ cl.slots.size = n ∧ n < 2147483648 ∧ ∀ i, i < n → cl.slots[i]? = some (f i)
variable {Z : State} {h h' : Heap} {a b : Addr} {ty : FieldType} {n : Nat} {f g : Nat → Value} {sl : Nat} {v : Value} {ws : List Addr}
theorem Dar.lt (F : Dar Z h a ty n f) : a < h.size := by obtain ⟨cl, A, -⟩ := F; exact A.lt
theorem Dar.ext (E : Ext h h') (F : Dar Z h a ty n f) : Dar Z h' a ty n f := by obtain ⟨cl, A, r⟩ := F; exact ⟨cl, A.ext E, r⟩
theorem Dar.other (W : Wr h h' b sl v) (F : Dar Z h a ty n f) (q : a ≠ b) : Dar Z h' a ty n f := by obtain ⟨cl, A, r⟩ := F; exact ⟨cl, A.other W q, r⟩
theorem Dar.keep (F : Dar Z h a ty n f) (K : Keep h h' ws) (q : a ∉ ws) : Dar Z h' a ty n f := by obtain ⟨cl, A, r⟩ := F; exact ⟨cl, ⟨K.2.1 a cl A.1 q, A.2⟩, r⟩
theorem Dar.congr (F : Dar Z h a ty n f) (q : ∀ i, i < n → f i = g i) : Dar Z h a ty n g := by obtain ⟨cl, A, r1, r2, r3⟩ := F; exact ⟨cl, A, r1, r2, fun i hi => by rw [← q i hi]; exact r3 i hi⟩
theorem Dar.new {cA : ClassId} {z : Int32} (A : RoadKit.Arr Z h a (newA cA ty z) ty) (hz : z.toNatClampNeg = n) : Dar Z h a ty n (fun _ => defaultValue ty) := by
  refine ⟨_, A, (sz_new _ _ _).trans hz, ?_, fun i hi => by subst hz; simp [newA, hi]⟩
  have := z.toInt_lt
  rw [← hz, Int32.toNatClampNeg]; omega
theorem Dar.ne_exa {a0 : Array Value} {k : Nat} {C : String} (F : Dar Z h a ty n f) (E : Exa Z h b C) (wi : (Jvm.Cond.instantiable C k).before a0 Z = true) : a ≠ b := by obtain ⟨cl, A, -⟩ := F; exact fun q => ne_arr E wi A q.symm
theorem own_ne {a b : Nat} {h : Heap} (g : a = h.size) (q : b < h.size) : b ≠ a := by rw [g]; exact Nat.ne_of_lt q
theorem own_clamp {i : Nat} (hi : i < 2147483648) : (Int32.ofNat i).toNatClampNeg = i ∧ ¬ Int32.ofNat i < 0 := by
  have e : (Int32.ofNat i).toInt = i := Int32.toInt_ofNat_of_lt hi
  refine ⟨by rw [Int32.toNatClampNeg, e]; omega, fun q => ?_⟩
  rw [Int32.lt_iff_toInt_lt, e] at q
  have : (0 : Int32).toInt = 0 := rfl
  omega
theorem Dar.set {i : Nat} (F : Dar Z h a ty n f) (W : Wr h h' a i v) (q : ∀ j, j < n → g j = if j = i then v else f j) : Dar Z h' a ty n g := by
  obtain ⟨cl, A, r1, r2, r3⟩ := F
  refine ⟨_, A.same W, (sz_set _ _ _).trans r1, r2, fun j hj => ?_⟩
  rw [q j hj]
  by_cases e : j = i
  · subst e; rw [if_pos rfl]; simp [Cell.setSlot, r1, hj]
  · rw [if_neg e]; exact (Array.getElem?_setIfInBounds_ne (Ne.symm e)).trans (r3 j hj)
theorem own_in {cl : Cell} {i : Nat} (S : cl.slots.size = n) (hn : n < 2147483648) (hi : i < n) : ¬ (Int32.ofNat i < 0 ∨ cl.slots.size ≤ (Int32.ofNat i).toNatClampNeg) := by
  obtain ⟨q1, q2⟩ := own_clamp (i := i) (by omega)
  rw [q1, S]; exact fun z => z.elim q2 (by omega)
theorem g_daload (A : Ax p l e R s m args below meth c T locs cells slots B) (hZ : Z.Warmed39 s.vm) (eT : T.heap = h) {j : Int32} {i : Nat} {x : UInt64} (F : Dar Z h a .double n f) (hi : i < n) (hj : j = Int32.ofNat i) (hv : f i = .double x) (hd : decode B pc = .ok (.daload, 1)) (hp : pc + 1 = pc') (k : Go p e below P T (mkF m pc' ls (.double x :: st))) : Go p e below P T (mkF m pc ls (.int j :: .ref a :: st)) := by
  subst hp hj
  obtain ⟨cl, A2, r1, r2, r3⟩ := F
  have q := (own_clamp (i := i) (by omega)).1
  exact Go.of (fun t k' => A.1.daload A.2.1 (j := Int32.ofNat i) (v := .double x) (by rw [eT]; exact A2.1) (State.isArrayOf_alike hZ.alike A2.2.1) A2.2.2 (own_in r1 r2 hi) (by rw [q, ← hv]; exact r3 i hi) (g := mkF m pc ls (.int (Int32.ofNat i) :: .ref a :: st)) rfl rfl (hb A.2.2 hd) t k') k
theorem g_iaload (A : Ax p l e R s m args below meth c T locs cells slots B) (hZ : Z.Warmed39 s.vm) (eT : T.heap = h) {j : Int32} {i : Nat} {x : Int32} (F : Dar Z h a .int n f) (hi : i < n) (hj : j = Int32.ofNat i) (hv : f i = .int x) (hd : decode B pc = .ok (.iaload, 1)) (hp : pc + 1 = pc') (k : Go p e below P T (mkF m pc' ls (.int x :: st))) : Go p e below P T (mkF m pc ls (.int j :: .ref a :: st)) := by
  subst hp hj
  obtain ⟨cl, A2, r1, r2, r3⟩ := F
  have q := (own_clamp (i := i) (by omega)).1
  exact Go.of (fun t k' => A.1.iaload A.2.1 (j := Int32.ofNat i) (v := .int x) (by rw [eT]; exact A2.1) (State.isArrayOf_alike hZ.alike A2.2.1) A2.2.2 (own_in r1 r2 hi) (by rw [q, ← hv]; exact r3 i hi) (g := mkF m pc ls (.int (Int32.ofNat i) :: .ref a :: st)) rfl rfl (hb A.2.2 hd) t k') k
theorem g_baload (A : Ax p l e R s m args below meth c T locs cells slots B) (hZ : Z.Warmed39 s.vm) (eT : T.heap = h) {j : Int32} {i : Nat} {x : Int32} (F : Dar Z h a .boolean n f) (hi : i < n) (hj : j = Int32.ofNat i) (hv : f i = .int x) (hd : decode B pc = .ok (.baload, 1)) (hp : pc + 1 = pc') (k : Go p e below P T (mkF m pc' ls (.int x :: st))) : Go p e below P T (mkF m pc ls (.int j :: .ref a :: st)) := by
  subst hp hj
  obtain ⟨cl, A2, r1, r2, r3⟩ := F
  have q := (own_clamp (i := i) (by omega)).1
  exact Go.of (fun t k' => A.1.baloadBooleans A.2.1 (j := Int32.ofNat i) (v := .int x) (by rw [eT]; exact A2.1) (State.isArrayOf_alike hZ.alike A2.2.1) A2.2.2 (own_in r1 r2 hi) (by rw [q, ← hv]; exact r3 i hi) (g := mkF m pc ls (.int (Int32.ofNat i) :: .ref a :: st)) rfl rfl (hb A.2.2 hd) t k') k
theorem g_alen (A : Ax p l e R s m args below meth c T locs cells slots B) (hZ : Z.Warmed39 s.vm) (eT : T.heap = h) (F : Dar Z h a ty n f) (hd : decode B pc = .ok (.arraylength, 1)) {z : Int32} (hz : Int32.ofNat n = z) (hp : pc + 1 = pc') (k : Go p e below P T (mkF m pc' ls (.int z :: st))) : Go p e below P T (mkF m pc ls (.ref a :: st)) := by
  subst hp hz
  obtain ⟨cl, A2, r1, r2, r3⟩ := F
  exact Go.of (fun t k' => A.1.arraylength A.2.1 (cell := cl) (by rw [eT]; exact A2.1) (State.isArrayOf_alike hZ.alike A2.2.1) (g := mkF m pc ls (.ref a :: st)) rfl (rest := st) rfl (hb A.2.2 hd) t (by rw [r1]; exact k')) k
theorem s_dastore (A : Ax p l e R s m args below meth c T locs cells slots B) (hZ : Z.Warmed39 s.vm) (eT : T.heap = h) {j : Int32} {i : Nat} {x : UInt64} (F : Dar Z h a .double n f) (hi : i < n) (hj : j = Int32.ofNat i) (hd : decode B pc = .ok (.dastore, 1)) (hp : pc + 1 = pc') :
    ∃ T' h', Ax p l e R s m args below meth c T' (locs ++ [⟨a, i⟩]) cells slots B ∧ T'.heap = h' ∧ Wr h h' a i (.double x) ∧ ∀ {P : State → Outcome → Prop}, Go p e below P T' (mkF m pc' ls st) → Go p e below P T (mkF m pc ls (.double x :: .int j :: .ref a :: st)) := by
  subst hp hj
  obtain ⟨cl, A2, r1, r2, r3⟩ := F
  have q := (own_clamp (i := i) (by omega)).1
  obtain ⟨X', st'⟩ := A.1.dastore A.2.1 (by rw [eT]; exact A2.1) (State.isArrayOf_alike hZ.alike A2.2.1) A2.2.2 (own_in r1 r2 hi) (x := x) (g := mkF m pc ls (.double x :: .int (Int32.ofNat i) :: .ref a :: st)) rfl rfl (hb A.2.2 hd)
  rw [q] at X' st'
  exact ⟨_, _, ⟨X', A.2⟩, rfl, ⟨cl, A2.1, A2.plain, by rw [r1]; exact hi, by rw [← eT]; rfl⟩, fun k => Go.of st' k⟩
theorem s_iastore (A : Ax p l e R s m args below meth c T locs cells slots B) (hZ : Z.Warmed39 s.vm) (eT : T.heap = h) {j : Int32} {i : Nat} {x : Int32} (F : Dar Z h a .int n f) (hi : i < n) (hj : j = Int32.ofNat i) (hd : decode B pc = .ok (.iastore, 1)) (hp : pc + 1 = pc') :
    ∃ T' h', Ax p l e R s m args below meth c T' (locs ++ [⟨a, i⟩]) cells slots B ∧ T'.heap = h' ∧ Wr h h' a i (.int x) ∧ ∀ {P : State → Outcome → Prop}, Go p e below P T' (mkF m pc' ls st) → Go p e below P T (mkF m pc ls (.int x :: .int j :: .ref a :: st)) := by
  subst hp hj
  obtain ⟨cl, A2, r1, r2, r3⟩ := F
  have q := (own_clamp (i := i) (by omega)).1
  obtain ⟨T', h', X', e', W, st'⟩ := stI A.1 A.2.1 hZ eT A2 (own_in r1 r2 hi) (x := x) (g := mkF m pc ls (.int x :: .int (Int32.ofNat i) :: .ref a :: st)) rfl rfl (hb A.2.2 hd)
  rw [q] at X' W
  exact ⟨_, _, ⟨X', A.2⟩, e', W, fun k => Go.of st' k⟩
theorem s_zastore (A : Ax p l e R s m args below meth c T locs cells slots B) (hZ : Z.Warmed39 s.vm) (eT : T.heap = h) {j : Int32} {i : Nat} {x : Int32} (F : Dar Z h a .boolean n f) (hi : i < n) (hj : j = Int32.ofNat i) (hx1 : narrow .boolean (.int x) = .int x) (hd : decode B pc = .ok (.bastore, 1)) (hp : pc + 1 = pc') :
    ∃ T' h', Ax p l e R s m args below meth c T' (locs ++ [⟨a, i⟩]) cells slots B ∧ T'.heap = h' ∧ Wr h h' a i (.int x) ∧ ∀ {P : State → Outcome → Prop}, Go p e below P T' (mkF m pc' ls st) → Go p e below P T (mkF m pc ls (.int x :: .int j :: .ref a :: st)) := by
  subst hp hj
  obtain ⟨cl, A2, r1, r2, r3⟩ := F
  have q := (own_clamp (i := i) (by omega)).1
  obtain ⟨T', h', X', e', W, st'⟩ := stZ A.1 A.2.1 hZ eT A2 (own_in r1 r2 hi) (x := x) (g := mkF m pc ls (.int x :: .int (Int32.ofNat i) :: .ref a :: st)) rfl rfl (hb A.2.2 hd)
  have q2 : nar .boolean x = x := Value.int.inj hx1
  rw [q] at X' W; rw [q2] at W
  exact ⟨_, _, ⟨X', A.2⟩, e', W, fun k => Go.of st' k⟩
end own_go
/-! bounds on computed doubles: z is the value in units of the least double -/
def own_z (x : UInt64) : Int := FP.Core.zval FP.Core.b64 (FP.Core.val64 x)
def own_o : Nat := FP.Core.one64
theorem own_zi {i : Int} {x : UInt64} (h : FP.Core.DInt i x) : own_z x = i * (own_o : Int) := FP.Core.DInt_zval h
theorem own_op : 0 < own_o := FP.Core.one64_pos
theorem own_cz {x y : UInt64} (hx : FP.Core.DFin x) (hy : FP.Core.DFin y) : FP.dcmp x y = some (compare (own_z x) (own_z y)) := FP.Core.dcmp_zval hx.ne_nan hy.ne_nan
theorem own_top {x : UInt64} (h : FP.Core.DFin x) : own_z x < ((FP.Core.b64.tails * 2 ^ (FP.Core.b64.exps - 2) : Nat) : Int) ∧ -((FP.Core.b64.tails * 2 ^ (FP.Core.b64.exps - 2) : Nat) : Int) < own_z x := by
  have q := FP.Core.DFin.zval_lt h
  show FP.Core.signed _ _ < _ ∧ _ < FP.Core.signed _ _
  cases FP.Core.sgn (FP.Core.val64 x) <;> simp only [FP.Core.signed, if_true, Bool.false_eq_true, if_false] <;> omega
/-- what is no NaN and lies between two finite doubles is finite -/
theorem own_sq {x V W : UInt64} (hn : FP.Core.val64 x ≠ .nan) (hV : FP.Core.DFin V) (hW : FP.Core.DFin W) (h1 : own_z W ≤ own_z x) (h2 : own_z x ≤ own_z V) : FP.Core.DFin x := by
  have a := (own_top hV).1
  have b := (own_top hW).2
  have e : own_z x = FP.Core.signed (FP.Core.sgn (FP.Core.val64 x)) (FP.Core.zmag FP.Core.b64 (FP.Core.val64 x)) := rfl
  cases h : FP.Core.val64 x with
  | nan => exact absurd h hn
  | fin s c q => exact ⟨s, c, q, h⟩
  | inf s =>
    rw [h] at e
    have e2 : own_z x = FP.Core.signed s (FP.Core.b64.tails * 2 ^ (FP.Core.b64.exps - 2)) := e
    exfalso
    cases s <;> simp only [FP.Core.signed, if_true, Bool.false_eq_true, if_false] at e2 <;> omega
theorem own_nn {x : UInt64} (h : FP.Core.dIsNaN x = false) : FP.Core.val64 x ≠ .nan := (FP.Core.notNaN_iff x).mp h
theorem own_addz {x y V W : UInt64} (hx : FP.Core.DFin x) (hy : FP.Core.DFin y) (hV : FP.Core.DFin V) (hW : FP.Core.DFin W) (h1 : own_z W ≤ own_z x + own_z y) (h2 : own_z x + own_z y ≤ own_z V) :
    FP.Core.DFin (FP.dadd x y) ∧ own_z W ≤ own_z (FP.dadd x y) ∧ own_z (FP.dadd x y) ≤ own_z V := by
  have e : own_z (FP.dadd x y) = FP.Core.zval FP.Core.b64 (FP.Core.round FP.Core.b64 (FP.Core.exactSum (FP.Core.val64 x) (FP.Core.val64 y))) := congrArg _ (FP.Core.val64_dadd x y)
  have g1 : own_z W ≤ own_z (FP.dadd x y) := by rw [e]; exact FP.Core.sum_ge FP.Core.good_b64 hx hy (FP.Core.val64_fits _) (FP.Core.val64_fits _) (FP.Core.val64_fits _) hW.ne_nan h1
  have g2 : own_z (FP.dadd x y) ≤ own_z V := by rw [e]; exact FP.Core.sum_le FP.Core.good_b64 hx hy (FP.Core.val64_fits _) (FP.Core.val64_fits _) (FP.Core.val64_fits _) hV.ne_nan h2
  exact ⟨own_sq (own_nn (FP.Core.dadd_out hx.notNaN hy)) hV hW g1 g2, g1, g2⟩
theorem own_pos {x : UInt64} {s : Bool} {c : Nat} {q : Int} (e : FP.Core.val64 x = .fin s c q) (h : 0 ≤ own_z x) : own_z x = (FP.Core.zmag FP.Core.b64 (.fin s c q) : Int) := by
  have r : own_z x = FP.Core.signed s (FP.Core.zmag FP.Core.b64 (.fin s c q)) := by show FP.Core.zval _ (FP.Core.val64 x) = _; rw [e]; rfl
  cases s
  · exact r
  · simp only [FP.Core.signed, if_true] at r
    omega
theorem own_neg0 {x : UInt64} {c : Nat} {q : Int} (e : FP.Core.val64 x = .fin true c q) (h : 0 ≤ own_z x) : own_z x = 0 := by
  have r : own_z x = FP.Core.signed true (FP.Core.zmag FP.Core.b64 (.fin true c q)) := by show FP.Core.zval _ (FP.Core.val64 x) = _; rw [e]; rfl
  simp only [FP.Core.signed, if_true] at r
  omega
theorem own_sg (s : Bool) (n : Nat) : FP.Core.signed s n ≤ n := by cases s <;> simp only [FP.Core.signed, if_true, Bool.false_eq_true, if_false] <;> omega
theorem own_rr {x : UInt64} {s : Bool} {A B : Nat} {e e0 : Int} {V : UInt64} (ex : FP.Core.val64 x = FP.Core.roundRatio FP.Core.b64 s A B e) (hB : 0 < B) (h0 : e0 ≤ FP.Core.b64.qmin) (h0e : e0 ≤ e) (hV : FP.Core.DFin V) (pV : 0 ≤ own_z V)
    (hs : s = true → A = 0) (h : FP.Core.inUnits A e e0 ≤ FP.Core.zmag FP.Core.b64 (FP.Core.val64 V) * 2 ^ (FP.Core.b64.qmin - e0).toNat * B) : FP.Core.DFin x ∧ 0 ≤ own_z x ∧ own_z x ≤ own_z V := by
  have le := FP.Core.zmag_roundRatio_le FP.Core.good_b64 (s := s) hB (FP.Core.val64_fits V) hV.ne_nan h0 h0e h
  have eV : own_z V = (FP.Core.zmag FP.Core.b64 (FP.Core.val64 V) : Int) := by
    obtain ⟨a, b, c, q⟩ := hV
    rw [own_pos q pV, q]
  have ez : own_z x = FP.Core.signed s (FP.Core.zmag FP.Core.b64 (FP.Core.roundRatio FP.Core.b64 s A B e)) := by
    show FP.Core.zval _ (FP.Core.val64 x) = _
    rw [ex]; show FP.Core.signed (FP.Core.sgn _) _ = _; rw [FP.Core.sgn_roundRatio]
  have g : 0 ≤ own_z x ∧ own_z x ≤ own_z V := by
    cases s
    · simp only [FP.Core.signed, Bool.false_eq_true, if_false] at ez
      omega
    · have hA := hs rfl
      subst hA
      have le0 := FP.Core.zmag_roundRatio_le FP.Core.good_b64 (s := true) (A := 0) (e := e) (e0 := e0) hB (FP.Core.zero_fits FP.Core.good_b64 false) (by simp) h0 h0e (by simp [FP.Core.inUnits])
      have z0 : FP.Core.zmag FP.Core.b64 (.fin false 0 FP.Core.b64.qmin) = 0 := by simp [FP.Core.zmag, FP.Core.inUnits]
      rw [z0] at le0
      simp only [FP.Core.signed, if_true] at ez
      omega
  have z0 : FP.Core.DFin (0 : UInt64) := ⟨false, 0, _, FP.Core.val64_zero⟩
  have z1 : own_z (0 : UInt64) = 0 := FP.Core.zval64_zero
  exact ⟨own_sq (by rw [ex]; exact FP.Core.roundRatio_ne_nan _ _ _ _ _) hV z0 (by rw [z1]; exact g.1) g.2, g.1, g.2⟩
theorem own_mulz {x y V : UInt64} (hx : FP.Core.DFin x) (hy : FP.Core.DFin y) (hV : FP.Core.DFin V) (px : 0 ≤ own_z x) (py : 0 ≤ own_z y) (pV : 0 ≤ own_z V) (h : own_z x * own_z y ≤ own_z V * (own_o : Int)) :
    FP.Core.DFin (FP.dmul x y) ∧ 0 ≤ own_z (FP.dmul x y) ∧ own_z (FP.dmul x y) ≤ own_z V := by
  obtain ⟨s, c, q, ex⟩ := hx
  obtain ⟨t, d, r, ey⟩ := hy
  have fx := FP.Core.val64_fits x
  have fy := FP.Core.val64_fits y
  rw [ex] at fx
  rw [ey] at fy
  obtain ⟨p1, p2, p3⟩ := FP.Core.product_units fx fy
  have e : FP.Core.val64 (FP.dmul x y) = FP.Core.roundRatio FP.Core.b64 (s != t) (c * d) 1 (q + r) := by
    refine (FP.Core.val64_dmul x y).trans ?_
    rw [ex, ey, p1]; rfl
  have zx := own_pos ex px
  have zy := own_pos ey py
  have qn := FP.Core.qmin_neg FP.Core.good_b64
  have eV : own_z V = (FP.Core.zmag FP.Core.b64 (FP.Core.val64 V) : Int) := by
    obtain ⟨a, b, c, q⟩ := hV
    rw [own_pos q pV, q]
  refine own_rr (e0 := 2 * FP.Core.b64.qmin) e (by decide) (by omega) p2 hV pV (fun hs => ?_) ?_
  · have f1 := fx.2.1
    have f2 := fy.2.1
    cases s <;> cases t <;> simp at hs
    · have z := own_neg0 ey py
      rw [z] at zy
      have : FP.Core.zmag FP.Core.b64 (.fin true d r) = 0 := by omega
      have w : d * 2 ^ (r - FP.Core.b64.qmin).toNat = 0 := this
      have := Nat.two_pow_pos (r - FP.Core.b64.qmin).toNat
      rcases Nat.mul_eq_zero.mp w with k | k
      · rw [k, Nat.mul_zero]
      · omega
    · have z := own_neg0 ex px
      rw [z] at zx
      have : FP.Core.zmag FP.Core.b64 (.fin true c q) = 0 := by omega
      have w : c * 2 ^ (q - FP.Core.b64.qmin).toNat = 0 := this
      have := Nat.two_pow_pos (q - FP.Core.b64.qmin).toNat
      rcases Nat.mul_eq_zero.mp w with k | k
      · rw [k, Nat.zero_mul]
      · omega
  · rw [p3, Nat.mul_one, show FP.Core.b64.qmin - 2 * FP.Core.b64.qmin = -FP.Core.b64.qmin by omega, FP.Core.pow_qmin64]
    rw [zx, zy, eV] at h
    exact_mod_cast h
theorem own_divz {x y V : UInt64} (hx : FP.Core.DFin x) (hy : FP.Core.DFin y) (hV : FP.Core.DFin V) (px : 0 ≤ own_z x) (py : 0 < own_z y) (pV : 0 ≤ own_z V) (h : own_z x * (own_o : Int) ≤ own_z V * own_z y) :
    FP.Core.DFin (FP.ddiv x y) ∧ 0 ≤ own_z (FP.ddiv x y) ∧ own_z (FP.ddiv x y) ≤ own_z V := by
  obtain ⟨s, c, q, ex⟩ := hx
  obtain ⟨t, d, r, ey⟩ := hy
  have fx := FP.Core.val64_fits x
  have fy := FP.Core.val64_fits y
  rw [ex] at fx
  rw [ey] at fy
  have zx := own_pos ex px
  have zy := own_pos ey (Int.le_of_lt py)
  have ht : t = false := by
    cases t
    · rfl
    · have := own_neg0 ey (Int.le_of_lt py); omega
  subst ht
  have hd : d ≠ 0 := by
    intro k
    subst k
    have : FP.Core.zmag FP.Core.b64 (.fin false 0 r) = 0 := by simp [FP.Core.zmag, FP.Core.inUnits]
    omega
  have e : FP.Core.val64 (FP.ddiv x y) = FP.Core.roundRatio FP.Core.b64 (s != false) c d (q - r) := by
    refine (FP.Core.val64_ddiv x y).trans ?_
    rw [ex, ey]
    show (if d = 0 then _ else _) = _
    rw [if_neg hd]
  have qn := FP.Core.qmin_neg FP.Core.good_b64
  have eV : own_z V = (FP.Core.zmag FP.Core.b64 (FP.Core.val64 V) : Int) := by
    obtain ⟨a, b, c, q⟩ := hV
    rw [own_pos q pV, q]
  have f1 := fx.2.1
  have f2 := fy.2.1
  refine own_rr (e0 := 2 * FP.Core.b64.qmin - r) e (Nat.pos_of_ne_zero hd) (by omega) (by omega) hV pV (fun hs => ?_) ?_
  · cases s
    · simp at hs
    · have z := own_neg0 ex px
      rw [z] at zx
      have : FP.Core.zmag FP.Core.b64 (.fin true c q) = 0 := by omega
      have w : c * 2 ^ (q - FP.Core.b64.qmin).toNat = 0 := this
      have := Nat.two_pow_pos (q - FP.Core.b64.qmin).toNat
      rcases Nat.mul_eq_zero.mp w with k | k
      · exact k
      · omega
  · have e1 : FP.Core.inUnits c (q - r) (2 * FP.Core.b64.qmin - r) = FP.Core.zmag FP.Core.b64 (.fin s c q) * FP.Core.one64 := by
      show c * 2 ^ (q - r - (2 * FP.Core.b64.qmin - r)).toNat = c * 2 ^ (q - FP.Core.b64.qmin).toNat * FP.Core.one64
      rw [← FP.Core.pow_qmin64, Nat.mul_assoc, ← Nat.pow_add]
      congr 2
      omega
    have e2 : FP.Core.zmag FP.Core.b64 (FP.Core.val64 V) * 2 ^ (FP.Core.b64.qmin - (2 * FP.Core.b64.qmin - r)).toNat * d = FP.Core.zmag FP.Core.b64 (FP.Core.val64 V) * FP.Core.zmag FP.Core.b64 (.fin false d r) := by
      show _ = _ * (d * 2 ^ (r - FP.Core.b64.qmin).toNat)
      rw [Nat.mul_assoc, Nat.mul_comm d]
      congr 3
      omega
    rw [e1, e2]
    rw [zx, zy, eV] at h
    exact_mod_cast h
def own_U (b : UInt64) : Prop := FP.Core.DFin b ∧ 0 ≤ own_z b ∧ own_z b ≤ (own_o : Int)
def own_A (a : UInt64) : Prop := FP.Core.DFin a ∧ 0 ≤ own_z a ∧ own_z a ≤ 1048576 * (own_o : Int)
def own_B (a : UInt64) : Nat → UInt64
  | 0 => 4607182418800017408
  | k + 1 => FP.ddiv (FP.dmul a (own_B a k)) (FP.dadd (FP.i2d (Int32.ofNat (k + 1))) (FP.dmul a (own_B a k)))
theorem own_one : own_U (4607182418800017408 : UInt64) := by
  have h := own_zi FP.Core.dint_one
  have p := own_op
  refine ⟨?_, by rw [h]; omega, by rw [h]; omega⟩
  exact (FP.Core.fin_bits _).mpr (by decide)
theorem own_step {a b : UInt64} {k : Nat} (ha : own_A a) (hb : own_U b) (h1 : 1 ≤ k) (hk : k ≤ 1000) :
    FP.Core.DFin (FP.dmul a b) ∧ FP.Core.DFin (FP.dadd (FP.i2d (Int32.ofNat k)) (FP.dmul a b)) ∧ ¬ FP.Core.DZero (FP.dadd (FP.i2d (Int32.ofNat k)) (FP.dmul a b)) ∧ own_U (FP.ddiv (FP.dmul a b) (FP.dadd (FP.i2d (Int32.ofNat k)) (FP.dmul a b))) := by
  obtain ⟨fa, pa, la⟩ := ha
  obtain ⟨fb, pb, lb⟩ := hb
  have po := own_op
  obtain ⟨ft, pt, lt⟩ := own_mulz fa fb fa pa pb pa (Int.mul_le_mul_of_nonneg_left lb pa)
  have ik := FP.Core.i2d_int (Int32.ofNat k)
  rw [Int32.toInt_ofNat_of_lt (by omega)] at ik
  have zk := own_zi ik
  have fk : FP.Core.DFin (FP.i2d (Int32.ofNat k)) := FP.Core.i2d_fin (Int32.ofNat k)
  have i30 := FP.Core.i2d_int 1073741824
  have z30 := own_zi i30
  have e30 : (1073741824 : Int32).toInt = 1073741824 := rfl
  rw [e30] at z30
  have kb : (k : Int) * (own_o : Int) ≤ 1000 * (own_o : Int) := Int.mul_le_mul_of_nonneg_right (by omega) (by omega)
  have kb1 : 1 * (own_o : Int) ≤ (k : Int) * (own_o : Int) := Int.mul_le_mul_of_nonneg_right (by omega) (by omega)
  change own_z (FP.i2d (Int32.ofNat k)) = _ at zk
  have kk : own_z (FP.i2d (Int32.ofNat k)) = (k : Int) * (own_o : Int) := zk
  obtain ⟨fu, lu, -⟩ := own_addz (V := FP.i2d 1073741824) (W := FP.i2d (Int32.ofNat k)) fk ft (FP.Core.i2d_fin _) fk (by omega) (by rw [show own_z (FP.i2d 1073741824) = 1073741824 * (own_o : Int) from z30, kk]; omega)
  obtain ⟨-, lv, -⟩ := own_addz (V := FP.i2d 1073741824) (W := FP.dmul a b) fk ft (FP.Core.i2d_fin _) ft (by omega) (by rw [show own_z (FP.i2d 1073741824) = 1073741824 * (own_o : Int) from z30, kk]; omega)
  have hu : 0 < own_z (FP.dadd (FP.i2d (Int32.ofNat k)) (FP.dmul a b)) := by omega
  refine ⟨ft, fu, fun q => ?_, ?_⟩
  · have := FP.Core.DZero.zval q
    change own_z (FP.dadd (FP.i2d (Int32.ofNat k)) (FP.dmul a b)) = 0 at this
    omega
  · have o1 := own_one
    have z1 := own_zi FP.Core.dint_one
    obtain ⟨f3, p3, l3⟩ := own_divz ft fu o1.1 pt hu o1.2.1 (by rw [z1, Int.one_mul, Int.mul_comm]; exact Int.mul_le_mul_of_nonneg_left lv (by omega))
    exact ⟨f3, p3, by rw [z1, Int.one_mul] at l3; exact l3⟩
theorem own_BU {a : UInt64} (ha : own_A a) : ∀ k : Nat, k ≤ 1000 → own_U (own_B a k)
  | 0, _ => own_one
  | k + 1, h => (own_step ha (own_BU ha k (by omega)) (k := k + 1) (by omega) h).2.2.2
theorem own_Uf {b : UInt64} (h : own_U b) : Fin64 b := fin64_core.mpr h.1
theorem own_Af {b : UInt64} (h : own_A b) : Fin64 b := fin64_core.mpr h.1
theorem own_n1 {a b : UInt64} (ha : own_A a) (hb : own_U b) : NoNaN64 (FP.dmul a b) := dmul_out (own_Af ha) (own_Uf hb)
theorem own_n2 {a b : UInt64} {k : Nat} (ha : own_A a) (hb : own_U b) (h1 : 1 ≤ k) (hk : k ≤ 1000) : NoNaN64 (FP.dadd (FP.i2d (Int32.ofNat k)) (FP.dmul a b)) := (fin64_core.mpr (own_step ha hb h1 hk).2.1).noNaN
theorem own_n3 {a b : UInt64} {k : Nat} (ha : own_A a) (hb : own_U b) (h1 : 1 ≤ k) (hk : k ≤ 1000) : NoNaN64 (FP.ddiv (FP.dmul a b) (FP.dadd (FP.i2d (Int32.ofNat k)) (FP.dmul a b))) := (own_Uf (own_step ha hb h1 hk).2.2.2).noNaN
theorem own_dint0 : FP.Core.DInt 0 (0 : UInt64) := by
  have q := FP.Core.i2d_int 0
  have e : FP.Core.i2d 0 = (0 : UInt64) := by decide +kernel
  rw [e] at q; exact q
theorem own_f0 : FP.Core.DFin (0 : UInt64) := (FP.Core.fin_bits _).mpr (by decide)
theorem own_cle {x y : UInt64} (hx : FP.Core.DFin x) (hy : FP.Core.DFin y) (h : own_z x ≤ own_z y) : FP.dcmp x y = some .lt ∨ FP.dcmp x y = some .eq := by
  rw [own_cz hx hy]
  rcases Int.lt_or_eq_of_le h with q | q
  · exact Or.inl (congrArg some ((FP.Core.compare_lt_iff _ _).mpr q))
  · exact Or.inr (congrArg some ((FP.Core.compare_eq_iff _ _).mpr q))
theorem own_cge {x y : UInt64} (hx : FP.Core.DFin x) (hy : FP.Core.DFin y) (h : own_z y ≤ own_z x) : FP.dcmp x y = some .gt ∨ FP.dcmp x y = some .eq := by
  rw [own_cz hx hy]
  rcases Int.lt_or_eq_of_le h with q | q
  · exact Or.inl (congrArg some ((FP.Core.compare_gt_iff _ _).mpr q))
  · exact Or.inr (congrArg some ((FP.Core.compare_eq_iff _ _).mpr q.symm))
theorem own_z0 : own_z (0 : UInt64) = 0 := FP.Core.zval64_zero
theorem own_z1 : own_z (4607182418800017408 : UInt64) = (own_o : Int) := by rw [own_zi FP.Core.dint_one, Int.one_mul]
theorem own_subz {x y V W : UInt64} (hx : FP.Core.DFin x) (hy : FP.Core.DFin y) (hV : FP.Core.DFin V) (hW : FP.Core.DFin W) (h1 : own_z W ≤ own_z x - own_z y) (h2 : own_z x - own_z y ≤ own_z V) :
    FP.Core.DFin (FP.dsub x y) ∧ own_z W ≤ own_z (FP.dsub x y) ∧ own_z (FP.dsub x y) ≤ own_z V := by
  have e : own_z (FP.dsub x y) = FP.Core.zval FP.Core.b64 (FP.Core.round FP.Core.b64 (FP.Core.exactSum (FP.Core.val64 x) (FP.Core.negate (FP.Core.val64 y)))) := congrArg _ (FP.Core.val64_dsub x y)
  have hn : ∃ s c q, FP.Core.negate (FP.Core.val64 y) = .fin s c q := by
    obtain ⟨s, c, q, r⟩ := hy
    exact ⟨!s, c, q, by rw [r]; rfl⟩
  have zn : FP.Core.zval FP.Core.b64 (FP.Core.negate (FP.Core.val64 y)) = - own_z y := FP.Core.zval_negate _ _
  have fn : FP.Core.fits FP.Core.b64 (FP.Core.negate (FP.Core.val64 y)) := FP.Core.negate_fits (FP.Core.val64_fits y)
  have g1 : own_z W ≤ own_z (FP.dsub x y) := by
    rw [e]; refine FP.Core.sum_ge FP.Core.good_b64 hx hn (FP.Core.val64_fits _) fn (FP.Core.val64_fits _) hW.ne_nan ?_
    rw [zn]; change own_z W ≤ own_z x + _; omega
  have g2 : own_z (FP.dsub x y) ≤ own_z V := by
    rw [e]; refine FP.Core.sum_le FP.Core.good_b64 hx hn (FP.Core.val64_fits _) fn (FP.Core.val64_fits _) hV.ne_nan ?_
    rw [zn]; change own_z x + _ ≤ own_z V; omega
  exact ⟨own_sq (own_nn (FP.Core.dsub_out hx.notNaN hy)) hV hW g1 g2, g1, g2⟩
/-- the idle workers of k with the load a, b of them refused -/
def own_id (a b : UInt64) (k : Nat) : UInt64 := FP.dsub (FP.i2d (Int32.ofNat k)) (FP.dmul a (FP.dsub (4607182418800017408 : UInt64) b))
theorem own_idf {a b : UInt64} {k : Nat} (ha : own_A a) (hb : own_U b) (hk : k ≤ 1000) : FP.Core.DFin (FP.dsub (4607182418800017408 : UInt64) b) ∧ FP.Core.DFin (FP.dmul a (FP.dsub (4607182418800017408 : UInt64) b)) ∧ FP.Core.DFin (own_id a b k) := by
  have o1 := own_one
  have z1 := own_z1
  have po := own_op
  obtain ⟨fa, pa, la⟩ := ha
  obtain ⟨fb, pb, lb⟩ := hb
  have z0 := own_z0
  obtain ⟨f1, p1, l1⟩ := own_subz (V := (4607182418800017408 : UInt64)) (W := (0 : UInt64)) o1.1 fb o1.1 own_f0 (by omega) (by omega)
  obtain ⟨f2, p2, l2⟩ := own_mulz fa f1 fa pa (by omega) pa (Int.mul_le_mul_of_nonneg_left (by omega) pa)
  have ik := FP.Core.i2d_int (Int32.ofNat k)
  rw [Int32.toInt_ofNat_of_lt (by omega)] at ik
  have zk : own_z (FP.i2d (Int32.ofNat k)) = (k : Int) * (own_o : Int) := own_zi ik
  have fk : FP.Core.DFin (FP.i2d (Int32.ofNat k)) := FP.Core.i2d_fin (Int32.ofNat k)
  have kb : (k : Int) * (own_o : Int) ≤ 1000 * (own_o : Int) := Int.mul_le_mul_of_nonneg_right (by omega) (by omega)
  have kb1 : 0 ≤ (k : Int) * (own_o : Int) := Int.mul_nonneg (by omega) (by omega)
  have z30 : own_z (FP.i2d 1073741824) = 1073741824 * (own_o : Int) := own_zi (FP.Core.i2d_int 1073741824)
  have zn30 : own_z (FP.i2d (-1073741824)) = -1073741824 * (own_o : Int) := own_zi (FP.Core.i2d_int (-1073741824))
  obtain ⟨f3, -, -⟩ := own_subz (V := FP.i2d 1073741824) (W := FP.i2d (-1073741824)) fk f2 (FP.Core.i2d_fin _) (FP.Core.i2d_fin _) (by rw [zn30, zk]; omega) (by rw [z30, zk]; omega)
  exact ⟨f1, f2, f3⟩
theorem own_selfN {x : UInt64} (h : NoNaN64 x) : FP.dcmp x x = some .eq := FP.Core.dcmp_self (own_nn (noNaN64_no.mp h))
theorem own_succ (i : Nat) : Int32.ofNat i + (1 : Int32) = Int32.ofNat (i + 1) := by
  show Int32.ofNat i + Int32.ofNat 1 = Int32.ofNat (i + 1)
  rw [Int32.ofNat_add]
theorem own_olt {i n : Nat} (h : i < n) (hn : n < 2147483648) : Int32.ofNat i < Int32.ofNat n := by
  rw [Int32.lt_iff_toInt_lt, Int32.toInt_ofNat_of_lt (by omega), Int32.toInt_ofNat_of_lt hn]; omega
theorem own_onl {i n : Nat} (h : n ≤ i) (hn : i < 2147483648) : ¬ Int32.ofNat i < Int32.ofNat n := by
  rw [Int32.lt_iff_toInt_lt, Int32.toInt_ofNat_of_lt hn, Int32.toInt_ofNat_of_lt (by omega)]; omega
theorem own_lti {i n : Nat} (hi : i < 2147483648) (hn : n < 2147483648) (h : Int32.ofNat i < Int32.ofNat n) : i < n := by
  rw [Int32.lt_iff_toInt_lt, Int32.toInt_ofNat_of_lt hi, Int32.toInt_ofNat_of_lt hn] at h; omega
theorem own_ge0 {x : UInt64} (h : own_A x) : oGe (FP.dcmp x (0 : UInt64)) := own_cge h.1 own_f0 (by rw [own_z0]; exact h.2.1)
theorem own_inf {x : UInt64} (h : own_A x) : FP.dcmp x (9218868437227405312 : UInt64) = some .lt := (FP.Core.fin_lt_inf h.1).1
theorem d4_0 : decode prog_6_method_1_code 0 = .ok (.aload_n 0, 1) := by decide +kernel
theorem d4_1 : decode prog_6_method_1_code 1 = .ok (.invokespecial 1, 3) := by decide +kernel
theorem d4_4 : decode prog_6_method_1_code 4 = .ok (.aload_n 0, 1) := by decide +kernel
theorem d4_5 : decode prog_6_method_1_code 5 = .ok (.dconst 1, 1) := by decide +kernel
theorem d4_6 : decode prog_6_method_1_code 6 = .ok (.putfield 7, 3) := by decide +kernel
theorem d4_9 : decode prog_6_method_1_code 9 = .ok (.dload_n 1, 1) := by decide +kernel
theorem d4_10 : decode prog_6_method_1_code 10 = .ok (.dconst 0, 1) := by decide +kernel
theorem d4_11 : decode prog_6_method_1_code 11 = .ok (.dcmp .l, 1) := by decide +kernel
theorem d4_12 : decode prog_6_method_1_code 12 = .ok (.ifCond .lt 11, 3) := by decide +kernel
theorem d4_15 : decode prog_6_method_1_code 15 = .ok (.dload_n 1, 1) := by decide +kernel
theorem d4_16 : decode prog_6_method_1_code 16 = .ok (.ldc2_w 15, 3) := by decide +kernel
theorem d4_19 : decode prog_6_method_1_code 19 = .ok (.dcmp .g, 1) := by decide +kernel
theorem d4_20 : decode prog_6_method_1_code 20 = .ok (.ifCond .lt 17, 3) := by decide +kernel
theorem d4_23 : decode prog_6_method_1_code 23 = .ok (.new 17, 3) := by decide +kernel
theorem d4_26 : decode prog_6_method_1_code 26 = .ok (.dup, 1) := by decide +kernel
theorem d4_27 : decode prog_6_method_1_code 27 = .ok (.dload_n 1, 1) := by decide +kernel
theorem d4_28 : decode prog_6_method_1_code 28 = .ok (.invokedynamic 19, 5) := by decide +kernel
theorem d4_33 : decode prog_6_method_1_code 33 = .ok (.invokespecial 23, 3) := by decide +kernel
theorem d4_36 : decode prog_6_method_1_code 36 = .ok (.athrow, 1) := by decide +kernel
theorem d4_37 : decode prog_6_method_1_code 37 = .ok (.aload_n 0, 1) := by decide +kernel
theorem d4_38 : decode prog_6_method_1_code 38 = .ok (.dload_n 1, 1) := by decide +kernel
theorem d4_39 : decode prog_6_method_1_code 39 = .ok (.putfield 26, 3) := by decide +kernel
theorem d4_42 : decode prog_6_method_1_code 42 = .ok (.return_, 1) := by decide +kernel
theorem pn_0 : plainName "com/example/retinue/retinue/ErlangB" = true := by first | (simp [plainName, overriddenIn]; done) | decide +kernel
theorem ef1 (m : MethodId) (a1 : Addr) (x : UInt64) (u0 : Value) (u1 : Value) (u2 : Value) : entryFrame m #[(.ref a1), (.double x)] 3 = mkF m 0 #[.val (.ref a1), .val (.double x), .second] [] := by first | (simp [entryFrame, mkF, argsToLocals, Value.category]; done) | rfl
def Q4 (Z : State) (a1 : Addr) (x : UInt64) (u0 : Value) (u1 : Value) (u2 : Value) (h0 : Heap) (n0 : Nat) (v : Option Value) (h : Heap) (L : List Loc) : Prop := v = none ∧ Fr n0 L ∧ Keep h0 h [a1] ∧ Fld Z h a1 "com/example/retinue/retinue/ErlangB" "blocking" "D" (.double (4607182418800017408 : UInt64)) ∧ Fld Z h a1 "com/example/retinue/retinue/ErlangB" "load" "D" (.double x) ∧ Fld Z h a1 "com/example/retinue/retinue/ErlangB" "servers" "I" u2
set_option maxRecDepth 65536 in
set_option maxHeartbeats 40000000 in
theorem rm4 (l : Launch) (Z : State) (a0 : Array Value) (hw : ∀ d ∈ tables_1, d.before a0 Z = true) (ws : List Jvm.Cond) (a1 : Addr) (x : UInt64) (u0 : Value) (u1 : Value) (u2 : Value) (h0 : Heap) (n0 : Nat) (Z0 : n0 ≤ h0.size) (E2 : Exa Z h0 a1 "com/example/retinue/retinue/ErlangB") (F3 : Fld Z h0 a1 "com/example/retinue/retinue/ErlangB" "blocking" "D" u0) (F4 : Fld Z h0 a1 "com/example/retinue/retinue/ErlangB" "load" "D" u1) (F5 : Fld Z h0 a1 "com/example/retinue/retinue/ErlangB" "servers" "I" u2) (g6 : n0 ≤ a1) (hA : own_A x) :
    MetFree l (⟨"com/example/retinue/retinue/ErlangB", "<init>", "(D)V"⟩ : MethodName) (head1 (Jvm.Cond.code (⟨"com/example/retinue/retinue/ErlangB", "<init>", "(D)V"⟩ : MethodName) prog_6_method_1_code 3 none :: ws) ({ frames := 1, cells := 0, slots := 0, locals := 12 } : Room)) (fun a U => a = #[(.ref a1), (.double x)] ∧ Z.Warmed39 U.vm ∧ U.heap = h0) (fun _ _ _ _ _ => True) (fun _ U o U' => ∃ v L, o = .returned v ∧ Q4 Z a1 x u0 u1 u2 h0 n0 v U'.heap L ∧ FrameEnd U o U' L 0 0) := by
  refine MetFree.of_bodySF (plainFor_of_name pn_0) hisR ?_
  intro p e s m args below meth c s₁ Bd hml0 hP hK
  obtain ⟨rfl, hZ, hh⟩ := hP
  have hx := Bd.exec
  have hby := Bd.bytes
  have hml : c.maxLocals = 3 := hml0
  have hown : s.vm.findClass "com/example/retinue/retinue/ErlangB" = some m.cls := findClass_of_methodNamed Bd.named
  have hnm := (name_of_methodNamed Bd.named Bd.method).1
  have X0 : Stand p l e ({ frames := 1, cells := 0, slots := 0, locals := 12 } : Room) s m #[(.ref a1), (.double x)] below meth c s₁ [] 0 0 := Stand.of_body Bd
  have e0 : s₁.heap = h0 := by rw [← hh, Bd.state]; rfl
  have N0 := Fr.nil n0
  have A0 := (⟨X0, hx, hby⟩ : Ax _ _ _ _ _ _ _ _ _ _ _ _ _ _ _)
  show Go p e below (fun U o => ∃ v L, o = .returned v ∧ Q4 Z a1 x u0 u1 u2 h0 n0 v U.heap L ∧ FrameEnd s o U L 0 0) s₁ (entryFrame m #[(.ref a1), (.double x)] 3)
  refine Go.cast (ef1 m a1 x u0 u1 u2) ?_
  refine g_aloadN A0 d4_0 rfl rfl (pc' := 1) rfl ?_
  obtain ⟨T7, X7, e7, st7⟩ := initO X0 hx hZ hown (hw _ (List.mem_of_getElem? (i := 24) rfl)) (hw _ (List.mem_of_getElem? (i := 12) rfl)) (hw _ (List.mem_of_getElem? (i := 13) rfl)) e0 (g := (mkF m 1 #[.val (.ref a1), .val (.double x), .second] [(.ref a1)])) rfl (by rw [hml]; rfl) rfl (hb hby d4_1) (by decide) (W := 0) (by show 2 * 0 + _ ≤ _; exact Nat.le_of_eq rfl) (by decide)
  refine Go.of (g' := (mkF m 4 #[.val (.ref a1), .val (.double x), .second] [])) st7 ?_
  have A8 := (⟨X7, hx, hby⟩ : Ax _ _ _ _ _ _ _ _ _ _ _ _ _ _ _)
  refine g_aloadN A8 d4_4 rfl rfl (pc' := 5) rfl ?_
  refine g_dconst1 A8 d4_5 (pc' := 6) rfl ?_
  obtain ⟨T9, h9, X9, e9, W9, st9⟩ := putF X7 hx hZ hown (host := "") (Or.inl (hw _ (List.mem_of_getElem? (i := 25) rfl))) Via.refl e7 F3 E2 (Or.inl (hw _ (List.mem_of_getElem? (i := 26) rfl))) (hw _ (List.mem_of_getElem? (i := 19) rfl)) (ty := .double) (by decide) rfl rfl (g := (mkF m 6 #[.val (.ref a1), .val (.double x), .second] [(.double (4607182418800017408 : UInt64)), (.ref a1)])) rfl rfl (hb hby d4_6)
  have N10 := Fr.snoc X9 N0 g6
  have K11 : Keep h0 h9 [a1] := (Keep.refl h0 [a1]).wr W9 (Or.inl (List.mem_of_getElem? (i := 0) rfl))
  have E12 : Exa Z h9 a1 "com/example/retinue/retinue/ErlangB" := Exa.wr W9 E2
  have F13 : Fld Z h9 a1 "com/example/retinue/retinue/ErlangB" "load" "D" u1 := Fld.other W9 F4 (Or.inr (slot_ne (Or.inr (hw _ (List.mem_of_getElem? (i := 29) rfl))) (Or.inl (hw _ (List.mem_of_getElem? (i := 26) rfl))) (by decide) (t := .double) (t' := .double) (by decide) (by decide)))
  have F14 : Fld Z h9 a1 "com/example/retinue/retinue/ErlangB" "servers" "I" u2 := Fld.other W9 F5 (Or.inr (slot_ne (Or.inl (hw _ (List.mem_of_getElem? (i := 43) rfl))) (Or.inl (hw _ (List.mem_of_getElem? (i := 26) rfl))) (by decide) (t := .int) (t' := .double) (by decide) (by decide)))
  have F15 : Fld Z h9 a1 "com/example/retinue/retinue/ErlangB" "blocking" "D" (.double (4607182418800017408 : UInt64)) := Fld.same W9 F3
  have Z16 : n0 ≤ h9.size := by rw [W9.size]; exact Z0
  refine Go.of (g' := (mkF m 9 #[.val (.ref a1), .val (.double x), .second] [])) st9 ?_
  have A17 := (⟨X9, hx, hby⟩ : Ax _ _ _ _ _ _ _ _ _ _ _ _ _ _ _)
  refine g_dloadN A17 d4_9 rfl (pc' := 10) rfl ?_
  refine g_dconst0 A17 d4_10 (pc' := 11) rfl ?_
  refine g_dcmp A17 d4_11 (pc' := 12) rfl ?_
  refine g_ifN A17 d4_12 (d_l_lt_f (own_ge0 hA)) (pc' := 15) rfl ?_
  refine g_dloadN A17 d4_15 rfl (pc' := 16) rfl ?_
  refine g_ldcD A17 hZ hown (hw _ (List.mem_of_getElem? (i := 27) rfl)) d4_16 (pc' := 19) rfl ?_
  refine g_dcmp A17 d4_19 (pc' := 20) rfl ?_
  refine g_ifY A17 d4_20 (d_g_lt_t (own_inf hA)) (pc' := 37) rfl ?_
  refine g_aloadN A17 d4_37 rfl rfl (pc' := 38) rfl ?_
  refine g_dloadN A17 d4_38 rfl (pc' := 39) rfl ?_
  obtain ⟨T18, h18, X18, e18, W18, st18⟩ := putF X9 hx hZ hown (host := "") (Or.inl (hw _ (List.mem_of_getElem? (i := 28) rfl))) Via.refl e9 F13 E12 (Or.inr ⟨(hw _ (List.mem_of_getElem? (i := 29) rfl)), rfl, hnm⟩) (hw _ (List.mem_of_getElem? (i := 19) rfl)) (ty := .double) (by decide) rfl rfl (g := (mkF m 39 #[.val (.ref a1), .val (.double x), .second] [(.double x), (.ref a1)])) rfl rfl (hb hby d4_39)
  have N19 := Fr.snoc X18 N10 g6
  have K20 : Keep h0 h18 [a1] := K11.wr W18 (Or.inl (List.mem_of_getElem? (i := 0) rfl))
  have E21 : Exa Z h18 a1 "com/example/retinue/retinue/ErlangB" := Exa.wr W18 E12
  have F22 : Fld Z h18 a1 "com/example/retinue/retinue/ErlangB" "servers" "I" u2 := Fld.other W18 F14 (Or.inr (slot_ne (Or.inl (hw _ (List.mem_of_getElem? (i := 43) rfl))) (Or.inr (hw _ (List.mem_of_getElem? (i := 29) rfl))) (by decide) (t := .int) (t' := .double) (by decide) (by decide)))
  have F23 : Fld Z h18 a1 "com/example/retinue/retinue/ErlangB" "blocking" "D" (.double (4607182418800017408 : UInt64)) := Fld.other W18 F15 (Or.inr (slot_ne (Or.inl (hw _ (List.mem_of_getElem? (i := 26) rfl))) (Or.inr (hw _ (List.mem_of_getElem? (i := 29) rfl))) (by decide) (t := .double) (t' := .double) (by decide) (by decide)))
  have F24 : Fld Z h18 a1 "com/example/retinue/retinue/ErlangB" "load" "D" (.double x) := Fld.same W18 F13
  have Z25 : n0 ≤ h18.size := by rw [W18.size]; exact Z16
  refine Go.of (g' := (mkF m 42 #[.val (.ref a1), .val (.double x), .second] [])) st18 ?_
  have A26 := (⟨X18, hx, hby⟩ : Ax _ _ _ _ _ _ _ _ _ _ _ _ _ _ _)
  exact g_retV (Q := Q4 Z a1 x u0 u1 u2 h0 n0) A26 d4_42 Bd.notSynchronized Bd.returns (by decide) (by decide) (by rw [e18]; exact ⟨rfl, N19, K20, F23, F24, F22⟩)
theorem d6_0 : decode prog_6_method_3_code 0 = .ok (.iload_n 1, 1) := by decide +kernel
theorem d6_1 : decode prog_6_method_3_code 1 = .ok (.ifCond .ge 17, 3) := by decide +kernel
theorem d6_4 : decode prog_6_method_3_code 4 = .ok (.new 17, 3) := by decide +kernel
theorem d6_7 : decode prog_6_method_3_code 7 = .ok (.dup, 1) := by decide +kernel
theorem d6_8 : decode prog_6_method_3_code 8 = .ok (.iload_n 1, 1) := by decide +kernel
theorem d6_9 : decode prog_6_method_3_code 9 = .ok (.invokedynamic 29, 5) := by decide +kernel
theorem d6_14 : decode prog_6_method_3_code 14 = .ok (.invokespecial 23, 3) := by decide +kernel
theorem d6_17 : decode prog_6_method_3_code 17 = .ok (.athrow, 1) := by decide +kernel
theorem d6_18 : decode prog_6_method_3_code 18 = .ok (.iload_n 1, 1) := by decide +kernel
theorem d6_19 : decode prog_6_method_3_code 19 = .ok (.aload_n 0, 1) := by decide +kernel
theorem d6_20 : decode prog_6_method_3_code 20 = .ok (.getfield 32, 3) := by decide +kernel
theorem d6_23 : decode prog_6_method_3_code 23 = .ok (.if_icmp .ge 13, 3) := by decide +kernel
theorem d6_26 : decode prog_6_method_3_code 26 = .ok (.aload_n 0, 1) := by decide +kernel
theorem d6_27 : decode prog_6_method_3_code 27 = .ok (.iconst 0, 1) := by decide +kernel
theorem d6_28 : decode prog_6_method_3_code 28 = .ok (.putfield 32, 3) := by decide +kernel
theorem d6_31 : decode prog_6_method_3_code 31 = .ok (.aload_n 0, 1) := by decide +kernel
theorem d6_32 : decode prog_6_method_3_code 32 = .ok (.dconst 1, 1) := by decide +kernel
theorem d6_33 : decode prog_6_method_3_code 33 = .ok (.putfield 7, 3) := by decide +kernel
theorem d6_36 : decode prog_6_method_3_code 36 = .ok (.aload_n 0, 1) := by decide +kernel
theorem d6_37 : decode prog_6_method_3_code 37 = .ok (.getfield 32, 3) := by decide +kernel
theorem d6_40 : decode prog_6_method_3_code 40 = .ok (.iload_n 1, 1) := by decide +kernel
theorem d6_41 : decode prog_6_method_3_code 41 = .ok (.if_icmp .ge 39, 3) := by decide +kernel
theorem d6_44 : decode prog_6_method_3_code 44 = .ok (.aload_n 0, 1) := by decide +kernel
theorem d6_45 : decode prog_6_method_3_code 45 = .ok (.dup, 1) := by decide +kernel
theorem d6_46 : decode prog_6_method_3_code 46 = .ok (.getfield 32, 3) := by decide +kernel
theorem d6_49 : decode prog_6_method_3_code 49 = .ok (.iconst 1, 1) := by decide +kernel
theorem d6_50 : decode prog_6_method_3_code 50 = .ok (.iadd, 1) := by decide +kernel
theorem d6_51 : decode prog_6_method_3_code 51 = .ok (.putfield 32, 3) := by decide +kernel
theorem d6_54 : decode prog_6_method_3_code 54 = .ok (.aload_n 0, 1) := by decide +kernel
theorem d6_55 : decode prog_6_method_3_code 55 = .ok (.getfield 26, 3) := by decide +kernel
theorem d6_58 : decode prog_6_method_3_code 58 = .ok (.aload_n 0, 1) := by decide +kernel
theorem d6_59 : decode prog_6_method_3_code 59 = .ok (.getfield 7, 3) := by decide +kernel
theorem d6_62 : decode prog_6_method_3_code 62 = .ok (.dmul, 1) := by decide +kernel
theorem d6_63 : decode prog_6_method_3_code 63 = .ok (.dstore_n 2, 1) := by decide +kernel
theorem d6_64 : decode prog_6_method_3_code 64 = .ok (.aload_n 0, 1) := by decide +kernel
theorem d6_65 : decode prog_6_method_3_code 65 = .ok (.dload_n 2, 1) := by decide +kernel
theorem d6_66 : decode prog_6_method_3_code 66 = .ok (.aload_n 0, 1) := by decide +kernel
theorem d6_67 : decode prog_6_method_3_code 67 = .ok (.getfield 32, 3) := by decide +kernel
theorem d6_70 : decode prog_6_method_3_code 70 = .ok (.i2d, 1) := by decide +kernel
theorem d6_71 : decode prog_6_method_3_code 71 = .ok (.dload_n 2, 1) := by decide +kernel
theorem d6_72 : decode prog_6_method_3_code 72 = .ok (.dadd, 1) := by decide +kernel
theorem d6_73 : decode prog_6_method_3_code 73 = .ok (.ddiv, 1) := by decide +kernel
theorem d6_74 : decode prog_6_method_3_code 74 = .ok (.putfield 7, 3) := by decide +kernel
theorem d6_77 : decode prog_6_method_3_code 77 = .ok (.goto (-41), 3) := by decide +kernel
theorem d6_80 : decode prog_6_method_3_code 80 = .ok (.aload_n 0, 1) := by decide +kernel
theorem d6_81 : decode prog_6_method_3_code 81 = .ok (.getfield 7, 3) := by decide +kernel
theorem d6_84 : decode prog_6_method_3_code 84 = .ok (.dreturn, 1) := by decide +kernel
set_option maxRecDepth 65536 in
set_option maxHeartbeats 40000000 in
theorem own_loop {p : Program} {l : Launch} {e : Env} {R : Room} {s : State} {m : MethodId} {args : Array Value} {below : List Frame} {meth : Method} {c : Code} {cells slots : Nat} {P : State → Outcome → Prop} {Z : State} {a0 : Array Value} {h0 : Heap} {n0 : Nat} (a1 : Addr) (n : Nat) (x : UInt64) (hw : ∀ d ∈ tables_1, d.before a0 Z = true) (hZ : Z.Warmed39 s.vm) (hx : p.tables.exec = Jvm.exec) (hby : c.code = prog_6_method_3_code) (hml : c.maxLocals = 4) (hown : s.vm.findClass "com/example/retinue/retinue/ErlangB" = some m.cls) (hnm : meth.name = "blocking") (g_a1 : n0 ≤ a1) (hA : own_A x) (hn : n ≤ 1000)
    (done : ∀ (T : State) (h : Heap) (locs : List Loc) (sl2 sl3 : Slot) , Ax p l e R s m args below meth c T locs cells slots prog_6_method_3_code → T.heap = h → Exa Z h a1 "com/example/retinue/retinue/ErlangB" → Fld Z h a1 "com/example/retinue/retinue/ErlangB" "servers" "I" (.int (Int32.ofNat n)) → Fld Z h a1 "com/example/retinue/retinue/ErlangB" "blocking" "D" (.double (own_B x n)) → Fld Z h a1 "com/example/retinue/retinue/ErlangB" "load" "D" (.double x) → ((sl2 = .unset ∧ sl3 = .unset) ∨ ∃ t : UInt64, sl2 = .val (.double t) ∧ sl3 = .second) → Fr n0 locs → n0 ≤ h.size → Keep h0 h [a1] → Go p e below P T (mkF m 80 #[.val (.ref a1), .val (.int (Int32.ofNat n)), sl2, sl3] [])) :
    ∀ (k i : Nat) (T : State) (h : Heap) (locs : List Loc) (sl2 sl3 : Slot) , i + k = n → Ax p l e R s m args below meth c T locs cells slots prog_6_method_3_code → T.heap = h → Exa Z h a1 "com/example/retinue/retinue/ErlangB" → Fld Z h a1 "com/example/retinue/retinue/ErlangB" "servers" "I" (.int (Int32.ofNat i)) → Fld Z h a1 "com/example/retinue/retinue/ErlangB" "blocking" "D" (.double (own_B x i)) → Fld Z h a1 "com/example/retinue/retinue/ErlangB" "load" "D" (.double x) → ((sl2 = .unset ∧ sl3 = .unset) ∨ ∃ t : UInt64, sl2 = .val (.double t) ∧ sl3 = .second) → Fr n0 locs → n0 ≤ h.size → Keep h0 h [a1] → Go p e below P T (mkF m 36 #[.val (.ref a1), .val (.int (Int32.ofNat n)), sl2, sl3] []) := by
  intro k
  induction k with
  | zero =>
    intro i T h locs sl2 sl3 hi A eT E27 F28 F29 F30 hsl N1 z1 K1
    obtain rfl : i = n := by omega
    refine g_aloadN A d6_36 rfl rfl (pc' := 37) rfl ?_
    obtain ⟨T31, X31, e31, st31⟩ := getF A.1 hx hZ hown (host := "") (Or.inl (hw _ (List.mem_of_getElem? (i := 42) rfl))) Via.refl eT F28 (g := (mkF m 37 #[.val (.ref a1), .val (.int (Int32.ofNat i)), sl2, sl3] [(.ref a1)])) rfl rfl (hb hby d6_37)
    refine Go.of (g' := (mkF m 40 #[.val (.ref a1), .val (.int (Int32.ofNat i)), sl2, sl3] [(.int (Int32.ofNat i))])) st31 ?_
    have A32 := (⟨X31, hx, hby⟩ : Ax _ _ _ _ _ _ _ _ _ _ _ _ _ _ _)
    refine g_iloadN A32 d6_40 rfl (pc' := 41) rfl ?_
    refine g_icY A32 d6_41 (c2_ge_t (own_onl (Nat.le_refl _) (by omega))) (pc' := 80) rfl ?_
    exact done T31 h _ (sl2) (sl3) A32 e31 E27 F28 F29 F30 hsl N1 z1 K1
  | succ k ih =>
    intro i T h locs sl2 sl3 hi A eT E33 F34 F35 F36 hsl N1 z1 K1
    have hU := own_BU hA i (by omega)
    refine g_aloadN A d6_36 rfl rfl (pc' := 37) rfl ?_
    obtain ⟨T37, X37, e37, st37⟩ := getF A.1 hx hZ hown (host := "") (Or.inl (hw _ (List.mem_of_getElem? (i := 42) rfl))) Via.refl eT F34 (g := (mkF m 37 #[.val (.ref a1), .val (.int (Int32.ofNat n)), sl2, sl3] [(.ref a1)])) rfl rfl (hb hby d6_37)
    refine Go.of (g' := (mkF m 40 #[.val (.ref a1), .val (.int (Int32.ofNat n)), sl2, sl3] [(.int (Int32.ofNat i))])) st37 ?_
    have A38 := (⟨X37, hx, hby⟩ : Ax _ _ _ _ _ _ _ _ _ _ _ _ _ _ _)
    refine g_iloadN A38 d6_40 rfl (pc' := 41) rfl ?_
    refine g_icN A38 d6_41 (c2_ge_f (own_olt (by omega) (by omega))) (pc' := 44) rfl ?_
    refine g_aloadN A38 d6_44 rfl rfl (pc' := 45) rfl ?_
    refine g_dup A38 d6_45 rfl (pc' := 46) rfl ?_
    obtain ⟨T39, X39, e39, st39⟩ := getF X37 hx hZ hown (host := "") (Or.inl (hw _ (List.mem_of_getElem? (i := 42) rfl))) Via.refl e37 F34 (g := (mkF m 46 #[.val (.ref a1), .val (.int (Int32.ofNat n)), sl2, sl3] [(.ref a1), (.ref a1)])) rfl rfl (hb hby d6_46)
    refine Go.of (g' := (mkF m 49 #[.val (.ref a1), .val (.int (Int32.ofNat n)), sl2, sl3] [(.int (Int32.ofNat i)), (.ref a1)])) st39 ?_
    have A40 := (⟨X39, hx, hby⟩ : Ax _ _ _ _ _ _ _ _ _ _ _ _ _ _ _)
    refine g_iconst A40 d6_49 (v := (1 : Int32)) rfl (pc' := 50) rfl ?_
    refine g_iadd A40 d6_50 (pc' := 51) rfl ?_
    rw [own_succ]
    obtain ⟨T41, h41, X41, e41, W41, st41⟩ := putF X39 hx hZ hown (host := "") (Or.inl (hw _ (List.mem_of_getElem? (i := 42) rfl))) Via.refl e39 F34 E33 (Or.inl (hw _ (List.mem_of_getElem? (i := 43) rfl))) (hw _ (List.mem_of_getElem? (i := 19) rfl)) (ty := .int) (by decide) rfl rfl (g := (mkF m 51 #[.val (.ref a1), .val (.int (Int32.ofNat n)), sl2, sl3] [(.int (Int32.ofNat (i + 1))), (.ref a1)])) rfl rfl (hb hby d6_51)
    have N42 := Fr.snoc X41 N1 g_a1
    have K43 : Keep h0 h41 [a1] := K1.wr W41 (Or.inl (List.mem_of_getElem? (i := 0) rfl))
    have E44 : Exa Z h41 a1 "com/example/retinue/retinue/ErlangB" := Exa.wr W41 E33
    have F45 : Fld Z h41 a1 "com/example/retinue/retinue/ErlangB" "blocking" "D" (.double (own_B x i)) := Fld.other W41 F35 (Or.inr (slot_ne (Or.inl (hw _ (List.mem_of_getElem? (i := 26) rfl))) (Or.inl (hw _ (List.mem_of_getElem? (i := 43) rfl))) (by decide) (t := .double) (t' := .int) (by decide) (by decide)))
    have F46 : Fld Z h41 a1 "com/example/retinue/retinue/ErlangB" "load" "D" (.double x) := Fld.other W41 F36 (Or.inr (slot_ne (Or.inr (hw _ (List.mem_of_getElem? (i := 29) rfl))) (Or.inl (hw _ (List.mem_of_getElem? (i := 43) rfl))) (by decide) (t := .double) (t' := .int) (by decide) (by decide)))
    have F47 : Fld Z h41 a1 "com/example/retinue/retinue/ErlangB" "servers" "I" (.int (Int32.ofNat (i + 1))) := Fld.same W41 F34
    have Z48 : n0 ≤ h41.size := by rw [W41.size]; exact z1
    refine Go.of (g' := (mkF m 54 #[.val (.ref a1), .val (.int (Int32.ofNat n)), sl2, sl3] [])) st41 ?_
    have A49 := (⟨X41, hx, hby⟩ : Ax _ _ _ _ _ _ _ _ _ _ _ _ _ _ _)
    refine g_aloadN A49 d6_54 rfl rfl (pc' := 55) rfl ?_
    obtain ⟨T50, X50, e50, st50⟩ := getF X41 hx hZ hown (host := "") (Or.inl (hw _ (List.mem_of_getElem? (i := 28) rfl))) Via.refl e41 F46 (g := (mkF m 55 #[.val (.ref a1), .val (.int (Int32.ofNat n)), sl2, sl3] [(.ref a1)])) rfl rfl (hb hby d6_55)
    refine Go.of (g' := (mkF m 58 #[.val (.ref a1), .val (.int (Int32.ofNat n)), sl2, sl3] [(.double x)])) st50 ?_
    have A51 := (⟨X50, hx, hby⟩ : Ax _ _ _ _ _ _ _ _ _ _ _ _ _ _ _)
    refine g_aloadN A51 d6_58 rfl rfl (pc' := 59) rfl ?_
    obtain ⟨T52, X52, e52, st52⟩ := getF X50 hx hZ hown (host := "") (Or.inl (hw _ (List.mem_of_getElem? (i := 25) rfl))) Via.refl e50 F45 (g := (mkF m 59 #[.val (.ref a1), .val (.int (Int32.ofNat n)), sl2, sl3] [(.ref a1), (.double x)])) rfl rfl (hb hby d6_59)
    refine Go.of (g' := (mkF m 62 #[.val (.ref a1), .val (.int (Int32.ofNat n)), sl2, sl3] [(.double (own_B x i)), (.double x)])) st52 ?_
    have A53 := (⟨X52, hx, hby⟩ : Ax _ _ _ _ _ _ _ _ _ _ _ _ _ _ _)
    refine g_dmul A53 d6_62 (own_n1 hA hU) (pc' := 63) rfl ?_
    have hst54 : storeLocals #[.val (.ref a1), .val (.int (Int32.ofNat n)), sl2, sl3] 2 (.double (FP.dmul x (own_B x i))) = some #[.val (.ref a1), .val (.int (Int32.ofNat n)), .val (.double (FP.dmul x (own_B x i))), .second] := by rcases hsl with ⟨rfl, rfl⟩ | ⟨t, rfl, rfl⟩ <;> rfl
    refine g_dstoreN A53 d6_63 hst54 (pc' := 64) rfl ?_
    refine g_aloadN A53 d6_64 rfl rfl (pc' := 65) rfl ?_
    refine g_dloadN A53 d6_65 rfl (pc' := 66) rfl ?_
    refine g_aloadN A53 d6_66 rfl rfl (pc' := 67) rfl ?_
    obtain ⟨T55, X55, e55, st55⟩ := getF X52 hx hZ hown (host := "") (Or.inl (hw _ (List.mem_of_getElem? (i := 42) rfl))) Via.refl e52 F47 (g := (mkF m 67 #[.val (.ref a1), .val (.int (Int32.ofNat n)), .val (.double (FP.dmul x (own_B x i))), .second] [(.ref a1), (.double (FP.dmul x (own_B x i))), (.ref a1)])) rfl rfl (hb hby d6_67)
    refine Go.of (g' := (mkF m 70 #[.val (.ref a1), .val (.int (Int32.ofNat n)), .val (.double (FP.dmul x (own_B x i))), .second] [(.int (Int32.ofNat (i + 1))), (.double (FP.dmul x (own_B x i))), (.ref a1)])) st55 ?_
    have A56 := (⟨X55, hx, hby⟩ : Ax _ _ _ _ _ _ _ _ _ _ _ _ _ _ _)
    refine g_i2d A56 d6_70 (pc' := 71) rfl ?_
    refine g_dloadN A56 d6_71 rfl (pc' := 72) rfl ?_
    refine g_dadd A56 d6_72 (own_n2 hA hU (by omega) (by omega)) (pc' := 73) rfl ?_
    refine g_ddiv A56 d6_73 (own_n3 hA hU (by omega) (by omega)) (pc' := 74) rfl ?_
    have e57 : (FP.ddiv (FP.dmul x (own_B x i)) (FP.dadd (FP.i2d (Int32.ofNat (i + 1))) (FP.dmul x (own_B x i)))) = own_B x (i + 1) := rfl
    rw [e57]
    obtain ⟨T58, h58, X58, e58, W58, st58⟩ := putF X55 hx hZ hown (host := "") (Or.inl (hw _ (List.mem_of_getElem? (i := 25) rfl))) Via.refl e55 F45 E44 (Or.inl (hw _ (List.mem_of_getElem? (i := 26) rfl))) (hw _ (List.mem_of_getElem? (i := 19) rfl)) (ty := .double) (by decide) rfl rfl (g := (mkF m 74 #[.val (.ref a1), .val (.int (Int32.ofNat n)), .val (.double (FP.dmul x (own_B x i))), .second] [(.double (own_B x (i + 1))), (.ref a1)])) rfl rfl (hb hby d6_74)
    have N59 := Fr.snoc X58 N42 g_a1
    have K60 : Keep h0 h58 [a1] := K43.wr W58 (Or.inl (List.mem_of_getElem? (i := 0) rfl))
    have E61 : Exa Z h58 a1 "com/example/retinue/retinue/ErlangB" := Exa.wr W58 E44
    have F62 : Fld Z h58 a1 "com/example/retinue/retinue/ErlangB" "load" "D" (.double x) := Fld.other W58 F46 (Or.inr (slot_ne (Or.inr (hw _ (List.mem_of_getElem? (i := 29) rfl))) (Or.inl (hw _ (List.mem_of_getElem? (i := 26) rfl))) (by decide) (t := .double) (t' := .double) (by decide) (by decide)))
    have F63 : Fld Z h58 a1 "com/example/retinue/retinue/ErlangB" "servers" "I" (.int (Int32.ofNat (i + 1))) := Fld.other W58 F47 (Or.inr (slot_ne (Or.inl (hw _ (List.mem_of_getElem? (i := 43) rfl))) (Or.inl (hw _ (List.mem_of_getElem? (i := 26) rfl))) (by decide) (t := .int) (t' := .double) (by decide) (by decide)))
    have F64 : Fld Z h58 a1 "com/example/retinue/retinue/ErlangB" "blocking" "D" (.double (own_B x (i + 1))) := Fld.same W58 F45
    have Z65 : n0 ≤ h58.size := by rw [W58.size]; exact Z48
    refine Go.of (g' := (mkF m 77 #[.val (.ref a1), .val (.int (Int32.ofNat n)), .val (.double (FP.dmul x (own_B x i))), .second] [])) st58 ?_
    have A66 := (⟨X58, hx, hby⟩ : Ax _ _ _ _ _ _ _ _ _ _ _ _ _ _ _)
    refine g_goto A66 d6_77 (pc' := 36) rfl ?_
    exact ih (i + 1) T58 h58 _ (.val (.double (FP.dmul x (own_B x i)))) (.second) (by omega) A66 e58 E61 F63 F64 F62 (Or.inr ⟨_, rfl, rfl⟩) N59 Z65 K60
theorem ef67 (m : MethodId) (a1 : Addr) (n : Nat) (j : Nat) (x : UInt64) : entryFrame m #[(.ref a1), (.int (Int32.ofNat n))] 4 = mkF m 0 #[.val (.ref a1), .val (.int (Int32.ofNat n)), .unset, .unset] [] := by first | (simp [entryFrame, mkF, argsToLocals, Value.category]; done) | rfl
def Q6 (Z : State) (a1 : Addr) (n : Nat) (j : Nat) (x : UInt64) (h0 : Heap) (n0 : Nat) (v : Option Value) (h : Heap) (L : List Loc) : Prop := v = some (.double (own_B x n)) ∧ Fr n0 L ∧ Keep h0 h [a1] ∧ Fld Z h a1 "com/example/retinue/retinue/ErlangB" "servers" "I" (.int (Int32.ofNat n)) ∧ Fld Z h a1 "com/example/retinue/retinue/ErlangB" "blocking" "D" (.double (own_B x n)) ∧ Fld Z h a1 "com/example/retinue/retinue/ErlangB" "load" "D" (.double x)
set_option maxRecDepth 65536 in
set_option maxHeartbeats 40000000 in
theorem rm6 (l : Launch) (Z : State) (a0 : Array Value) (hw : ∀ d ∈ tables_1, d.before a0 Z = true) (ws : List Jvm.Cond) (a1 : Addr) (n : Nat) (j : Nat) (x : UInt64) (h0 : Heap) (n0 : Nat) (Z0 : n0 ≤ h0.size) (E68 : Exa Z h0 a1 "com/example/retinue/retinue/ErlangB") (F69 : Fld Z h0 a1 "com/example/retinue/retinue/ErlangB" "servers" "I" (.int (Int32.ofNat j))) (F70 : Fld Z h0 a1 "com/example/retinue/retinue/ErlangB" "blocking" "D" (.double (own_B x j))) (F71 : Fld Z h0 a1 "com/example/retinue/retinue/ErlangB" "load" "D" (.double x)) (g72 : n0 ≤ a1) (hA : own_A x) (hn : n ≤ 1000) (hj : j ≤ 1000) :
    MetFree l (⟨"com/example/retinue/retinue/ErlangB", "blocking", "(I)D"⟩ : MethodName) (head1 (Jvm.Cond.code (⟨"com/example/retinue/retinue/ErlangB", "blocking", "(I)D"⟩ : MethodName) prog_6_method_3_code 4 (some .double) :: ws) ({ frames := 0, cells := 0, slots := 0, locals := 0 } : Room)) (fun a U => a = #[(.ref a1), (.int (Int32.ofNat n))] ∧ Z.Warmed39 U.vm ∧ U.heap = h0) (fun _ _ _ _ _ => True) (fun _ U o U' => ∃ v L, o = .returned v ∧ Q6 Z a1 n j x h0 n0 v U'.heap L ∧ FrameEnd U o U' L 0 0) := by
  refine MetFree.of_bodySF (plainFor_of_name pn_0) hisR ?_
  intro p e s m args below meth c s₁ Bd hml0 hP hK
  obtain ⟨rfl, hZ, hh⟩ := hP
  have hx := Bd.exec
  have hby := Bd.bytes
  have hml : c.maxLocals = 4 := hml0
  have hown : s.vm.findClass "com/example/retinue/retinue/ErlangB" = some m.cls := findClass_of_methodNamed Bd.named
  have hnm := (name_of_methodNamed Bd.named Bd.method).1
  have X0 : Stand p l e ({ frames := 0, cells := 0, slots := 0, locals := 0 } : Room) s m #[(.ref a1), (.int (Int32.ofNat n))] below meth c s₁ [] 0 0 := Stand.of_body Bd
  have e0 : s₁.heap = h0 := by rw [← hh, Bd.state]; rfl
  have N0 := Fr.nil n0
  have A0 := (⟨X0, hx, hby⟩ : Ax _ _ _ _ _ _ _ _ _ _ _ _ _ _ _)
  show Go p e below (fun U o => ∃ v L, o = .returned v ∧ Q6 Z a1 n j x h0 n0 v U.heap L ∧ FrameEnd s o U L 0 0) s₁ (entryFrame m #[(.ref a1), (.int (Int32.ofNat n))] 4)
  refine Go.cast (ef67 m a1 n j x) ?_
  refine g_iloadN A0 d6_0 rfl (pc' := 1) rfl ?_
  refine g_ifY A0 d6_1 (c0_ge_t (own_clamp (by omega)).2) (pc' := 18) rfl ?_
  refine g_iloadN A0 d6_18 rfl (pc' := 19) rfl ?_
  refine g_aloadN A0 d6_19 rfl rfl (pc' := 20) rfl ?_
  obtain ⟨T73, X73, e73, st73⟩ := getF X0 hx hZ hown (host := "") (Or.inl (hw _ (List.mem_of_getElem? (i := 42) rfl))) Via.refl e0 F69 (g := (mkF m 20 #[.val (.ref a1), .val (.int (Int32.ofNat n)), .unset, .unset] [(.ref a1), (.int (Int32.ofNat n))])) rfl rfl (hb hby d6_20)
  refine Go.of (g' := (mkF m 23 #[.val (.ref a1), .val (.int (Int32.ofNat n)), .unset, .unset] [(.int (Int32.ofNat j)), (.int (Int32.ofNat n))])) st73 ?_
  have A74 := (⟨X73, hx, hby⟩ : Ax _ _ _ _ _ _ _ _ _ _ _ _ _ _ _)
  by_cases hlt : (Int32.ofNat n) < (Int32.ofNat j)
  · skip
    refine g_icN A74 d6_23 (c2_ge_f hlt) (pc' := 26) rfl ?_
    refine g_aloadN A74 d6_26 rfl rfl (pc' := 27) rfl ?_
    refine g_iconst A74 d6_27 (v := (0 : Int32)) rfl (pc' := 28) rfl ?_
    obtain ⟨T75, h75, X75, e75, W75, st75⟩ := putF X73 hx hZ hown (host := "") (Or.inl (hw _ (List.mem_of_getElem? (i := 42) rfl))) Via.refl e73 F69 E68 (Or.inl (hw _ (List.mem_of_getElem? (i := 43) rfl))) (hw _ (List.mem_of_getElem? (i := 19) rfl)) (ty := .int) (by decide) rfl rfl (g := (mkF m 28 #[.val (.ref a1), .val (.int (Int32.ofNat n)), .unset, .unset] [(.int (0 : Int32)), (.ref a1)])) rfl rfl (hb hby d6_28)
    have N76 := Fr.snoc X75 N0 g72
    have K77 : Keep h0 h75 [a1] := (Keep.refl h0 [a1]).wr W75 (Or.inl (List.mem_of_getElem? (i := 0) rfl))
    have E78 : Exa Z h75 a1 "com/example/retinue/retinue/ErlangB" := Exa.wr W75 E68
    have F79 : Fld Z h75 a1 "com/example/retinue/retinue/ErlangB" "blocking" "D" (.double (own_B x j)) := Fld.other W75 F70 (Or.inr (slot_ne (Or.inl (hw _ (List.mem_of_getElem? (i := 26) rfl))) (Or.inl (hw _ (List.mem_of_getElem? (i := 43) rfl))) (by decide) (t := .double) (t' := .int) (by decide) (by decide)))
    have F80 : Fld Z h75 a1 "com/example/retinue/retinue/ErlangB" "load" "D" (.double x) := Fld.other W75 F71 (Or.inr (slot_ne (Or.inr (hw _ (List.mem_of_getElem? (i := 29) rfl))) (Or.inl (hw _ (List.mem_of_getElem? (i := 43) rfl))) (by decide) (t := .double) (t' := .int) (by decide) (by decide)))
    have F81 : Fld Z h75 a1 "com/example/retinue/retinue/ErlangB" "servers" "I" (.int (0 : Int32)) := Fld.same W75 F69
    have Z82 : n0 ≤ h75.size := by rw [W75.size]; exact Z0
    refine Go.of (g' := (mkF m 31 #[.val (.ref a1), .val (.int (Int32.ofNat n)), .unset, .unset] [])) st75 ?_
    have A83 := (⟨X75, hx, hby⟩ : Ax _ _ _ _ _ _ _ _ _ _ _ _ _ _ _)
    refine g_aloadN A83 d6_31 rfl rfl (pc' := 32) rfl ?_
    refine g_dconst1 A83 d6_32 (pc' := 33) rfl ?_
    obtain ⟨T84, h84, X84, e84, W84, st84⟩ := putF X75 hx hZ hown (host := "") (Or.inl (hw _ (List.mem_of_getElem? (i := 25) rfl))) Via.refl e75 F79 E78 (Or.inl (hw _ (List.mem_of_getElem? (i := 26) rfl))) (hw _ (List.mem_of_getElem? (i := 19) rfl)) (ty := .double) (by decide) rfl rfl (g := (mkF m 33 #[.val (.ref a1), .val (.int (Int32.ofNat n)), .unset, .unset] [(.double (4607182418800017408 : UInt64)), (.ref a1)])) rfl rfl (hb hby d6_33)
    have N85 := Fr.snoc X84 N76 g72
    have K86 : Keep h0 h84 [a1] := K77.wr W84 (Or.inl (List.mem_of_getElem? (i := 0) rfl))
    have E87 : Exa Z h84 a1 "com/example/retinue/retinue/ErlangB" := Exa.wr W84 E78
    have F88 : Fld Z h84 a1 "com/example/retinue/retinue/ErlangB" "load" "D" (.double x) := Fld.other W84 F80 (Or.inr (slot_ne (Or.inr (hw _ (List.mem_of_getElem? (i := 29) rfl))) (Or.inl (hw _ (List.mem_of_getElem? (i := 26) rfl))) (by decide) (t := .double) (t' := .double) (by decide) (by decide)))
    have F89 : Fld Z h84 a1 "com/example/retinue/retinue/ErlangB" "servers" "I" (.int (0 : Int32)) := Fld.other W84 F81 (Or.inr (slot_ne (Or.inl (hw _ (List.mem_of_getElem? (i := 43) rfl))) (Or.inl (hw _ (List.mem_of_getElem? (i := 26) rfl))) (by decide) (t := .int) (t' := .double) (by decide) (by decide)))
    have F90 : Fld Z h84 a1 "com/example/retinue/retinue/ErlangB" "blocking" "D" (.double (4607182418800017408 : UInt64)) := Fld.same W84 F79
    have Z91 : n0 ≤ h84.size := by rw [W84.size]; exact Z82
    refine Go.of (g' := (mkF m 36 #[.val (.ref a1), .val (.int (Int32.ofNat n)), .unset, .unset] [])) st84 ?_
    have A92 := (⟨X84, hx, hby⟩ : Ax _ _ _ _ _ _ _ _ _ _ _ _ _ _ _)
    refine own_loop a1 n x hw hZ hx hby hml hown hnm g72 hA hn ?_ (n) (0) T84 h84 _ .unset .unset (by omega) A92 e84 E87 F89 F90 F88 (Or.inl ⟨rfl, rfl⟩) N85 Z91 K86
    intro T93 h93 lo93 sl99 sl100 A93 e93 F94 F95 F96 F97 iv98 N93 Z93 K93
    refine g_aloadN A93 d6_80 rfl rfl (pc' := 81) rfl ?_
    obtain ⟨T101, X101, e101, st101⟩ := getF A93.1 hx hZ hown (host := "") (Or.inl (hw _ (List.mem_of_getElem? (i := 25) rfl))) Via.refl e93 F96 (g := (mkF m 81 #[.val (.ref a1), .val (.int (Int32.ofNat n)), sl99, sl100] [(.ref a1)])) rfl rfl (hb hby d6_81)
    refine Go.of (g' := (mkF m 84 #[.val (.ref a1), .val (.int (Int32.ofNat n)), sl99, sl100] [(.double (own_B x n))])) st101 ?_
    have A102 := (⟨X101, hx, hby⟩ : Ax _ _ _ _ _ _ _ _ _ _ _ _ _ _ _)
    exact g_ret (Q := Q6 Z a1 n j x h0 n0) A102 d6_84 Bd.notSynchronized Bd.returns rfl (Or.inr (Or.inr (Or.inl ⟨rfl, rfl, _, rfl⟩))) (by decide) (by decide) (by rw [e101]; exact ⟨rfl, N93, K93, F95, F96, F97⟩)
  · skip
    refine g_icY A74 d6_23 (c2_ge_t hlt) (pc' := 36) rfl ?_
    have hjn : j ≤ n := Nat.le_of_not_lt fun q => hlt (own_olt q (by omega))
    refine own_loop a1 n x hw hZ hx hby hml hown hnm g72 hA hn ?_ (n - j) (j) T73 h0 _ .unset .unset (by omega) A74 e73 E68 F69 F70 F71 (Or.inl ⟨rfl, rfl⟩) N0 Z0 (Keep.refl h0 [a1])
    intro T103 h103 lo103 sl109 sl110 A103 e103 F104 F105 F106 F107 iv108 N103 Z103 K103
    refine g_aloadN A103 d6_80 rfl rfl (pc' := 81) rfl ?_
    obtain ⟨T111, X111, e111, st111⟩ := getF A103.1 hx hZ hown (host := "") (Or.inl (hw _ (List.mem_of_getElem? (i := 25) rfl))) Via.refl e103 F106 (g := (mkF m 81 #[.val (.ref a1), .val (.int (Int32.ofNat n)), sl109, sl110] [(.ref a1)])) rfl rfl (hb hby d6_81)
    refine Go.of (g' := (mkF m 84 #[.val (.ref a1), .val (.int (Int32.ofNat n)), sl109, sl110] [(.double (own_B x n))])) st111 ?_
    have A112 := (⟨X111, hx, hby⟩ : Ax _ _ _ _ _ _ _ _ _ _ _ _ _ _ _)
    exact g_ret (Q := Q6 Z a1 n j x h0 n0) A112 d6_84 Bd.notSynchronized Bd.returns rfl (Or.inr (Or.inr (Or.inl ⟨rfl, rfl, _, rfl⟩))) (by decide) (by decide) (by rw [e111]; exact ⟨rfl, N103, K103, F105, F106, F107⟩)
theorem d9_0 : decode jdk_30_method_1_code 0 = .ok (.aload_n 0, 1) := by decide +kernel
theorem d9_1 : decode jdk_30_method_1_code 1 = .ok (.invokespecial 1, 3) := by decide +kernel
theorem d9_4 : decode jdk_30_method_1_code 4 = .ok (.return_, 1) := by decide +kernel
theorem pn_1 : plainName "java/lang/Record" = true := by first | (simp [plainName, overriddenIn]; done) | decide +kernel
theorem ef113 (m : MethodId) (a1 : Addr) : entryFrame m #[(.ref a1)] 1 = mkF m 0 #[.val (.ref a1)] [] := by first | (simp [entryFrame, mkF, argsToLocals, Value.category]; done) | rfl
def Q9 (Z : State) (a1 : Addr) (h0 : Heap) (n0 : Nat) (v : Option Value) (h : Heap) (L : List Loc) : Prop := v = none ∧ Fr n0 L ∧ h = h0
set_option maxRecDepth 65536 in
set_option maxHeartbeats 40000000 in
theorem rm9 (l : Launch) (Z : State) (a0 : Array Value) (hw : ∀ d ∈ tables_1, d.before a0 Z = true) (ws : List Jvm.Cond) (a1 : Addr) (h0 : Heap) (n0 : Nat) (Z0 : n0 ≤ h0.size)  :
    MetFree l (⟨"java/lang/Record", "<init>", "()V"⟩ : MethodName) (head1 (Jvm.Cond.code (⟨"java/lang/Record", "<init>", "()V"⟩ : MethodName) jdk_30_method_1_code 1 none :: ws) ({ frames := 1, cells := 0, slots := 0, locals := 12 } : Room)) (fun a U => a = #[(.ref a1)] ∧ Z.Warmed39 U.vm ∧ U.heap = h0) (fun _ _ _ _ _ => True) (fun _ U o U' => ∃ v L, o = .returned v ∧ Q9 Z a1 h0 n0 v U'.heap L ∧ FrameEnd U o U' L 0 0) := by
  refine MetFree.of_bodySF (plainFor_of_name pn_1) hisR ?_
  intro p e s m args below meth c s₁ Bd hml0 hP hK
  obtain ⟨rfl, hZ, hh⟩ := hP
  have hx := Bd.exec
  have hby := Bd.bytes
  have hml : c.maxLocals = 1 := hml0
  have hown : s.vm.findClass "java/lang/Record" = some m.cls := findClass_of_methodNamed Bd.named
  have hnm := (name_of_methodNamed Bd.named Bd.method).1
  have X0 : Stand p l e ({ frames := 1, cells := 0, slots := 0, locals := 12 } : Room) s m #[(.ref a1)] below meth c s₁ [] 0 0 := Stand.of_body Bd
  have e0 : s₁.heap = h0 := by rw [← hh, Bd.state]; rfl
  have N0 := Fr.nil n0
  have A0 := (⟨X0, hx, hby⟩ : Ax _ _ _ _ _ _ _ _ _ _ _ _ _ _ _)
  show Go p e below (fun U o => ∃ v L, o = .returned v ∧ Q9 Z a1 h0 n0 v U.heap L ∧ FrameEnd s o U L 0 0) s₁ (entryFrame m #[(.ref a1)] 1)
  refine Go.cast (ef113 m a1) ?_
  refine g_aloadN A0 d9_0 rfl rfl (pc' := 1) rfl ?_
  obtain ⟨T114, X114, e114, st114⟩ := initO X0 hx hZ hown (hw _ (List.mem_of_getElem? (i := 60) rfl)) (hw _ (List.mem_of_getElem? (i := 12) rfl)) (hw _ (List.mem_of_getElem? (i := 13) rfl)) e0 (g := (mkF m 1 #[.val (.ref a1)] [(.ref a1)])) rfl (by rw [hml]; rfl) rfl (hb hby d9_1) (by decide) (W := 0) (by show 2 * 0 + _ ≤ _; exact Nat.le_of_eq rfl) (by decide)
  refine Go.of (g' := (mkF m 4 #[.val (.ref a1)] [])) st114 ?_
  have A115 := (⟨X114, hx, hby⟩ : Ax _ _ _ _ _ _ _ _ _ _ _ _ _ _ _)
  exact g_retV (Q := Q9 Z a1 h0 n0) A115 d9_4 Bd.notSynchronized Bd.returns (by decide) (by decide) (by rw [e114]; exact ⟨rfl, N0, rfl⟩)
theorem d7_0 : decode prog_6_method_2_code 0 = .ok (.aload_n 0, 1) := by decide +kernel
theorem d7_1 : decode prog_6_method_2_code 1 = .ok (.getfield 26, 3) := by decide +kernel
theorem d7_4 : decode prog_6_method_2_code 4 = .ok (.dreturn, 1) := by decide +kernel
theorem ef116 (m : MethodId) (a1 : Addr) (x2 : UInt64) : entryFrame m #[(.ref a1)] 1 = mkF m 0 #[.val (.ref a1)] [] := by first | (simp [entryFrame, mkF, argsToLocals, Value.category]; done) | rfl
def Q7 (Z : State) (a1 : Addr) (x2 : UInt64) (h0 : Heap) (n0 : Nat) (v : Option Value) (h : Heap) (L : List Loc) : Prop := v = some (.double x2) ∧ Fr n0 L ∧ h = h0
set_option maxRecDepth 65536 in
set_option maxHeartbeats 40000000 in
theorem rm7 (l : Launch) (Z : State) (a0 : Array Value) (hw : ∀ d ∈ tables_1, d.before a0 Z = true) (ws : List Jvm.Cond) (a1 : Addr) (x2 : UInt64) (h0 : Heap) (n0 : Nat) (Z0 : n0 ≤ h0.size) (F117 : Fld Z h0 a1 "com/example/retinue/retinue/ErlangB" "load" "D" (.double x2)) :
    MetFree l (⟨"com/example/retinue/retinue/ErlangB", "load", "()D"⟩ : MethodName) (head1 (Jvm.Cond.code (⟨"com/example/retinue/retinue/ErlangB", "load", "()D"⟩ : MethodName) prog_6_method_2_code 1 (some .double) :: ws) ({ frames := 0, cells := 0, slots := 0, locals := 0 } : Room)) (fun a U => a = #[(.ref a1)] ∧ Z.Warmed39 U.vm ∧ U.heap = h0) (fun _ _ _ _ _ => True) (fun _ U o U' => ∃ v L, o = .returned v ∧ Q7 Z a1 x2 h0 n0 v U'.heap L ∧ FrameEnd U o U' L 0 0) := by
  refine MetFree.of_bodySF (plainFor_of_name pn_0) hisR ?_
  intro p e s m args below meth c s₁ Bd hml0 hP hK
  obtain ⟨rfl, hZ, hh⟩ := hP
  have hx := Bd.exec
  have hby := Bd.bytes
  have hml : c.maxLocals = 1 := hml0
  have hown : s.vm.findClass "com/example/retinue/retinue/ErlangB" = some m.cls := findClass_of_methodNamed Bd.named
  have hnm := (name_of_methodNamed Bd.named Bd.method).1
  have X0 : Stand p l e ({ frames := 0, cells := 0, slots := 0, locals := 0 } : Room) s m #[(.ref a1)] below meth c s₁ [] 0 0 := Stand.of_body Bd
  have e0 : s₁.heap = h0 := by rw [← hh, Bd.state]; rfl
  have N0 := Fr.nil n0
  have A0 := (⟨X0, hx, hby⟩ : Ax _ _ _ _ _ _ _ _ _ _ _ _ _ _ _)
  show Go p e below (fun U o => ∃ v L, o = .returned v ∧ Q7 Z a1 x2 h0 n0 v U.heap L ∧ FrameEnd s o U L 0 0) s₁ (entryFrame m #[(.ref a1)] 1)
  refine Go.cast (ef116 m a1 x2) ?_
  refine g_aloadN A0 d7_0 rfl rfl (pc' := 1) rfl ?_
  obtain ⟨T118, X118, e118, st118⟩ := getF X0 hx hZ hown (host := "") (Or.inl (hw _ (List.mem_of_getElem? (i := 28) rfl))) Via.refl e0 F117 (g := (mkF m 1 #[.val (.ref a1)] [(.ref a1)])) rfl rfl (hb hby d7_1)
  refine Go.of (g' := (mkF m 4 #[.val (.ref a1)] [(.double x2)])) st118 ?_
  have A119 := (⟨X118, hx, hby⟩ : Ax _ _ _ _ _ _ _ _ _ _ _ _ _ _ _)
  exact g_ret (Q := Q7 Z a1 x2 h0 n0) A119 d7_4 Bd.notSynchronized Bd.returns rfl (Or.inr (Or.inr (Or.inl ⟨rfl, rfl, _, rfl⟩))) (by decide) (by decide) (by rw [e118]; exact ⟨rfl, N0, rfl⟩)
theorem own_mod (x y : Int32) (n : Nat) (h0 : 0 < n) (hn : n < 2147483648) (hy : y.toInt = n) (hx : 0 ≤ x.toInt) : ∃ i : Nat, i < n ∧ x % y = Int32.ofNat i := by
  have h2 := (c_irem x y n hy).1 hx
  have b1 := Int.emod_nonneg x.toInt (show (n : Int) ≠ 0 by omega)
  have b2 := Int.emod_lt_of_pos x.toInt (show (0 : Int) < n by omega)
  refine ⟨(x % y).toInt.toNat, by omega, ?_⟩
  apply Int32.toInt_inj.mp
  rw [Int32.toInt_ofNat_of_lt (by omega)]
  omega
theorem own_m31 (p : Int32) : 0 ≤ (p &&& (2147483647 : Int32)).toInt := by
  have h := c_and p 2147483647 (by decide)
  exact h.1
theorem own_c1 : FP.i2d (Int32.ofNat 1) = (4607182418800017408 : UInt64) := by decide +kernel
theorem own_s1 (x : UInt64) : FP.ddiv (FP.dmul x (own_B x 0)) (FP.dadd (4607182418800017408 : UInt64) (FP.dmul x (own_B x 0))) = own_B x 1 := by
  rw [← own_c1]; rfl
theorem own_p1 {x : UInt64} (h : own_A x) : NoNaN64 (FP.dadd (4607182418800017408 : UInt64) (FP.dmul x (own_B x 0))) ∧ NoNaN64 (FP.ddiv (FP.dmul x (own_B x 0)) (FP.dadd (4607182418800017408 : UInt64) (FP.dmul x (own_B x 0)))) := by
  rw [← own_c1]; exact ⟨own_n2 (k := 1) h (own_BU h 0 (by decide)) (by decide) (by decide), own_n3 (k := 1) h (own_BU h 0 (by decide)) (by decide) (by decide)⟩
theorem own_c2 : FP.i2d (Int32.ofNat 2) = (4611686018427387904 : UInt64) := by decide +kernel
theorem own_s2 (x : UInt64) : FP.ddiv (FP.dmul x (own_B x 1)) (FP.dadd (4611686018427387904 : UInt64) (FP.dmul x (own_B x 1))) = own_B x 2 := by
  rw [← own_c2]; rfl
theorem own_p2 {x : UInt64} (h : own_A x) : NoNaN64 (FP.dadd (4611686018427387904 : UInt64) (FP.dmul x (own_B x 1))) ∧ NoNaN64 (FP.ddiv (FP.dmul x (own_B x 1)) (FP.dadd (4611686018427387904 : UInt64) (FP.dmul x (own_B x 1)))) := by
  rw [← own_c2]; exact ⟨own_n2 (k := 2) h (own_BU h 1 (by decide)) (by decide) (by decide), own_n3 (k := 2) h (own_BU h 1 (by decide)) (by decide) (by decide)⟩
theorem own_c3 : FP.i2d (Int32.ofNat 3) = (4613937818241073152 : UInt64) := by decide +kernel
theorem own_s3 (x : UInt64) : FP.ddiv (FP.dmul x (own_B x 2)) (FP.dadd (4613937818241073152 : UInt64) (FP.dmul x (own_B x 2))) = own_B x 3 := by
  rw [← own_c3]; rfl
theorem own_p3 {x : UInt64} (h : own_A x) : NoNaN64 (FP.dadd (4613937818241073152 : UInt64) (FP.dmul x (own_B x 2))) ∧ NoNaN64 (FP.ddiv (FP.dmul x (own_B x 2)) (FP.dadd (4613937818241073152 : UInt64) (FP.dmul x (own_B x 2)))) := by
  rw [← own_c3]; exact ⟨own_n2 (k := 3) h (own_BU h 2 (by decide)) (by decide) (by decide), own_n3 (k := 3) h (own_BU h 2 (by decide)) (by decide) (by decide)⟩
theorem own_c4 : FP.i2d (Int32.ofNat 4) = (4616189618054758400 : UInt64) := by decide +kernel
theorem own_s4 (x : UInt64) : FP.ddiv (FP.dmul x (own_B x 3)) (FP.dadd (4616189618054758400 : UInt64) (FP.dmul x (own_B x 3))) = own_B x 4 := by
  rw [← own_c4]; rfl
theorem own_p4 {x : UInt64} (h : own_A x) : NoNaN64 (FP.dadd (4616189618054758400 : UInt64) (FP.dmul x (own_B x 3))) ∧ NoNaN64 (FP.ddiv (FP.dmul x (own_B x 3)) (FP.dadd (4616189618054758400 : UInt64) (FP.dmul x (own_B x 3)))) := by
  rw [← own_c4]; exact ⟨own_n2 (k := 4) h (own_BU h 3 (by decide)) (by decide) (by decide), own_n3 (k := 4) h (own_BU h 3 (by decide)) (by decide) (by decide)⟩
theorem own_le4 {k : Nat} (h : k ≤ 4) : k = 0 ∨ k = 1 ∨ k = 2 ∨ k = 3 ∨ k = 4 := by omega
theorem own_a (p q : Int32) : own_A (FP.dmul (FP.i2d (p &&& (31 : Int32))) (FP.i2d (q &&& (31 : Int32)))) := by
  have hp := c_mask p 31 5 (by decide) (by decide)
  have hq := c_mask q 31 5 (by decide) (by decide)
  have i1 := FP.Core.i2d_int (p &&& (31 : Int32))
  have i2 := FP.Core.i2d_int (q &&& (31 : Int32))
  have p1 : 0 ≤ (p &&& (31 : Int32)).toInt ∧ (p &&& (31 : Int32)).toInt ≤ 31 := by rw [hp]; omega
  have q1 : 0 ≤ (q &&& (31 : Int32)).toInt ∧ (q &&& (31 : Int32)).toInt ≤ 31 := by rw [hq]; omega
  have m1 : 0 ≤ (p &&& (31 : Int32)).toInt * (q &&& (31 : Int32)).toInt := Int.mul_nonneg p1.1 q1.1
  have m2 : (p &&& (31 : Int32)).toInt * (q &&& (31 : Int32)).toInt ≤ 31 * 31 := Int.mul_le_mul p1.2 q1.2 q1.1 (by decide)
  have d := FP.Core.dmul_int i1 i2 (by omega)
  have z : own_z (FP.dmul (FP.i2d (p &&& (31 : Int32))) (FP.i2d (q &&& (31 : Int32)))) = ((p &&& (31 : Int32)).toInt * (q &&& (31 : Int32)).toInt) * (own_o : Int) := own_zi d
  have po := own_op
  refine ⟨fin64_core.mp (own_dfin d), ?_, ?_⟩
  · rw [z]; exact Int.mul_nonneg m1 (by omega)
  · rw [z]; exact Int.mul_le_mul_of_nonneg_right (by omega) (by omega)
theorem own_ge0' {b : UInt64} (h : own_U b) : oGe (FP.dcmp b (0 : UInt64)) := own_cge h.1 own_f0 (by rw [own_z0]; exact h.2.1)
theorem own_le1 {b : UInt64} (h : own_U b) : oLe (FP.dcmp b (4607182418800017408 : UInt64)) := own_cle h.1 own_one.1 (by rw [own_z1]; exact h.2.2)
theorem d1_0 : decode method_2_code 0 = .ok (.dconst 1, 1) := by decide +kernel
theorem d1_1 : decode method_2_code 1 = .ok (.dstore_n 3, 1) := by decide +kernel
theorem d1_2 : decode method_2_code 2 = .ok (.iload_n 2, 1) := by decide +kernel
theorem d1_3 : decode method_2_code 3 = .ok (.iconst 1, 1) := by decide +kernel
theorem d1_4 : decode method_2_code 4 = .ok (.if_icmp .lt 16, 3) := by decide +kernel
theorem d1_7 : decode method_2_code 7 = .ok (.dload_n 0, 1) := by decide +kernel
theorem d1_8 : decode method_2_code 8 = .ok (.dload_n 3, 1) := by decide +kernel
theorem d1_9 : decode method_2_code 9 = .ok (.dmul, 1) := by decide +kernel
theorem d1_10 : decode method_2_code 10 = .ok (.dstore 5, 2) := by decide +kernel
theorem d1_12 : decode method_2_code 12 = .ok (.dload 5, 2) := by decide +kernel
theorem d1_14 : decode method_2_code 14 = .ok (.dconst 1, 1) := by decide +kernel
theorem d1_15 : decode method_2_code 15 = .ok (.dload 5, 2) := by decide +kernel
theorem d1_17 : decode method_2_code 17 = .ok (.dadd, 1) := by decide +kernel
theorem d1_18 : decode method_2_code 18 = .ok (.ddiv, 1) := by decide +kernel
theorem d1_19 : decode method_2_code 19 = .ok (.dstore_n 3, 1) := by decide +kernel
theorem d1_20 : decode method_2_code 20 = .ok (.iload_n 2, 1) := by decide +kernel
theorem d1_21 : decode method_2_code 21 = .ok (.iconst 2, 1) := by decide +kernel
theorem d1_22 : decode method_2_code 22 = .ok (.if_icmp .lt 18, 3) := by decide +kernel
theorem d1_25 : decode method_2_code 25 = .ok (.dload_n 0, 1) := by decide +kernel
theorem d1_26 : decode method_2_code 26 = .ok (.dload_n 3, 1) := by decide +kernel
theorem d1_27 : decode method_2_code 27 = .ok (.dmul, 1) := by decide +kernel
theorem d1_28 : decode method_2_code 28 = .ok (.dstore 5, 2) := by decide +kernel
theorem d1_30 : decode method_2_code 30 = .ok (.dload 5, 2) := by decide +kernel
theorem d1_32 : decode method_2_code 32 = .ok (.ldc2_w 7, 3) := by decide +kernel
theorem d1_35 : decode method_2_code 35 = .ok (.dload 5, 2) := by decide +kernel
theorem d1_37 : decode method_2_code 37 = .ok (.dadd, 1) := by decide +kernel
theorem d1_38 : decode method_2_code 38 = .ok (.ddiv, 1) := by decide +kernel
theorem d1_39 : decode method_2_code 39 = .ok (.dstore_n 3, 1) := by decide +kernel
theorem d1_40 : decode method_2_code 40 = .ok (.iload_n 2, 1) := by decide +kernel
theorem d1_41 : decode method_2_code 41 = .ok (.iconst 3, 1) := by decide +kernel
theorem d1_42 : decode method_2_code 42 = .ok (.if_icmp .lt 18, 3) := by decide +kernel
theorem d1_45 : decode method_2_code 45 = .ok (.dload_n 0, 1) := by decide +kernel
theorem d1_46 : decode method_2_code 46 = .ok (.dload_n 3, 1) := by decide +kernel
theorem d1_47 : decode method_2_code 47 = .ok (.dmul, 1) := by decide +kernel
theorem d1_48 : decode method_2_code 48 = .ok (.dstore 5, 2) := by decide +kernel
theorem d1_50 : decode method_2_code 50 = .ok (.dload 5, 2) := by decide +kernel
theorem d1_52 : decode method_2_code 52 = .ok (.ldc2_w 9, 3) := by decide +kernel
theorem d1_55 : decode method_2_code 55 = .ok (.dload 5, 2) := by decide +kernel
theorem d1_57 : decode method_2_code 57 = .ok (.dadd, 1) := by decide +kernel
theorem d1_58 : decode method_2_code 58 = .ok (.ddiv, 1) := by decide +kernel
theorem d1_59 : decode method_2_code 59 = .ok (.dstore_n 3, 1) := by decide +kernel
theorem d1_60 : decode method_2_code 60 = .ok (.iload_n 2, 1) := by decide +kernel
theorem d1_61 : decode method_2_code 61 = .ok (.iconst 4, 1) := by decide +kernel
theorem d1_62 : decode method_2_code 62 = .ok (.if_icmp .lt 18, 3) := by decide +kernel
theorem d1_65 : decode method_2_code 65 = .ok (.dload_n 0, 1) := by decide +kernel
theorem d1_66 : decode method_2_code 66 = .ok (.dload_n 3, 1) := by decide +kernel
theorem d1_67 : decode method_2_code 67 = .ok (.dmul, 1) := by decide +kernel
theorem d1_68 : decode method_2_code 68 = .ok (.dstore 5, 2) := by decide +kernel
theorem d1_70 : decode method_2_code 70 = .ok (.dload 5, 2) := by decide +kernel
theorem d1_72 : decode method_2_code 72 = .ok (.ldc2_w 11, 3) := by decide +kernel
theorem d1_75 : decode method_2_code 75 = .ok (.dload 5, 2) := by decide +kernel
theorem d1_77 : decode method_2_code 77 = .ok (.dadd, 1) := by decide +kernel
theorem d1_78 : decode method_2_code 78 = .ok (.ddiv, 1) := by decide +kernel
theorem d1_79 : decode method_2_code 79 = .ok (.dstore_n 3, 1) := by decide +kernel
theorem d1_80 : decode method_2_code 80 = .ok (.dload_n 3, 1) := by decide +kernel
theorem d1_81 : decode method_2_code 81 = .ok (.dreturn, 1) := by decide +kernel
theorem pn_2 : plainName "com/example/retinue/retinue/RetainerModelPoolPinLaw" = true := by first | (simp [plainName, overriddenIn]; done) | decide +kernel
theorem ef120 (m : MethodId) (x : UInt64) (k : Nat) : entryFrame m #[(.double x), (.int (Int32.ofNat k))] 7 = mkF m 0 #[.val (.double x), .second, .val (.int (Int32.ofNat k)), .unset, .unset, .unset, .unset] [] := by first | (simp [entryFrame, mkF, argsToLocals, Value.category]; done) | rfl
def Q1 (Z : State) (x : UInt64) (k : Nat) (h0 : Heap) (n0 : Nat) (v : Option Value) (h : Heap) (L : List Loc) : Prop := v = some (.double (own_B x k)) ∧ Fr n0 L ∧ h = h0
set_option maxRecDepth 65536 in
set_option maxHeartbeats 40000000 in
theorem rm1 (l : Launch) (Z : State) (a0 : Array Value) (hw : ∀ d ∈ tables_1, d.before a0 Z = true) (ws : List Jvm.Cond) (x : UInt64) (k : Nat) (h0 : Heap) (n0 : Nat) (Z0 : n0 ≤ h0.size) (hA : own_A x) (hk : k ≤ 4) :
    MetFree l (⟨"com/example/retinue/retinue/RetainerModelPoolPinLaw", "erlang", "(DI)D"⟩ : MethodName) (head1 (Jvm.Cond.code (⟨"com/example/retinue/retinue/RetainerModelPoolPinLaw", "erlang", "(DI)D"⟩ : MethodName) method_2_code 7 (some .double) :: ws) ({ frames := 0, cells := 0, slots := 0, locals := 0 } : Room)) (fun a U => a = #[(.double x), (.int (Int32.ofNat k))] ∧ Z.Warmed39 U.vm ∧ U.heap = h0) (fun _ _ _ _ _ => True) (fun _ U o U' => ∃ v L, o = .returned v ∧ Q1 Z x k h0 n0 v U'.heap L ∧ FrameEnd U o U' L 0 0) := by
  refine MetFree.of_bodySF (plainFor_of_name pn_2) hisR ?_
  intro p e s m args below meth c s₁ Bd hml0 hP hK
  obtain ⟨rfl, hZ, hh⟩ := hP
  have hx := Bd.exec
  have hby := Bd.bytes
  have hml : c.maxLocals = 7 := hml0
  have hown : s.vm.findClass "com/example/retinue/retinue/RetainerModelPoolPinLaw" = some m.cls := findClass_of_methodNamed Bd.named
  have hnm := (name_of_methodNamed Bd.named Bd.method).1
  have X0 : Stand p l e ({ frames := 0, cells := 0, slots := 0, locals := 0 } : Room) s m #[(.double x), (.int (Int32.ofNat k))] below meth c s₁ [] 0 0 := Stand.of_body Bd
  have e0 : s₁.heap = h0 := by rw [← hh, Bd.state]; rfl
  have N0 := Fr.nil n0
  have A0 := (⟨X0, hx, hby⟩ : Ax _ _ _ _ _ _ _ _ _ _ _ _ _ _ _)
  show Go p e below (fun U o => ∃ v L, o = .returned v ∧ Q1 Z x k h0 n0 v U.heap L ∧ FrameEnd s o U L 0 0) s₁ (entryFrame m #[(.double x), (.int (Int32.ofNat k))] 7)
  refine Go.cast (ef120 m x k) ?_
  have hk4 := own_le4 hk
  rcases hk4 with rfl | rfl | rfl | rfl | rfl
  · skip
    refine g_dconst1 A0 d1_0 (pc' := 1) rfl ?_
    rw [show (4607182418800017408 : UInt64) = own_B x 0 from rfl]
    refine g_dstoreN A0 d1_1 (ls' := #[.val (.double x), .second, .val (.int (0 : Int32)), .val (.double (own_B x 0)), .second, .unset, .unset]) rfl (pc' := 2) rfl ?_
    refine g_iloadN A0 d1_2 rfl (pc' := 3) rfl ?_
    refine g_iconst A0 d1_3 (v := (1 : Int32)) rfl (pc' := 4) rfl ?_
    refine g_icY A0 d1_4 (c2_lt_t (by decide)) (pc' := 20) rfl ?_
    refine g_iloadN A0 d1_20 rfl (pc' := 21) rfl ?_
    refine g_iconst A0 d1_21 (v := (2 : Int32)) rfl (pc' := 22) rfl ?_
    refine g_icY A0 d1_22 (c2_lt_t (by decide)) (pc' := 40) rfl ?_
    refine g_iloadN A0 d1_40 rfl (pc' := 41) rfl ?_
    refine g_iconst A0 d1_41 (v := (3 : Int32)) rfl (pc' := 42) rfl ?_
    refine g_icY A0 d1_42 (c2_lt_t (by decide)) (pc' := 60) rfl ?_
    refine g_iloadN A0 d1_60 rfl (pc' := 61) rfl ?_
    refine g_iconst A0 d1_61 (v := (4 : Int32)) rfl (pc' := 62) rfl ?_
    refine g_icY A0 d1_62 (c2_lt_t (by decide)) (pc' := 80) rfl ?_
    refine g_dloadN A0 d1_80 rfl (pc' := 81) rfl ?_
    exact g_ret (Q := Q1 Z x 0 h0 n0) A0 d1_81 Bd.notSynchronized Bd.returns rfl (Or.inr (Or.inr (Or.inl ⟨rfl, rfl, _, rfl⟩))) (by decide) (by decide) (by rw [e0]; exact ⟨rfl, N0, rfl⟩)
  · skip
    refine g_dconst1 A0 d1_0 (pc' := 1) rfl ?_
    rw [show (4607182418800017408 : UInt64) = own_B x 0 from rfl]
    refine g_dstoreN A0 d1_1 (ls' := #[.val (.double x), .second, .val (.int (1 : Int32)), .val (.double (own_B x 0)), .second, .unset, .unset]) rfl (pc' := 2) rfl ?_
    refine g_iloadN A0 d1_2 rfl (pc' := 3) rfl ?_
    refine g_iconst A0 d1_3 (v := (1 : Int32)) rfl (pc' := 4) rfl ?_
    refine g_icN A0 d1_4 (c2_lt_f (by decide)) (pc' := 7) rfl ?_
    refine g_dloadN A0 d1_7 rfl (pc' := 8) rfl ?_
    refine g_dloadN A0 d1_8 rfl (pc' := 9) rfl ?_
    refine g_dmul A0 d1_9 (own_n1 hA (own_BU hA 0 (by decide))) (pc' := 10) rfl ?_
    refine g_dstore A0 d1_10 (ls' := #[.val (.double x), .second, .val (.int (1 : Int32)), .val (.double (own_B x 0)), .second, .val (.double (FP.dmul x (own_B x 0))), .second]) rfl (pc' := 12) rfl ?_
    refine g_dload A0 d1_12 rfl (pc' := 14) rfl ?_
    refine g_dconst1 A0 d1_14 (pc' := 15) rfl ?_
    refine g_dload A0 d1_15 rfl (pc' := 17) rfl ?_
    refine g_dadd A0 d1_17 (own_p1 hA).1 (pc' := 18) rfl ?_
    refine g_ddiv A0 d1_18 (own_p1 hA).2 (pc' := 19) rfl ?_
    rw [show (FP.ddiv (FP.dmul x (own_B x 0)) (FP.dadd (4607182418800017408 : UInt64) (FP.dmul x (own_B x 0)))) = own_B x 1 from own_s1 x]
    refine g_dstoreN A0 d1_19 (ls' := #[.val (.double x), .second, .val (.int (1 : Int32)), .val (.double (own_B x 1)), .second, .val (.double (FP.dmul x (own_B x 0))), .second]) rfl (pc' := 20) rfl ?_
    refine g_iloadN A0 d1_20 rfl (pc' := 21) rfl ?_
    refine g_iconst A0 d1_21 (v := (2 : Int32)) rfl (pc' := 22) rfl ?_
    refine g_icY A0 d1_22 (c2_lt_t (by decide)) (pc' := 40) rfl ?_
    refine g_iloadN A0 d1_40 rfl (pc' := 41) rfl ?_
    refine g_iconst A0 d1_41 (v := (3 : Int32)) rfl (pc' := 42) rfl ?_
    refine g_icY A0 d1_42 (c2_lt_t (by decide)) (pc' := 60) rfl ?_
    refine g_iloadN A0 d1_60 rfl (pc' := 61) rfl ?_
    refine g_iconst A0 d1_61 (v := (4 : Int32)) rfl (pc' := 62) rfl ?_
    refine g_icY A0 d1_62 (c2_lt_t (by decide)) (pc' := 80) rfl ?_
    refine g_dloadN A0 d1_80 rfl (pc' := 81) rfl ?_
    exact g_ret (Q := Q1 Z x 1 h0 n0) A0 d1_81 Bd.notSynchronized Bd.returns rfl (Or.inr (Or.inr (Or.inl ⟨rfl, rfl, _, rfl⟩))) (by decide) (by decide) (by rw [e0]; exact ⟨rfl, N0, rfl⟩)
  · skip
    refine g_dconst1 A0 d1_0 (pc' := 1) rfl ?_
    rw [show (4607182418800017408 : UInt64) = own_B x 0 from rfl]
    refine g_dstoreN A0 d1_1 (ls' := #[.val (.double x), .second, .val (.int (2 : Int32)), .val (.double (own_B x 0)), .second, .unset, .unset]) rfl (pc' := 2) rfl ?_
    refine g_iloadN A0 d1_2 rfl (pc' := 3) rfl ?_
    refine g_iconst A0 d1_3 (v := (1 : Int32)) rfl (pc' := 4) rfl ?_
    refine g_icN A0 d1_4 (c2_lt_f (by decide)) (pc' := 7) rfl ?_
    refine g_dloadN A0 d1_7 rfl (pc' := 8) rfl ?_
    refine g_dloadN A0 d1_8 rfl (pc' := 9) rfl ?_
    refine g_dmul A0 d1_9 (own_n1 hA (own_BU hA 0 (by decide))) (pc' := 10) rfl ?_
    refine g_dstore A0 d1_10 (ls' := #[.val (.double x), .second, .val (.int (2 : Int32)), .val (.double (own_B x 0)), .second, .val (.double (FP.dmul x (own_B x 0))), .second]) rfl (pc' := 12) rfl ?_
    refine g_dload A0 d1_12 rfl (pc' := 14) rfl ?_
    refine g_dconst1 A0 d1_14 (pc' := 15) rfl ?_
    refine g_dload A0 d1_15 rfl (pc' := 17) rfl ?_
    refine g_dadd A0 d1_17 (own_p1 hA).1 (pc' := 18) rfl ?_
    refine g_ddiv A0 d1_18 (own_p1 hA).2 (pc' := 19) rfl ?_
    rw [show (FP.ddiv (FP.dmul x (own_B x 0)) (FP.dadd (4607182418800017408 : UInt64) (FP.dmul x (own_B x 0)))) = own_B x 1 from own_s1 x]
    refine g_dstoreN A0 d1_19 (ls' := #[.val (.double x), .second, .val (.int (2 : Int32)), .val (.double (own_B x 1)), .second, .val (.double (FP.dmul x (own_B x 0))), .second]) rfl (pc' := 20) rfl ?_
    refine g_iloadN A0 d1_20 rfl (pc' := 21) rfl ?_
    refine g_iconst A0 d1_21 (v := (2 : Int32)) rfl (pc' := 22) rfl ?_
    refine g_icN A0 d1_22 (c2_lt_f (by decide)) (pc' := 25) rfl ?_
    refine g_dloadN A0 d1_25 rfl (pc' := 26) rfl ?_
    refine g_dloadN A0 d1_26 rfl (pc' := 27) rfl ?_
    refine g_dmul A0 d1_27 (own_n1 hA (own_BU hA 1 (by decide))) (pc' := 28) rfl ?_
    refine g_dstore A0 d1_28 (ls' := #[.val (.double x), .second, .val (.int (2 : Int32)), .val (.double (own_B x 1)), .second, .val (.double (FP.dmul x (own_B x 1))), .second]) rfl (pc' := 30) rfl ?_
    refine g_dload A0 d1_30 rfl (pc' := 32) rfl ?_
    refine g_ldcD A0 hZ hown (hw _ (List.mem_of_getElem? (i := 96) rfl)) d1_32 (pc' := 35) rfl ?_
    refine g_dload A0 d1_35 rfl (pc' := 37) rfl ?_
    refine g_dadd A0 d1_37 (own_p2 hA).1 (pc' := 38) rfl ?_
    refine g_ddiv A0 d1_38 (own_p2 hA).2 (pc' := 39) rfl ?_
    rw [show (FP.ddiv (FP.dmul x (own_B x 1)) (FP.dadd (4611686018427387904 : UInt64) (FP.dmul x (own_B x 1)))) = own_B x 2 from own_s2 x]
    refine g_dstoreN A0 d1_39 (ls' := #[.val (.double x), .second, .val (.int (2 : Int32)), .val (.double (own_B x 2)), .second, .val (.double (FP.dmul x (own_B x 1))), .second]) rfl (pc' := 40) rfl ?_
    refine g_iloadN A0 d1_40 rfl (pc' := 41) rfl ?_
    refine g_iconst A0 d1_41 (v := (3 : Int32)) rfl (pc' := 42) rfl ?_
    refine g_icY A0 d1_42 (c2_lt_t (by decide)) (pc' := 60) rfl ?_
    refine g_iloadN A0 d1_60 rfl (pc' := 61) rfl ?_
    refine g_iconst A0 d1_61 (v := (4 : Int32)) rfl (pc' := 62) rfl ?_
    refine g_icY A0 d1_62 (c2_lt_t (by decide)) (pc' := 80) rfl ?_
    refine g_dloadN A0 d1_80 rfl (pc' := 81) rfl ?_
    exact g_ret (Q := Q1 Z x 2 h0 n0) A0 d1_81 Bd.notSynchronized Bd.returns rfl (Or.inr (Or.inr (Or.inl ⟨rfl, rfl, _, rfl⟩))) (by decide) (by decide) (by rw [e0]; exact ⟨rfl, N0, rfl⟩)
  · skip
    refine g_dconst1 A0 d1_0 (pc' := 1) rfl ?_
    rw [show (4607182418800017408 : UInt64) = own_B x 0 from rfl]
    refine g_dstoreN A0 d1_1 (ls' := #[.val (.double x), .second, .val (.int (3 : Int32)), .val (.double (own_B x 0)), .second, .unset, .unset]) rfl (pc' := 2) rfl ?_
    refine g_iloadN A0 d1_2 rfl (pc' := 3) rfl ?_
    refine g_iconst A0 d1_3 (v := (1 : Int32)) rfl (pc' := 4) rfl ?_
    refine g_icN A0 d1_4 (c2_lt_f (by decide)) (pc' := 7) rfl ?_
    refine g_dloadN A0 d1_7 rfl (pc' := 8) rfl ?_
    refine g_dloadN A0 d1_8 rfl (pc' := 9) rfl ?_
    refine g_dmul A0 d1_9 (own_n1 hA (own_BU hA 0 (by decide))) (pc' := 10) rfl ?_
    refine g_dstore A0 d1_10 (ls' := #[.val (.double x), .second, .val (.int (3 : Int32)), .val (.double (own_B x 0)), .second, .val (.double (FP.dmul x (own_B x 0))), .second]) rfl (pc' := 12) rfl ?_
    refine g_dload A0 d1_12 rfl (pc' := 14) rfl ?_
    refine g_dconst1 A0 d1_14 (pc' := 15) rfl ?_
    refine g_dload A0 d1_15 rfl (pc' := 17) rfl ?_
    refine g_dadd A0 d1_17 (own_p1 hA).1 (pc' := 18) rfl ?_
    refine g_ddiv A0 d1_18 (own_p1 hA).2 (pc' := 19) rfl ?_
    rw [show (FP.ddiv (FP.dmul x (own_B x 0)) (FP.dadd (4607182418800017408 : UInt64) (FP.dmul x (own_B x 0)))) = own_B x 1 from own_s1 x]
    refine g_dstoreN A0 d1_19 (ls' := #[.val (.double x), .second, .val (.int (3 : Int32)), .val (.double (own_B x 1)), .second, .val (.double (FP.dmul x (own_B x 0))), .second]) rfl (pc' := 20) rfl ?_
    refine g_iloadN A0 d1_20 rfl (pc' := 21) rfl ?_
    refine g_iconst A0 d1_21 (v := (2 : Int32)) rfl (pc' := 22) rfl ?_
    refine g_icN A0 d1_22 (c2_lt_f (by decide)) (pc' := 25) rfl ?_
    refine g_dloadN A0 d1_25 rfl (pc' := 26) rfl ?_
    refine g_dloadN A0 d1_26 rfl (pc' := 27) rfl ?_
    refine g_dmul A0 d1_27 (own_n1 hA (own_BU hA 1 (by decide))) (pc' := 28) rfl ?_
    refine g_dstore A0 d1_28 (ls' := #[.val (.double x), .second, .val (.int (3 : Int32)), .val (.double (own_B x 1)), .second, .val (.double (FP.dmul x (own_B x 1))), .second]) rfl (pc' := 30) rfl ?_
    refine g_dload A0 d1_30 rfl (pc' := 32) rfl ?_
    refine g_ldcD A0 hZ hown (hw _ (List.mem_of_getElem? (i := 96) rfl)) d1_32 (pc' := 35) rfl ?_
    refine g_dload A0 d1_35 rfl (pc' := 37) rfl ?_
    refine g_dadd A0 d1_37 (own_p2 hA).1 (pc' := 38) rfl ?_
    refine g_ddiv A0 d1_38 (own_p2 hA).2 (pc' := 39) rfl ?_
    rw [show (FP.ddiv (FP.dmul x (own_B x 1)) (FP.dadd (4611686018427387904 : UInt64) (FP.dmul x (own_B x 1)))) = own_B x 2 from own_s2 x]
    refine g_dstoreN A0 d1_39 (ls' := #[.val (.double x), .second, .val (.int (3 : Int32)), .val (.double (own_B x 2)), .second, .val (.double (FP.dmul x (own_B x 1))), .second]) rfl (pc' := 40) rfl ?_
    refine g_iloadN A0 d1_40 rfl (pc' := 41) rfl ?_
    refine g_iconst A0 d1_41 (v := (3 : Int32)) rfl (pc' := 42) rfl ?_
    refine g_icN A0 d1_42 (c2_lt_f (by decide)) (pc' := 45) rfl ?_
    refine g_dloadN A0 d1_45 rfl (pc' := 46) rfl ?_
    refine g_dloadN A0 d1_46 rfl (pc' := 47) rfl ?_
    refine g_dmul A0 d1_47 (own_n1 hA (own_BU hA 2 (by decide))) (pc' := 48) rfl ?_
    refine g_dstore A0 d1_48 (ls' := #[.val (.double x), .second, .val (.int (3 : Int32)), .val (.double (own_B x 2)), .second, .val (.double (FP.dmul x (own_B x 2))), .second]) rfl (pc' := 50) rfl ?_
    refine g_dload A0 d1_50 rfl (pc' := 52) rfl ?_
    refine g_ldcD A0 hZ hown (hw _ (List.mem_of_getElem? (i := 97) rfl)) d1_52 (pc' := 55) rfl ?_
    refine g_dload A0 d1_55 rfl (pc' := 57) rfl ?_
    refine g_dadd A0 d1_57 (own_p3 hA).1 (pc' := 58) rfl ?_
    refine g_ddiv A0 d1_58 (own_p3 hA).2 (pc' := 59) rfl ?_
    rw [show (FP.ddiv (FP.dmul x (own_B x 2)) (FP.dadd (4613937818241073152 : UInt64) (FP.dmul x (own_B x 2)))) = own_B x 3 from own_s3 x]
    refine g_dstoreN A0 d1_59 (ls' := #[.val (.double x), .second, .val (.int (3 : Int32)), .val (.double (own_B x 3)), .second, .val (.double (FP.dmul x (own_B x 2))), .second]) rfl (pc' := 60) rfl ?_
    refine g_iloadN A0 d1_60 rfl (pc' := 61) rfl ?_
    refine g_iconst A0 d1_61 (v := (4 : Int32)) rfl (pc' := 62) rfl ?_
    refine g_icY A0 d1_62 (c2_lt_t (by decide)) (pc' := 80) rfl ?_
    refine g_dloadN A0 d1_80 rfl (pc' := 81) rfl ?_
    exact g_ret (Q := Q1 Z x 3 h0 n0) A0 d1_81 Bd.notSynchronized Bd.returns rfl (Or.inr (Or.inr (Or.inl ⟨rfl, rfl, _, rfl⟩))) (by decide) (by decide) (by rw [e0]; exact ⟨rfl, N0, rfl⟩)
  · skip
    refine g_dconst1 A0 d1_0 (pc' := 1) rfl ?_
    rw [show (4607182418800017408 : UInt64) = own_B x 0 from rfl]
    refine g_dstoreN A0 d1_1 (ls' := #[.val (.double x), .second, .val (.int (4 : Int32)), .val (.double (own_B x 0)), .second, .unset, .unset]) rfl (pc' := 2) rfl ?_
    refine g_iloadN A0 d1_2 rfl (pc' := 3) rfl ?_
    refine g_iconst A0 d1_3 (v := (1 : Int32)) rfl (pc' := 4) rfl ?_
    refine g_icN A0 d1_4 (c2_lt_f (by decide)) (pc' := 7) rfl ?_
    refine g_dloadN A0 d1_7 rfl (pc' := 8) rfl ?_
    refine g_dloadN A0 d1_8 rfl (pc' := 9) rfl ?_
    refine g_dmul A0 d1_9 (own_n1 hA (own_BU hA 0 (by decide))) (pc' := 10) rfl ?_
    refine g_dstore A0 d1_10 (ls' := #[.val (.double x), .second, .val (.int (4 : Int32)), .val (.double (own_B x 0)), .second, .val (.double (FP.dmul x (own_B x 0))), .second]) rfl (pc' := 12) rfl ?_
    refine g_dload A0 d1_12 rfl (pc' := 14) rfl ?_
    refine g_dconst1 A0 d1_14 (pc' := 15) rfl ?_
    refine g_dload A0 d1_15 rfl (pc' := 17) rfl ?_
    refine g_dadd A0 d1_17 (own_p1 hA).1 (pc' := 18) rfl ?_
    refine g_ddiv A0 d1_18 (own_p1 hA).2 (pc' := 19) rfl ?_
    rw [show (FP.ddiv (FP.dmul x (own_B x 0)) (FP.dadd (4607182418800017408 : UInt64) (FP.dmul x (own_B x 0)))) = own_B x 1 from own_s1 x]
    refine g_dstoreN A0 d1_19 (ls' := #[.val (.double x), .second, .val (.int (4 : Int32)), .val (.double (own_B x 1)), .second, .val (.double (FP.dmul x (own_B x 0))), .second]) rfl (pc' := 20) rfl ?_
    refine g_iloadN A0 d1_20 rfl (pc' := 21) rfl ?_
    refine g_iconst A0 d1_21 (v := (2 : Int32)) rfl (pc' := 22) rfl ?_
    refine g_icN A0 d1_22 (c2_lt_f (by decide)) (pc' := 25) rfl ?_
    refine g_dloadN A0 d1_25 rfl (pc' := 26) rfl ?_
    refine g_dloadN A0 d1_26 rfl (pc' := 27) rfl ?_
    refine g_dmul A0 d1_27 (own_n1 hA (own_BU hA 1 (by decide))) (pc' := 28) rfl ?_
    refine g_dstore A0 d1_28 (ls' := #[.val (.double x), .second, .val (.int (4 : Int32)), .val (.double (own_B x 1)), .second, .val (.double (FP.dmul x (own_B x 1))), .second]) rfl (pc' := 30) rfl ?_
    refine g_dload A0 d1_30 rfl (pc' := 32) rfl ?_
    refine g_ldcD A0 hZ hown (hw _ (List.mem_of_getElem? (i := 96) rfl)) d1_32 (pc' := 35) rfl ?_
    refine g_dload A0 d1_35 rfl (pc' := 37) rfl ?_
    refine g_dadd A0 d1_37 (own_p2 hA).1 (pc' := 38) rfl ?_
    refine g_ddiv A0 d1_38 (own_p2 hA).2 (pc' := 39) rfl ?_
    rw [show (FP.ddiv (FP.dmul x (own_B x 1)) (FP.dadd (4611686018427387904 : UInt64) (FP.dmul x (own_B x 1)))) = own_B x 2 from own_s2 x]
    refine g_dstoreN A0 d1_39 (ls' := #[.val (.double x), .second, .val (.int (4 : Int32)), .val (.double (own_B x 2)), .second, .val (.double (FP.dmul x (own_B x 1))), .second]) rfl (pc' := 40) rfl ?_
    refine g_iloadN A0 d1_40 rfl (pc' := 41) rfl ?_
    refine g_iconst A0 d1_41 (v := (3 : Int32)) rfl (pc' := 42) rfl ?_
    refine g_icN A0 d1_42 (c2_lt_f (by decide)) (pc' := 45) rfl ?_
    refine g_dloadN A0 d1_45 rfl (pc' := 46) rfl ?_
    refine g_dloadN A0 d1_46 rfl (pc' := 47) rfl ?_
    refine g_dmul A0 d1_47 (own_n1 hA (own_BU hA 2 (by decide))) (pc' := 48) rfl ?_
    refine g_dstore A0 d1_48 (ls' := #[.val (.double x), .second, .val (.int (4 : Int32)), .val (.double (own_B x 2)), .second, .val (.double (FP.dmul x (own_B x 2))), .second]) rfl (pc' := 50) rfl ?_
    refine g_dload A0 d1_50 rfl (pc' := 52) rfl ?_
    refine g_ldcD A0 hZ hown (hw _ (List.mem_of_getElem? (i := 97) rfl)) d1_52 (pc' := 55) rfl ?_
    refine g_dload A0 d1_55 rfl (pc' := 57) rfl ?_
    refine g_dadd A0 d1_57 (own_p3 hA).1 (pc' := 58) rfl ?_
    refine g_ddiv A0 d1_58 (own_p3 hA).2 (pc' := 59) rfl ?_
    rw [show (FP.ddiv (FP.dmul x (own_B x 2)) (FP.dadd (4613937818241073152 : UInt64) (FP.dmul x (own_B x 2)))) = own_B x 3 from own_s3 x]
    refine g_dstoreN A0 d1_59 (ls' := #[.val (.double x), .second, .val (.int (4 : Int32)), .val (.double (own_B x 3)), .second, .val (.double (FP.dmul x (own_B x 2))), .second]) rfl (pc' := 60) rfl ?_
    refine g_iloadN A0 d1_60 rfl (pc' := 61) rfl ?_
    refine g_iconst A0 d1_61 (v := (4 : Int32)) rfl (pc' := 62) rfl ?_
    refine g_icN A0 d1_62 (c2_lt_f (by decide)) (pc' := 65) rfl ?_
    refine g_dloadN A0 d1_65 rfl (pc' := 66) rfl ?_
    refine g_dloadN A0 d1_66 rfl (pc' := 67) rfl ?_
    refine g_dmul A0 d1_67 (own_n1 hA (own_BU hA 3 (by decide))) (pc' := 68) rfl ?_
    refine g_dstore A0 d1_68 (ls' := #[.val (.double x), .second, .val (.int (4 : Int32)), .val (.double (own_B x 3)), .second, .val (.double (FP.dmul x (own_B x 3))), .second]) rfl (pc' := 70) rfl ?_
    refine g_dload A0 d1_70 rfl (pc' := 72) rfl ?_
    refine g_ldcD A0 hZ hown (hw _ (List.mem_of_getElem? (i := 98) rfl)) d1_72 (pc' := 75) rfl ?_
    refine g_dload A0 d1_75 rfl (pc' := 77) rfl ?_
    refine g_dadd A0 d1_77 (own_p4 hA).1 (pc' := 78) rfl ?_
    refine g_ddiv A0 d1_78 (own_p4 hA).2 (pc' := 79) rfl ?_
    rw [show (FP.ddiv (FP.dmul x (own_B x 3)) (FP.dadd (4616189618054758400 : UInt64) (FP.dmul x (own_B x 3)))) = own_B x 4 from own_s4 x]
    refine g_dstoreN A0 d1_79 (ls' := #[.val (.double x), .second, .val (.int (4 : Int32)), .val (.double (own_B x 4)), .second, .val (.double (FP.dmul x (own_B x 3))), .second]) rfl (pc' := 80) rfl ?_
    refine g_dloadN A0 d1_80 rfl (pc' := 81) rfl ?_
    exact g_ret (Q := Q1 Z x 4 h0 n0) A0 d1_81 Bd.notSynchronized Bd.returns rfl (Or.inr (Or.inr (Or.inl ⟨rfl, rfl, _, rfl⟩))) (by decide) (by decide) (by rw [e0]; exact ⟨rfl, N0, rfl⟩)
theorem d2_0 : decode prog_22_method_1_code 0 = .ok (.aload_n 0, 1) := by decide +kernel
theorem d2_1 : decode prog_22_method_1_code 1 = .ok (.invokespecial 1, 3) := by decide +kernel
theorem d2_4 : decode prog_22_method_1_code 4 = .ok (.aload_n 0, 1) := by decide +kernel
theorem d2_5 : decode prog_22_method_1_code 5 = .ok (.dload_n 3, 1) := by decide +kernel
theorem d2_6 : decode prog_22_method_1_code 6 = .ok (.putfield 7, 3) := by decide +kernel
theorem d2_9 : decode prog_22_method_1_code 9 = .ok (.aload_n 0, 1) := by decide +kernel
theorem d2_10 : decode prog_22_method_1_code 10 = .ok (.dload 5, 2) := by decide +kernel
theorem d2_12 : decode prog_22_method_1_code 12 = .ok (.putfield 13, 3) := by decide +kernel
theorem d2_15 : decode prog_22_method_1_code 15 = .ok (.aload_n 0, 1) := by decide +kernel
theorem d2_16 : decode prog_22_method_1_code 16 = .ok (.new 16, 3) := by decide +kernel
theorem d2_19 : decode prog_22_method_1_code 19 = .ok (.dup, 1) := by decide +kernel
theorem d2_20 : decode prog_22_method_1_code 20 = .ok (.dload_n 1, 1) := by decide +kernel
theorem d2_21 : decode prog_22_method_1_code 21 = .ok (.dload_n 3, 1) := by decide +kernel
theorem d2_22 : decode prog_22_method_1_code 22 = .ok (.dmul, 1) := by decide +kernel
theorem d2_23 : decode prog_22_method_1_code 23 = .ok (.invokespecial 18, 3) := by decide +kernel
theorem d2_26 : decode prog_22_method_1_code 26 = .ok (.putfield 21, 3) := by decide +kernel
theorem d2_29 : decode prog_22_method_1_code 29 = .ok (.return_, 1) := by decide +kernel
theorem pn_3 : plainName "com/example/retinue/retinue/RetainerModel" = true := by first | (simp [plainName, overriddenIn]; done) | decide +kernel
theorem ef122 (m : MethodId) (a1 : Addr) (x1 : UInt64) (x3 : UInt64) (x5 : UInt64) (u0 : Value) (u1 : Value) (u2 : Value) : entryFrame m #[(.ref a1), (.double x1), (.double x3), (.double x5)] 7 = mkF m 0 #[.val (.ref a1), .val (.double x1), .second, .val (.double x3), .second, .val (.double x5), .second] [] := by first | (simp [entryFrame, mkF, argsToLocals, Value.category]; done) | rfl
def Q2 (Z : State) (a1 : Addr) (x1 : UInt64) (x3 : UInt64) (x5 : UInt64) (u0 : Value) (u1 : Value) (u2 : Value) (h0 : Heap) (n0 : Nat) (v : Option Value) (h : Heap) (L : List Loc) : Prop := ∃ ee : Addr, v = none ∧ Fr n0 L ∧ Keep h0 h [a1] ∧ h0.size ≤ ee ∧ Fld Z h a1 "com/example/retinue/retinue/RetainerModel" "meanRecruitSeconds" "D" (.double x3) ∧ Fld Z h a1 "com/example/retinue/retinue/RetainerModel" "salaryPerMinute" "D" (.double x5) ∧ Fld Z h a1 "com/example/retinue/retinue/RetainerModel" "erlangB" "Lcom/example/retinue/retinue/ErlangB;" (.ref ee) ∧ Exa Z h ee "com/example/retinue/retinue/ErlangB" ∧ Fld Z h ee "com/example/retinue/retinue/ErlangB" "servers" "I" (.int (Int32.ofNat 0)) ∧ Fld Z h ee "com/example/retinue/retinue/ErlangB" "blocking" "D" (.double (own_B (FP.dmul x1 x3) 0)) ∧ Fld Z h ee "com/example/retinue/retinue/ErlangB" "load" "D" (.double (FP.dmul x1 x3))
theorem pd_0 : parseMethodDescriptor "(D)V" = some ⟨[.double], none⟩ := by decide +kernel
set_option maxRecDepth 65536 in
set_option maxHeartbeats 40000000 in
theorem rm2 (l : Launch) (Z : State) (a0 : Array Value) (hw : ∀ d ∈ tables_1, d.before a0 Z = true) (ws : List Jvm.Cond) (a1 : Addr) (x1 : UInt64) (x3 : UInt64) (x5 : UInt64) (u0 : Value) (u1 : Value) (u2 : Value) (h0 : Heap) (n0 : Nat) (Z0 : n0 ≤ h0.size) (E123 : Exa Z h0 a1 "com/example/retinue/retinue/RetainerModel") (F124 : Fld Z h0 a1 "com/example/retinue/retinue/RetainerModel" "meanRecruitSeconds" "D" u0) (F125 : Fld Z h0 a1 "com/example/retinue/retinue/RetainerModel" "salaryPerMinute" "D" u1) (F126 : Fld Z h0 a1 "com/example/retinue/retinue/RetainerModel" "erlangB" "Lcom/example/retinue/retinue/ErlangB;" u2) (g127 : n0 ≤ a1) (h1 : Fin64 x1) (h3 : Fin64 x3) (hA : own_A (FP.dmul x1 x3)) :
    MetFree l (⟨"com/example/retinue/retinue/RetainerModel", "<init>", "(DDD)V"⟩ : MethodName) (head1 (Jvm.Cond.code (⟨"com/example/retinue/retinue/RetainerModel", "<init>", "(DDD)V"⟩ : MethodName) prog_22_method_1_code 7 none :: ws) ({ frames := 2, cells := 1, slots := 3, locals := 28 } : Room)) (fun a U => a = #[(.ref a1), (.double x1), (.double x3), (.double x5)] ∧ Z.Warmed39 U.vm ∧ U.heap = h0) (fun _ _ _ _ _ => True) (fun _ U o U' => ∃ v L, o = .returned v ∧ Q2 Z a1 x1 x3 x5 u0 u1 u2 h0 n0 v U'.heap L ∧ FrameEnd U o U' L 1 3) := by
  refine MetFree.of_bodySF (plainFor_of_name pn_3) hisR ?_
  intro p e s m args below meth c s₁ Bd hml0 hP hK
  obtain ⟨rfl, hZ, hh⟩ := hP
  have hx := Bd.exec
  have hby := Bd.bytes
  have hml : c.maxLocals = 7 := hml0
  have hown : s.vm.findClass "com/example/retinue/retinue/RetainerModel" = some m.cls := findClass_of_methodNamed Bd.named
  have hnm := (name_of_methodNamed Bd.named Bd.method).1
  have X0 : Stand p l e ({ frames := 2, cells := 1, slots := 3, locals := 28 } : Room) s m #[(.ref a1), (.double x1), (.double x3), (.double x5)] below meth c s₁ [] 0 0 := Stand.of_body Bd
  have e0 : s₁.heap = h0 := by rw [← hh, Bd.state]; rfl
  have N0 := Fr.nil n0
  have A0 := (⟨X0, hx, hby⟩ : Ax _ _ _ _ _ _ _ _ _ _ _ _ _ _ _)
  show Go p e below (fun U o => ∃ v L, o = .returned v ∧ Q2 Z a1 x1 x3 x5 u0 u1 u2 h0 n0 v U.heap L ∧ FrameEnd s o U L 1 3) s₁ (entryFrame m #[(.ref a1), (.double x1), (.double x3), (.double x5)] 7)
  refine Go.cast (ef122 m a1 x1 x3 x5 u0 u1 u2) ?_
  refine g_aloadN A0 d2_0 rfl rfl (pc' := 1) rfl ?_
  obtain ⟨T128, X128, e128, st128⟩ := initO X0 hx hZ hown (hw _ (List.mem_of_getElem? (i := 11) rfl)) (hw _ (List.mem_of_getElem? (i := 12) rfl)) (hw _ (List.mem_of_getElem? (i := 13) rfl)) e0 (g := (mkF m 1 #[.val (.ref a1), .val (.double x1), .second, .val (.double x3), .second, .val (.double x5), .second] [(.ref a1)])) rfl (by rw [hml]; rfl) rfl (hb hby d2_1) (by decide) (W := 0) (by show 2 * 0 + _ ≤ _; exact Nat.le_of_eq rfl) (by decide)
  refine Go.of (g' := (mkF m 4 #[.val (.ref a1), .val (.double x1), .second, .val (.double x3), .second, .val (.double x5), .second] [])) st128 ?_
  have A129 := (⟨X128, hx, hby⟩ : Ax _ _ _ _ _ _ _ _ _ _ _ _ _ _ _)
  refine g_aloadN A129 d2_4 rfl rfl (pc' := 5) rfl ?_
  refine g_dloadN A129 d2_5 rfl (pc' := 6) rfl ?_
  obtain ⟨T130, h130, X130, e130, W130, st130⟩ := putF X128 hx hZ hown (host := "") (Or.inl (hw _ (List.mem_of_getElem? (i := 14) rfl))) Via.refl e128 F124 E123 (Or.inr ⟨(hw _ (List.mem_of_getElem? (i := 15) rfl)), rfl, hnm⟩) (hw _ (List.mem_of_getElem? (i := 6) rfl)) (ty := .double) (by decide) rfl rfl (g := (mkF m 6 #[.val (.ref a1), .val (.double x1), .second, .val (.double x3), .second, .val (.double x5), .second] [(.double x3), (.ref a1)])) rfl rfl (hb hby d2_6)
  have N131 := Fr.snoc X130 N0 g127
  have K132 : Keep h0 h130 [a1] := (Keep.refl h0 [a1]).wr W130 (Or.inl (List.mem_of_getElem? (i := 0) rfl))
  have E133 : Exa Z h130 a1 "com/example/retinue/retinue/RetainerModel" := Exa.wr W130 E123
  have F134 : Fld Z h130 a1 "com/example/retinue/retinue/RetainerModel" "salaryPerMinute" "D" u1 := Fld.other W130 F125 (Or.inr (slot_ne (Or.inr (hw _ (List.mem_of_getElem? (i := 17) rfl))) (Or.inr (hw _ (List.mem_of_getElem? (i := 15) rfl))) (by decide) (t := .double) (t' := .double) (by decide) (by decide)))
  have F135 : Fld Z h130 a1 "com/example/retinue/retinue/RetainerModel" "erlangB" "Lcom/example/retinue/retinue/ErlangB;" u2 := Fld.other W130 F126 (Or.inr (slot_ne (Or.inr (hw _ (List.mem_of_getElem? (i := 31) rfl))) (Or.inr (hw _ (List.mem_of_getElem? (i := 15) rfl))) (by decide) (t := (.object "com/example/retinue/retinue/ErlangB")) (t' := .double) (by decide) (by decide)))
  have F136 : Fld Z h130 a1 "com/example/retinue/retinue/RetainerModel" "meanRecruitSeconds" "D" (.double x3) := Fld.same W130 F124
  have Z137 : n0 ≤ h130.size := by rw [W130.size]; exact Z0
  refine Go.of (g' := (mkF m 9 #[.val (.ref a1), .val (.double x1), .second, .val (.double x3), .second, .val (.double x5), .second] [])) st130 ?_
  have A138 := (⟨X130, hx, hby⟩ : Ax _ _ _ _ _ _ _ _ _ _ _ _ _ _ _)
  refine g_aloadN A138 d2_9 rfl rfl (pc' := 10) rfl ?_
  refine g_dload A138 d2_10 rfl (pc' := 12) rfl ?_
  obtain ⟨T139, h139, X139, e139, W139, st139⟩ := putF X130 hx hZ hown (host := "") (Or.inl (hw _ (List.mem_of_getElem? (i := 16) rfl))) Via.refl e130 F134 E133 (Or.inr ⟨(hw _ (List.mem_of_getElem? (i := 17) rfl)), rfl, hnm⟩) (hw _ (List.mem_of_getElem? (i := 6) rfl)) (ty := .double) (by decide) rfl rfl (g := (mkF m 12 #[.val (.ref a1), .val (.double x1), .second, .val (.double x3), .second, .val (.double x5), .second] [(.double x5), (.ref a1)])) rfl rfl (hb hby d2_12)
  have N140 := Fr.snoc X139 N131 g127
  have K141 : Keep h0 h139 [a1] := K132.wr W139 (Or.inl (List.mem_of_getElem? (i := 0) rfl))
  have E142 : Exa Z h139 a1 "com/example/retinue/retinue/RetainerModel" := Exa.wr W139 E133
  have F143 : Fld Z h139 a1 "com/example/retinue/retinue/RetainerModel" "erlangB" "Lcom/example/retinue/retinue/ErlangB;" u2 := Fld.other W139 F135 (Or.inr (slot_ne (Or.inr (hw _ (List.mem_of_getElem? (i := 31) rfl))) (Or.inr (hw _ (List.mem_of_getElem? (i := 17) rfl))) (by decide) (t := (.object "com/example/retinue/retinue/ErlangB")) (t' := .double) (by decide) (by decide)))
  have F144 : Fld Z h139 a1 "com/example/retinue/retinue/RetainerModel" "meanRecruitSeconds" "D" (.double x3) := Fld.other W139 F136 (Or.inr (slot_ne (Or.inr (hw _ (List.mem_of_getElem? (i := 15) rfl))) (Or.inr (hw _ (List.mem_of_getElem? (i := 17) rfl))) (by decide) (t := .double) (t' := .double) (by decide) (by decide)))
  have F145 : Fld Z h139 a1 "com/example/retinue/retinue/RetainerModel" "salaryPerMinute" "D" (.double x5) := Fld.same W139 F134
  have Z146 : n0 ≤ h139.size := by rw [W139.size]; exact Z137
  refine Go.of (g' := (mkF m 15 #[.val (.ref a1), .val (.double x1), .second, .val (.double x3), .second, .val (.double x5), .second] [])) st139 ?_
  have A147 := (⟨X139, hx, hby⟩ : Ax _ _ _ _ _ _ _ _ _ _ _ _ _ _ _)
  refine g_aloadN A147 d2_15 rfl rfl (pc' := 16) rfl ?_
  obtain ⟨T148, h148, X148, e148, E148, EA148, D148, -, st148⟩ := newO X139 hx hZ hown (hw _ (List.mem_of_getElem? (i := 18) rfl)) (hw _ (List.mem_of_getElem? (i := 19) rfl)) (hw _ (List.mem_of_getElem? (i := 20) rfl)) e139 (g := (mkF m 16 #[.val (.ref a1), .val (.double x1), .second, .val (.double x3), .second, .val (.double x5), .second] [(.ref a1)])) rfl (hb hby d2_16) (by decide) (by decide)
  obtain ⟨a149, ea149⟩ : ∃ z, z = h139.size := ⟨_, rfl⟩
  rw [← ea149] at EA148 D148 st148
  have ne150 : a1 ≠ a149 := own_ne ea149 E142.lt
  have g151 : n0 ≤ a149 := by rw [ea149]; exact Z146
  have gh152 : h0.size ≤ a149 := by rw [ea149]; exact K141.1
  have K153 : Keep h0 h148 [a1] := K141.ext E148
  have E154 : Exa Z h148 a1 "com/example/retinue/retinue/RetainerModel" := Exa.ext E148 E142
  have F155 : Fld Z h148 a1 "com/example/retinue/retinue/RetainerModel" "erlangB" "Lcom/example/retinue/retinue/ErlangB;" u2 := Fld.ext E148 F143
  have F156 : Fld Z h148 a1 "com/example/retinue/retinue/RetainerModel" "meanRecruitSeconds" "D" (.double x3) := Fld.ext E148 F144
  have F157 : Fld Z h148 a1 "com/example/retinue/retinue/RetainerModel" "salaryPerMinute" "D" (.double x5) := Fld.ext E148 F145
  have Z158 : n0 ≤ h148.size := Nat.le_trans Z146 E148.1
  have F159 : Fld Z h148 a149 "com/example/retinue/retinue/ErlangB" "blocking" "D" (.double (0 : UInt64)) := D148 (Or.inl (hw _ (List.mem_of_getElem? (i := 26) rfl))) (ty := .double) (by decide)
  have F160 : Fld Z h148 a149 "com/example/retinue/retinue/ErlangB" "load" "D" (.double (0 : UInt64)) := D148 (Or.inr (hw _ (List.mem_of_getElem? (i := 29) rfl))) (ty := .double) (by decide)
  have F161 : Fld Z h148 a149 "com/example/retinue/retinue/ErlangB" "servers" "I" (.int (0 : Int32)) := D148 (Or.inl (hw _ (List.mem_of_getElem? (i := 43) rfl))) (ty := .int) (by decide)
  refine Go.of (g' := (mkF m 19 #[.val (.ref a1), .val (.double x1), .second, .val (.double x3), .second, .val (.double x5), .second] [(.ref a149), (.ref a1)])) st148 ?_
  have A162 := (⟨X148, hx, hby⟩ : Ax _ _ _ _ _ _ _ _ _ _ _ _ _ _ _)
  refine g_dup A162 d2_19 rfl (pc' := 20) rfl ?_
  refine g_dloadN A162 d2_20 rfl (pc' := 21) rfl ?_
  refine g_dloadN A162 d2_21 rfl (pc' := 22) rfl ?_
  refine g_dmul A162 d2_22 (own_ndmul h1 h3) (pc' := 23) rfl ?_
  obtain ⟨vv163, _, ⟨T163, L163, k163, n163⟩, -, X163, ⟨L163c, hQ163, l163, y163, z163⟩, st163⟩ := X148.specialBack hx (y := (⟨"com/example/retinue/retinue/ErlangB", "<init>", "(D)V"⟩ : MethodName)) rfl hown (mvT hZ (hw _ (List.mem_of_getElem? (i := 21) rfl))) (mvT hZ (hw _ (List.mem_of_getElem? (i := 22) rfl))) (mvT hZ (hw _ (List.mem_of_getElem? (i := 23) rfl))) (by decide) (backOf (W := 2) (rm4 l Z a0 hw [] a149 (FP.dmul x1 x3) (.double (0 : UInt64)) (.double (0 : UInt64)) (.int (0 : Int32)) h148 n0 Z158 EA148 F159 F160 F161 g151 hA) hZ (hw _ (List.mem_of_getElem? (i := 23) rfl)) (hw _ (List.mem_of_getElem? (i := 20) rfl)) (by decide) (by decide)) (g := (mkF m 23 #[.val (.ref a1), .val (.double x1), .second, .val (.double x3), .second, .val (.double x5), .second] [(.double (FP.dmul x1 x3)), (.ref a149), (.ref a149), (.ref a1)])) rfl (by rw [hml]; rfl) (Steps.refl _) (a := a149) (argsL := [(.double (FP.dmul x1 x3))]) (rest := [(.ref a149), (.ref a1)]) (lenOf pd_0 rfl) rfl (by show 2 * 0 + _ ≤ _; exact Nat.le_of_eq rfl) (hb hby d2_23) (fun _ _ => ⟨rfl, e148, (by decide : 1 + 0 ≤ _), (by decide : 3 + 0 ≤ _)⟩)
  have hQ163b : Q4 Z a149 (FP.dmul x1 x3) (.double (0 : UInt64)) (.double (0 : UInt64)) (.int (0 : Int32)) h148 n0 vv163 T163.heap L163c := hQ163
  clear hQ163
  dsimp only [Pt.U, Pt.locs, Pt.cells, Pt.slots] at X163 l163 y163 z163 st163
  subst y163 z163
  obtain ⟨rfl, Nq164, Kq165, F166, F167, F168⟩ := hQ163b
  have N169 : Fr n0 L163 := by rw [l163]; exact Fr.app N140 Nq164
  refine Go.tr (g' := (mkF m 26 #[.val (.ref a1), .val (.double x1), .second, .val (.double x3), .second, .val (.double x5), .second] [(.ref a149), (.ref a1)])) st163 ?_
  have E170 : Exa Z T163.heap a1 "com/example/retinue/retinue/RetainerModel" := Exa.keep E154 Kq165
  have F171 : Fld Z T163.heap a1 "com/example/retinue/retinue/RetainerModel" "erlangB" "Lcom/example/retinue/retinue/ErlangB;" u2 := Fld.keep F155 Kq165 (ninS ne150 nin0)
  have F172 : Fld Z T163.heap a1 "com/example/retinue/retinue/RetainerModel" "meanRecruitSeconds" "D" (.double x3) := Fld.keep F156 Kq165 (ninS ne150 nin0)
  have F173 : Fld Z T163.heap a1 "com/example/retinue/retinue/RetainerModel" "salaryPerMinute" "D" (.double x5) := Fld.keep F157 Kq165 (ninS ne150 nin0)
  have E174 : Exa Z T163.heap a149 "com/example/retinue/retinue/ErlangB" := Exa.keep EA148 Kq165
  have Z175 : n0 ≤ T163.heap.size := Nat.le_trans Z158 Kq165.1
  have K176 : Keep h0 T163.heap [a1] := K153.trans Kq165 (allS (Or.inr gh152) all0)
  have A177 := (⟨X163, hx, hby⟩ : Ax _ _ _ _ _ _ _ _ _ _ _ _ _ _ _)
  obtain ⟨T178, h178, X178, e178, W178, st178⟩ := putF X163 hx hZ hown (host := "") (Or.inl (hw _ (List.mem_of_getElem? (i := 30) rfl))) Via.refl rfl F171 E170 (Or.inr ⟨(hw _ (List.mem_of_getElem? (i := 31) rfl)), rfl, hnm⟩) (hw _ (List.mem_of_getElem? (i := 6) rfl)) (ty := (.object "com/example/retinue/retinue/ErlangB")) (by decide) rfl rfl (g := (mkF m 26 #[.val (.ref a1), .val (.double x1), .second, .val (.double x3), .second, .val (.double x5), .second] [(.ref a149), (.ref a1)])) rfl rfl (hb hby d2_26)
  have N179 := Fr.snoc X178 N169 g127
  have K180 : Keep h0 h178 [a1] := K176.wr W178 (Or.inl (List.mem_of_getElem? (i := 0) rfl))
  have E181 : Exa Z h178 a1 "com/example/retinue/retinue/RetainerModel" := Exa.wr W178 E170
  have F182 : Fld Z h178 a1 "com/example/retinue/retinue/RetainerModel" "meanRecruitSeconds" "D" (.double x3) := Fld.other W178 F172 (Or.inr (slot_ne (Or.inr (hw _ (List.mem_of_getElem? (i := 15) rfl))) (Or.inr (hw _ (List.mem_of_getElem? (i := 31) rfl))) (by decide) (t := .double) (t' := (.object "com/example/retinue/retinue/ErlangB")) (by decide) (by decide)))
  have F183 : Fld Z h178 a1 "com/example/retinue/retinue/RetainerModel" "salaryPerMinute" "D" (.double x5) := Fld.other W178 F173 (Or.inr (slot_ne (Or.inr (hw _ (List.mem_of_getElem? (i := 17) rfl))) (Or.inr (hw _ (List.mem_of_getElem? (i := 31) rfl))) (by decide) (t := .double) (t' := (.object "com/example/retinue/retinue/ErlangB")) (by decide) (by decide)))
  have E184 : Exa Z h178 a149 "com/example/retinue/retinue/ErlangB" := Exa.wr W178 E174
  have F185 : Fld Z h178 a149 "com/example/retinue/retinue/ErlangB" "blocking" "D" (.double (4607182418800017408 : UInt64)) := Fld.other W178 F166 (Or.inl (Ne.symm ne150))
  have F186 : Fld Z h178 a149 "com/example/retinue/retinue/ErlangB" "load" "D" (.double (FP.dmul x1 x3)) := Fld.other W178 F167 (Or.inl (Ne.symm ne150))
  have F187 : Fld Z h178 a149 "com/example/retinue/retinue/ErlangB" "servers" "I" (.int (0 : Int32)) := Fld.other W178 F168 (Or.inl (Ne.symm ne150))
  have F188 : Fld Z h178 a1 "com/example/retinue/retinue/RetainerModel" "erlangB" "Lcom/example/retinue/retinue/ErlangB;" (.ref a149) := Fld.same W178 F171
  have Z189 : n0 ≤ h178.size := by rw [W178.size]; exact Z175
  refine Go.of (g' := (mkF m 29 #[.val (.ref a1), .val (.double x1), .second, .val (.double x3), .second, .val (.double x5), .second] [])) st178 ?_
  have A190 := (⟨X178, hx, hby⟩ : Ax _ _ _ _ _ _ _ _ _ _ _ _ _ _ _)
  exact g_retV (Q := Q2 Z a1 x1 x3 x5 u0 u1 u2 h0 n0) A190 d2_29 Bd.notSynchronized Bd.returns (by decide) (by decide) (by rw [e178]; exact ⟨a149, rfl, N179, K180, gh152, F182, F183, F188, E184, F187, F185, F186⟩)
theorem d8_0 : decode prog_23_method_1_code 0 = .ok (.aload_n 0, 1) := by decide +kernel
theorem d8_1 : decode prog_23_method_1_code 1 = .ok (.invokespecial 1, 3) := by decide +kernel
theorem d8_4 : decode prog_23_method_1_code 4 = .ok (.aload_n 0, 1) := by decide +kernel
theorem d8_5 : decode prog_23_method_1_code 5 = .ok (.iload_n 1, 1) := by decide +kernel
theorem d8_6 : decode prog_23_method_1_code 6 = .ok (.putfield 7, 3) := by decide +kernel
theorem d8_9 : decode prog_23_method_1_code 9 = .ok (.aload_n 0, 1) := by decide +kernel
theorem d8_10 : decode prog_23_method_1_code 10 = .ok (.dload_n 2, 1) := by decide +kernel
theorem d8_11 : decode prog_23_method_1_code 11 = .ok (.putfield 13, 3) := by decide +kernel
theorem d8_14 : decode prog_23_method_1_code 14 = .ok (.aload_n 0, 1) := by decide +kernel
theorem d8_15 : decode prog_23_method_1_code 15 = .ok (.dload 4, 2) := by decide +kernel
theorem d8_17 : decode prog_23_method_1_code 17 = .ok (.putfield 17, 3) := by decide +kernel
theorem d8_20 : decode prog_23_method_1_code 20 = .ok (.aload_n 0, 1) := by decide +kernel
theorem d8_21 : decode prog_23_method_1_code 21 = .ok (.dload 6, 2) := by decide +kernel
theorem d8_23 : decode prog_23_method_1_code 23 = .ok (.putfield 20, 3) := by decide +kernel
theorem d8_26 : decode prog_23_method_1_code 26 = .ok (.aload_n 0, 1) := by decide +kernel
theorem d8_27 : decode prog_23_method_1_code 27 = .ok (.dload 8, 2) := by decide +kernel
theorem d8_29 : decode prog_23_method_1_code 29 = .ok (.putfield 23, 3) := by decide +kernel
theorem d8_32 : decode prog_23_method_1_code 32 = .ok (.return_, 1) := by decide +kernel
theorem pn_4 : plainName "com/example/retinue/retinue/RetainerModel$Pool" = true := by first | (simp [plainName, overriddenIn]; done) | decide +kernel
theorem ef191 (m : MethodId) (a1 : Addr) (i2 : Int32) (y3 : UInt64) (y4 : UInt64) (y5 : UInt64) (y6 : UInt64) (u0 : Value) (u1 : Value) (u2 : Value) (u3 : Value) (u4 : Value) : entryFrame m #[(.ref a1), (.int i2), (.double y3), (.double y4), (.double y5), (.double y6)] 10 = mkF m 0 #[.val (.ref a1), .val (.int i2), .val (.double y3), .second, .val (.double y4), .second, .val (.double y5), .second, .val (.double y6), .second] [] := by first | (simp [entryFrame, mkF, argsToLocals, Value.category]; done) | rfl
def Q8 (Z : State) (a1 : Addr) (i2 : Int32) (y3 : UInt64) (y4 : UInt64) (y5 : UInt64) (y6 : UInt64) (u0 : Value) (u1 : Value) (u2 : Value) (u3 : Value) (u4 : Value) (h0 : Heap) (n0 : Nat) (v : Option Value) (h : Heap) (L : List Loc) : Prop := v = none ∧ Fr n0 L ∧ Keep h0 h [a1] ∧ Fld Z h a1 "com/example/retinue/retinue/RetainerModel$Pool" "size" "I" (.int i2) ∧ Fld Z h a1 "com/example/retinue/retinue/RetainerModel$Pool" "emptyProbability" "D" (.double y3) ∧ Fld Z h a1 "com/example/retinue/retinue/RetainerModel$Pool" "meanWaitSeconds" "D" (.double y4) ∧ Fld Z h a1 "com/example/retinue/retinue/RetainerModel$Pool" "idleWorkers" "D" (.double y5) ∧ Fld Z h a1 "com/example/retinue/retinue/RetainerModel$Pool" "costPerMinute" "D" (.double y6)
theorem pd_1 : parseMethodDescriptor "()V" = some ⟨[], none⟩ := by decide +kernel
set_option maxRecDepth 65536 in
set_option maxHeartbeats 40000000 in
theorem rm8 (l : Launch) (Z : State) (a0 : Array Value) (hw : ∀ d ∈ tables_1, d.before a0 Z = true) (ws : List Jvm.Cond) (a1 : Addr) (i2 : Int32) (y3 : UInt64) (y4 : UInt64) (y5 : UInt64) (y6 : UInt64) (u0 : Value) (u1 : Value) (u2 : Value) (u3 : Value) (u4 : Value) (h0 : Heap) (n0 : Nat) (Z0 : n0 ≤ h0.size) (E192 : Exa Z h0 a1 "com/example/retinue/retinue/RetainerModel$Pool") (F193 : Fld Z h0 a1 "com/example/retinue/retinue/RetainerModel$Pool" "size" "I" u0) (F194 : Fld Z h0 a1 "com/example/retinue/retinue/RetainerModel$Pool" "emptyProbability" "D" u1) (F195 : Fld Z h0 a1 "com/example/retinue/retinue/RetainerModel$Pool" "meanWaitSeconds" "D" u2) (F196 : Fld Z h0 a1 "com/example/retinue/retinue/RetainerModel$Pool" "idleWorkers" "D" u3) (F197 : Fld Z h0 a1 "com/example/retinue/retinue/RetainerModel$Pool" "costPerMinute" "D" u4) (g198 : n0 ≤ a1) :
    MetFree l (⟨"com/example/retinue/retinue/RetainerModel$Pool", "<init>", "(IDDDD)V"⟩ : MethodName) (head1 (Jvm.Cond.code (⟨"com/example/retinue/retinue/RetainerModel$Pool", "<init>", "(IDDDD)V"⟩ : MethodName) prog_23_method_1_code 10 none :: ws) ({ frames := 2, cells := 0, slots := 0, locals := 24 } : Room)) (fun a U => a = #[(.ref a1), (.int i2), (.double y3), (.double y4), (.double y5), (.double y6)] ∧ Z.Warmed39 U.vm ∧ U.heap = h0) (fun _ _ _ _ _ => True) (fun _ U o U' => ∃ v L, o = .returned v ∧ Q8 Z a1 i2 y3 y4 y5 y6 u0 u1 u2 u3 u4 h0 n0 v U'.heap L ∧ FrameEnd U o U' L 0 0) := by
  refine MetFree.of_bodySF (plainFor_of_name pn_4) hisR ?_
  intro p e s m args below meth c s₁ Bd hml0 hP hK
  obtain ⟨rfl, hZ, hh⟩ := hP
  have hx := Bd.exec
  have hby := Bd.bytes
  have hml : c.maxLocals = 10 := hml0
  have hown : s.vm.findClass "com/example/retinue/retinue/RetainerModel$Pool" = some m.cls := findClass_of_methodNamed Bd.named
  have hnm := (name_of_methodNamed Bd.named Bd.method).1
  have X0 : Stand p l e ({ frames := 2, cells := 0, slots := 0, locals := 24 } : Room) s m #[(.ref a1), (.int i2), (.double y3), (.double y4), (.double y5), (.double y6)] below meth c s₁ [] 0 0 := Stand.of_body Bd
  have e0 : s₁.heap = h0 := by rw [← hh, Bd.state]; rfl
  have N0 := Fr.nil n0
  have A0 := (⟨X0, hx, hby⟩ : Ax _ _ _ _ _ _ _ _ _ _ _ _ _ _ _)
  show Go p e below (fun U o => ∃ v L, o = .returned v ∧ Q8 Z a1 i2 y3 y4 y5 y6 u0 u1 u2 u3 u4 h0 n0 v U.heap L ∧ FrameEnd s o U L 0 0) s₁ (entryFrame m #[(.ref a1), (.int i2), (.double y3), (.double y4), (.double y5), (.double y6)] 10)
  refine Go.cast (ef191 m a1 i2 y3 y4 y5 y6 u0 u1 u2 u3 u4) ?_
  refine g_aloadN A0 d8_0 rfl rfl (pc' := 1) rfl ?_
  obtain ⟨vv199, _, ⟨T199, L199, k199, n199⟩, -, X199, ⟨L199c, hQ199, l199, y199, z199⟩, st199⟩ := X0.specialBack hx (y := (⟨"java/lang/Record", "<init>", "()V"⟩ : MethodName)) rfl hown (mvT hZ (hw _ (List.mem_of_getElem? (i := 55) rfl))) (mvT hZ (hw _ (List.mem_of_getElem? (i := 56) rfl))) (mvT hZ (hw _ (List.mem_of_getElem? (i := 59) rfl))) (by decide) (backOf (W := 0) (rm9 l Z a0 hw [] a1 h0 n0 Z0 ) hZ (hw _ (List.mem_of_getElem? (i := 59) rfl)) (hw _ (List.mem_of_getElem? (i := 58) rfl)) (by decide) (by decide)) (g := (mkF m 1 #[.val (.ref a1), .val (.int i2), .val (.double y3), .second, .val (.double y4), .second, .val (.double y5), .second, .val (.double y6), .second] [(.ref a1)])) rfl (by rw [hml]; rfl) (Steps.refl _) (a := a1) (argsL := []) (rest := []) (lenOf pd_1 rfl) rfl (by show 2 * 0 + _ ≤ _; exact Nat.le_of_eq rfl) (hb hby d8_1) (fun _ _ => ⟨rfl, e0, (by decide : 0 + 0 ≤ _), (by decide : 0 + 0 ≤ _)⟩)
  have hQ199b : Q9 Z a1 h0 n0 vv199 T199.heap L199c := hQ199
  clear hQ199
  dsimp only [Pt.U, Pt.locs, Pt.cells, Pt.slots] at X199 l199 y199 z199 st199
  subst y199 z199
  obtain ⟨rfl, Nq200, Kq201⟩ := hQ199b
  have N202 : Fr n0 L199 := by rw [l199]; exact Fr.app N0 Nq200
  refine Go.tr (g' := (mkF m 4 #[.val (.ref a1), .val (.int i2), .val (.double y3), .second, .val (.double y4), .second, .val (.double y5), .second, .val (.double y6), .second] [])) st199 ?_
  have e203 : T199.heap = h0 := Kq201
  have A204 := (⟨X199, hx, hby⟩ : Ax _ _ _ _ _ _ _ _ _ _ _ _ _ _ _)
  refine g_aloadN A204 d8_4 rfl rfl (pc' := 5) rfl ?_
  refine g_iloadN A204 d8_5 rfl (pc' := 6) rfl ?_
  obtain ⟨T205, h205, X205, e205, W205, st205⟩ := putF X199 hx hZ hown (host := "") (Or.inl (hw _ (List.mem_of_getElem? (i := 61) rfl))) Via.refl e203 F193 E192 (Or.inr ⟨(hw _ (List.mem_of_getElem? (i := 62) rfl)), rfl, hnm⟩) (hw _ (List.mem_of_getElem? (i := 50) rfl)) (ty := .int) (by decide) rfl rfl (g := (mkF m 6 #[.val (.ref a1), .val (.int i2), .val (.double y3), .second, .val (.double y4), .second, .val (.double y5), .second, .val (.double y6), .second] [(.int i2), (.ref a1)])) rfl rfl (hb hby d8_6)
  have N206 := Fr.snoc X205 N202 g198
  have K207 : Keep h0 h205 [a1] := (Keep.refl h0 [a1]).wr W205 (Or.inl (List.mem_of_getElem? (i := 0) rfl))
  have E208 : Exa Z h205 a1 "com/example/retinue/retinue/RetainerModel$Pool" := Exa.wr W205 E192
  have F209 : Fld Z h205 a1 "com/example/retinue/retinue/RetainerModel$Pool" "emptyProbability" "D" u1 := Fld.other W205 F194 (Or.inr (slot_ne (Or.inr (hw _ (List.mem_of_getElem? (i := 64) rfl))) (Or.inr (hw _ (List.mem_of_getElem? (i := 62) rfl))) (by decide) (t := .double) (t' := .int) (by decide) (by decide)))
  have F210 : Fld Z h205 a1 "com/example/retinue/retinue/RetainerModel$Pool" "meanWaitSeconds" "D" u2 := Fld.other W205 F195 (Or.inr (slot_ne (Or.inr (hw _ (List.mem_of_getElem? (i := 66) rfl))) (Or.inr (hw _ (List.mem_of_getElem? (i := 62) rfl))) (by decide) (t := .double) (t' := .int) (by decide) (by decide)))
  have F211 : Fld Z h205 a1 "com/example/retinue/retinue/RetainerModel$Pool" "idleWorkers" "D" u3 := Fld.other W205 F196 (Or.inr (slot_ne (Or.inr (hw _ (List.mem_of_getElem? (i := 68) rfl))) (Or.inr (hw _ (List.mem_of_getElem? (i := 62) rfl))) (by decide) (t := .double) (t' := .int) (by decide) (by decide)))
  have F212 : Fld Z h205 a1 "com/example/retinue/retinue/RetainerModel$Pool" "costPerMinute" "D" u4 := Fld.other W205 F197 (Or.inr (slot_ne (Or.inr (hw _ (List.mem_of_getElem? (i := 70) rfl))) (Or.inr (hw _ (List.mem_of_getElem? (i := 62) rfl))) (by decide) (t := .double) (t' := .int) (by decide) (by decide)))
  have F213 : Fld Z h205 a1 "com/example/retinue/retinue/RetainerModel$Pool" "size" "I" (.int i2) := Fld.same W205 F193
  have Z214 : n0 ≤ h205.size := by rw [W205.size]; exact Z0
  refine Go.of (g' := (mkF m 9 #[.val (.ref a1), .val (.int i2), .val (.double y3), .second, .val (.double y4), .second, .val (.double y5), .second, .val (.double y6), .second] [])) st205 ?_
  have A215 := (⟨X205, hx, hby⟩ : Ax _ _ _ _ _ _ _ _ _ _ _ _ _ _ _)
  refine g_aloadN A215 d8_9 rfl rfl (pc' := 10) rfl ?_
  refine g_dloadN A215 d8_10 rfl (pc' := 11) rfl ?_
  obtain ⟨T216, h216, X216, e216, W216, st216⟩ := putF X205 hx hZ hown (host := "") (Or.inl (hw _ (List.mem_of_getElem? (i := 63) rfl))) Via.refl e205 F209 E208 (Or.inr ⟨(hw _ (List.mem_of_getElem? (i := 64) rfl)), rfl, hnm⟩) (hw _ (List.mem_of_getElem? (i := 50) rfl)) (ty := .double) (by decide) rfl rfl (g := (mkF m 11 #[.val (.ref a1), .val (.int i2), .val (.double y3), .second, .val (.double y4), .second, .val (.double y5), .second, .val (.double y6), .second] [(.double y3), (.ref a1)])) rfl rfl (hb hby d8_11)
  have N217 := Fr.snoc X216 N206 g198
  have K218 : Keep h0 h216 [a1] := K207.wr W216 (Or.inl (List.mem_of_getElem? (i := 0) rfl))
  have E219 : Exa Z h216 a1 "com/example/retinue/retinue/RetainerModel$Pool" := Exa.wr W216 E208
  have F220 : Fld Z h216 a1 "com/example/retinue/retinue/RetainerModel$Pool" "meanWaitSeconds" "D" u2 := Fld.other W216 F210 (Or.inr (slot_ne (Or.inr (hw _ (List.mem_of_getElem? (i := 66) rfl))) (Or.inr (hw _ (List.mem_of_getElem? (i := 64) rfl))) (by decide) (t := .double) (t' := .double) (by decide) (by decide)))
  have F221 : Fld Z h216 a1 "com/example/retinue/retinue/RetainerModel$Pool" "idleWorkers" "D" u3 := Fld.other W216 F211 (Or.inr (slot_ne (Or.inr (hw _ (List.mem_of_getElem? (i := 68) rfl))) (Or.inr (hw _ (List.mem_of_getElem? (i := 64) rfl))) (by decide) (t := .double) (t' := .double) (by decide) (by decide)))
  have F222 : Fld Z h216 a1 "com/example/retinue/retinue/RetainerModel$Pool" "costPerMinute" "D" u4 := Fld.other W216 F212 (Or.inr (slot_ne (Or.inr (hw _ (List.mem_of_getElem? (i := 70) rfl))) (Or.inr (hw _ (List.mem_of_getElem? (i := 64) rfl))) (by decide) (t := .double) (t' := .double) (by decide) (by decide)))
  have F223 : Fld Z h216 a1 "com/example/retinue/retinue/RetainerModel$Pool" "size" "I" (.int i2) := Fld.other W216 F213 (Or.inr (slot_ne (Or.inr (hw _ (List.mem_of_getElem? (i := 62) rfl))) (Or.inr (hw _ (List.mem_of_getElem? (i := 64) rfl))) (by decide) (t := .int) (t' := .double) (by decide) (by decide)))
  have F224 : Fld Z h216 a1 "com/example/retinue/retinue/RetainerModel$Pool" "emptyProbability" "D" (.double y3) := Fld.same W216 F209
  have Z225 : n0 ≤ h216.size := by rw [W216.size]; exact Z214
  refine Go.of (g' := (mkF m 14 #[.val (.ref a1), .val (.int i2), .val (.double y3), .second, .val (.double y4), .second, .val (.double y5), .second, .val (.double y6), .second] [])) st216 ?_
  have A226 := (⟨X216, hx, hby⟩ : Ax _ _ _ _ _ _ _ _ _ _ _ _ _ _ _)
  refine g_aloadN A226 d8_14 rfl rfl (pc' := 15) rfl ?_
  refine g_dload A226 d8_15 rfl (pc' := 17) rfl ?_
  obtain ⟨T227, h227, X227, e227, W227, st227⟩ := putF X216 hx hZ hown (host := "") (Or.inl (hw _ (List.mem_of_getElem? (i := 65) rfl))) Via.refl e216 F220 E219 (Or.inr ⟨(hw _ (List.mem_of_getElem? (i := 66) rfl)), rfl, hnm⟩) (hw _ (List.mem_of_getElem? (i := 50) rfl)) (ty := .double) (by decide) rfl rfl (g := (mkF m 17 #[.val (.ref a1), .val (.int i2), .val (.double y3), .second, .val (.double y4), .second, .val (.double y5), .second, .val (.double y6), .second] [(.double y4), (.ref a1)])) rfl rfl (hb hby d8_17)
  have N228 := Fr.snoc X227 N217 g198
  have K229 : Keep h0 h227 [a1] := K218.wr W227 (Or.inl (List.mem_of_getElem? (i := 0) rfl))
  have E230 : Exa Z h227 a1 "com/example/retinue/retinue/RetainerModel$Pool" := Exa.wr W227 E219
  have F231 : Fld Z h227 a1 "com/example/retinue/retinue/RetainerModel$Pool" "idleWorkers" "D" u3 := Fld.other W227 F221 (Or.inr (slot_ne (Or.inr (hw _ (List.mem_of_getElem? (i := 68) rfl))) (Or.inr (hw _ (List.mem_of_getElem? (i := 66) rfl))) (by decide) (t := .double) (t' := .double) (by decide) (by decide)))
  have F232 : Fld Z h227 a1 "com/example/retinue/retinue/RetainerModel$Pool" "costPerMinute" "D" u4 := Fld.other W227 F222 (Or.inr (slot_ne (Or.inr (hw _ (List.mem_of_getElem? (i := 70) rfl))) (Or.inr (hw _ (List.mem_of_getElem? (i := 66) rfl))) (by decide) (t := .double) (t' := .double) (by decide) (by decide)))
  have F233 : Fld Z h227 a1 "com/example/retinue/retinue/RetainerModel$Pool" "size" "I" (.int i2) := Fld.other W227 F223 (Or.inr (slot_ne (Or.inr (hw _ (List.mem_of_getElem? (i := 62) rfl))) (Or.inr (hw _ (List.mem_of_getElem? (i := 66) rfl))) (by decide) (t := .int) (t' := .double) (by decide) (by decide)))
  have F234 : Fld Z h227 a1 "com/example/retinue/retinue/RetainerModel$Pool" "emptyProbability" "D" (.double y3) := Fld.other W227 F224 (Or.inr (slot_ne (Or.inr (hw _ (List.mem_of_getElem? (i := 64) rfl))) (Or.inr (hw _ (List.mem_of_getElem? (i := 66) rfl))) (by decide) (t := .double) (t' := .double) (by decide) (by decide)))
  have F235 : Fld Z h227 a1 "com/example/retinue/retinue/RetainerModel$Pool" "meanWaitSeconds" "D" (.double y4) := Fld.same W227 F220
  have Z236 : n0 ≤ h227.size := by rw [W227.size]; exact Z225
  refine Go.of (g' := (mkF m 20 #[.val (.ref a1), .val (.int i2), .val (.double y3), .second, .val (.double y4), .second, .val (.double y5), .second, .val (.double y6), .second] [])) st227 ?_
  have A237 := (⟨X227, hx, hby⟩ : Ax _ _ _ _ _ _ _ _ _ _ _ _ _ _ _)
  refine g_aloadN A237 d8_20 rfl rfl (pc' := 21) rfl ?_
  refine g_dload A237 d8_21 rfl (pc' := 23) rfl ?_
  obtain ⟨T238, h238, X238, e238, W238, st238⟩ := putF X227 hx hZ hown (host := "") (Or.inl (hw _ (List.mem_of_getElem? (i := 67) rfl))) Via.refl e227 F231 E230 (Or.inr ⟨(hw _ (List.mem_of_getElem? (i := 68) rfl)), rfl, hnm⟩) (hw _ (List.mem_of_getElem? (i := 50) rfl)) (ty := .double) (by decide) rfl rfl (g := (mkF m 23 #[.val (.ref a1), .val (.int i2), .val (.double y3), .second, .val (.double y4), .second, .val (.double y5), .second, .val (.double y6), .second] [(.double y5), (.ref a1)])) rfl rfl (hb hby d8_23)
  have N239 := Fr.snoc X238 N228 g198
  have K240 : Keep h0 h238 [a1] := K229.wr W238 (Or.inl (List.mem_of_getElem? (i := 0) rfl))
  have E241 : Exa Z h238 a1 "com/example/retinue/retinue/RetainerModel$Pool" := Exa.wr W238 E230
  have F242 : Fld Z h238 a1 "com/example/retinue/retinue/RetainerModel$Pool" "costPerMinute" "D" u4 := Fld.other W238 F232 (Or.inr (slot_ne (Or.inr (hw _ (List.mem_of_getElem? (i := 70) rfl))) (Or.inr (hw _ (List.mem_of_getElem? (i := 68) rfl))) (by decide) (t := .double) (t' := .double) (by decide) (by decide)))
  have F243 : Fld Z h238 a1 "com/example/retinue/retinue/RetainerModel$Pool" "size" "I" (.int i2) := Fld.other W238 F233 (Or.inr (slot_ne (Or.inr (hw _ (List.mem_of_getElem? (i := 62) rfl))) (Or.inr (hw _ (List.mem_of_getElem? (i := 68) rfl))) (by decide) (t := .int) (t' := .double) (by decide) (by decide)))
  have F244 : Fld Z h238 a1 "com/example/retinue/retinue/RetainerModel$Pool" "emptyProbability" "D" (.double y3) := Fld.other W238 F234 (Or.inr (slot_ne (Or.inr (hw _ (List.mem_of_getElem? (i := 64) rfl))) (Or.inr (hw _ (List.mem_of_getElem? (i := 68) rfl))) (by decide) (t := .double) (t' := .double) (by decide) (by decide)))
  have F245 : Fld Z h238 a1 "com/example/retinue/retinue/RetainerModel$Pool" "meanWaitSeconds" "D" (.double y4) := Fld.other W238 F235 (Or.inr (slot_ne (Or.inr (hw _ (List.mem_of_getElem? (i := 66) rfl))) (Or.inr (hw _ (List.mem_of_getElem? (i := 68) rfl))) (by decide) (t := .double) (t' := .double) (by decide) (by decide)))
  have F246 : Fld Z h238 a1 "com/example/retinue/retinue/RetainerModel$Pool" "idleWorkers" "D" (.double y5) := Fld.same W238 F231
  have Z247 : n0 ≤ h238.size := by rw [W238.size]; exact Z236
  refine Go.of (g' := (mkF m 26 #[.val (.ref a1), .val (.int i2), .val (.double y3), .second, .val (.double y4), .second, .val (.double y5), .second, .val (.double y6), .second] [])) st238 ?_
  have A248 := (⟨X238, hx, hby⟩ : Ax _ _ _ _ _ _ _ _ _ _ _ _ _ _ _)
  refine g_aloadN A248 d8_26 rfl rfl (pc' := 27) rfl ?_
  refine g_dload A248 d8_27 rfl (pc' := 29) rfl ?_
  obtain ⟨T249, h249, X249, e249, W249, st249⟩ := putF X238 hx hZ hown (host := "") (Or.inl (hw _ (List.mem_of_getElem? (i := 69) rfl))) Via.refl e238 F242 E241 (Or.inr ⟨(hw _ (List.mem_of_getElem? (i := 70) rfl)), rfl, hnm⟩) (hw _ (List.mem_of_getElem? (i := 50) rfl)) (ty := .double) (by decide) rfl rfl (g := (mkF m 29 #[.val (.ref a1), .val (.int i2), .val (.double y3), .second, .val (.double y4), .second, .val (.double y5), .second, .val (.double y6), .second] [(.double y6), (.ref a1)])) rfl rfl (hb hby d8_29)
  have N250 := Fr.snoc X249 N239 g198
  have K251 : Keep h0 h249 [a1] := K240.wr W249 (Or.inl (List.mem_of_getElem? (i := 0) rfl))
  have E252 : Exa Z h249 a1 "com/example/retinue/retinue/RetainerModel$Pool" := Exa.wr W249 E241
  have F253 : Fld Z h249 a1 "com/example/retinue/retinue/RetainerModel$Pool" "size" "I" (.int i2) := Fld.other W249 F243 (Or.inr (slot_ne (Or.inr (hw _ (List.mem_of_getElem? (i := 62) rfl))) (Or.inr (hw _ (List.mem_of_getElem? (i := 70) rfl))) (by decide) (t := .int) (t' := .double) (by decide) (by decide)))
  have F254 : Fld Z h249 a1 "com/example/retinue/retinue/RetainerModel$Pool" "emptyProbability" "D" (.double y3) := Fld.other W249 F244 (Or.inr (slot_ne (Or.inr (hw _ (List.mem_of_getElem? (i := 64) rfl))) (Or.inr (hw _ (List.mem_of_getElem? (i := 70) rfl))) (by decide) (t := .double) (t' := .double) (by decide) (by decide)))
  have F255 : Fld Z h249 a1 "com/example/retinue/retinue/RetainerModel$Pool" "meanWaitSeconds" "D" (.double y4) := Fld.other W249 F245 (Or.inr (slot_ne (Or.inr (hw _ (List.mem_of_getElem? (i := 66) rfl))) (Or.inr (hw _ (List.mem_of_getElem? (i := 70) rfl))) (by decide) (t := .double) (t' := .double) (by decide) (by decide)))
  have F256 : Fld Z h249 a1 "com/example/retinue/retinue/RetainerModel$Pool" "idleWorkers" "D" (.double y5) := Fld.other W249 F246 (Or.inr (slot_ne (Or.inr (hw _ (List.mem_of_getElem? (i := 68) rfl))) (Or.inr (hw _ (List.mem_of_getElem? (i := 70) rfl))) (by decide) (t := .double) (t' := .double) (by decide) (by decide)))
  have F257 : Fld Z h249 a1 "com/example/retinue/retinue/RetainerModel$Pool" "costPerMinute" "D" (.double y6) := Fld.same W249 F242
  have Z258 : n0 ≤ h249.size := by rw [W249.size]; exact Z247
  refine Go.of (g' := (mkF m 32 #[.val (.ref a1), .val (.int i2), .val (.double y3), .second, .val (.double y4), .second, .val (.double y5), .second, .val (.double y6), .second] [])) st249 ?_
  have A259 := (⟨X249, hx, hby⟩ : Ax _ _ _ _ _ _ _ _ _ _ _ _ _ _ _)
  exact g_retV (Q := Q8 Z a1 i2 y3 y4 y5 y6 u0 u1 u2 u3 u4 h0 n0) A259 d8_32 Bd.notSynchronized Bd.returns (by decide) (by decide) (by rw [e249]; exact ⟨rfl, N250, K251, F253, F254, F255, F256, F257⟩)
theorem d10_0 : decode prog_23_method_5_code 0 = .ok (.aload_n 0, 1) := by decide +kernel
theorem d10_1 : decode prog_23_method_5_code 1 = .ok (.getfield 7, 3) := by decide +kernel
theorem d10_4 : decode prog_23_method_5_code 4 = .ok (.ireturn, 1) := by decide +kernel
theorem ef260 (m : MethodId) (a1 : Addr) (x2 : Int32) : entryFrame m #[(.ref a1)] 1 = mkF m 0 #[.val (.ref a1)] [] := by first | (simp [entryFrame, mkF, argsToLocals, Value.category]; done) | rfl
def Q10 (Z : State) (a1 : Addr) (x2 : Int32) (h0 : Heap) (n0 : Nat) (v : Option Value) (h : Heap) (L : List Loc) : Prop := v = some (.int x2) ∧ Fr n0 L ∧ h = h0
set_option maxRecDepth 65536 in
set_option maxHeartbeats 40000000 in
theorem rm10 (l : Launch) (Z : State) (a0 : Array Value) (hw : ∀ d ∈ tables_1, d.before a0 Z = true) (ws : List Jvm.Cond) (a1 : Addr) (x2 : Int32) (h0 : Heap) (n0 : Nat) (Z0 : n0 ≤ h0.size) (F261 : Fld Z h0 a1 "com/example/retinue/retinue/RetainerModel$Pool" "size" "I" (.int x2)) :
    MetFree l (⟨"com/example/retinue/retinue/RetainerModel$Pool", "size", "()I"⟩ : MethodName) (head1 (Jvm.Cond.code (⟨"com/example/retinue/retinue/RetainerModel$Pool", "size", "()I"⟩ : MethodName) prog_23_method_5_code 1 (some .int) :: ws) ({ frames := 0, cells := 0, slots := 0, locals := 0 } : Room)) (fun a U => a = #[(.ref a1)] ∧ Z.Warmed39 U.vm ∧ U.heap = h0) (fun _ _ _ _ _ => True) (fun _ U o U' => ∃ v L, o = .returned v ∧ Q10 Z a1 x2 h0 n0 v U'.heap L ∧ FrameEnd U o U' L 0 0) := by
  refine MetFree.of_bodySF (plainFor_of_name pn_4) hisR ?_
  intro p e s m args below meth c s₁ Bd hml0 hP hK
  obtain ⟨rfl, hZ, hh⟩ := hP
  have hx := Bd.exec
  have hby := Bd.bytes
  have hml : c.maxLocals = 1 := hml0
  have hown : s.vm.findClass "com/example/retinue/retinue/RetainerModel$Pool" = some m.cls := findClass_of_methodNamed Bd.named
  have hnm := (name_of_methodNamed Bd.named Bd.method).1
  have X0 : Stand p l e ({ frames := 0, cells := 0, slots := 0, locals := 0 } : Room) s m #[(.ref a1)] below meth c s₁ [] 0 0 := Stand.of_body Bd
  have e0 : s₁.heap = h0 := by rw [← hh, Bd.state]; rfl
  have N0 := Fr.nil n0
  have A0 := (⟨X0, hx, hby⟩ : Ax _ _ _ _ _ _ _ _ _ _ _ _ _ _ _)
  show Go p e below (fun U o => ∃ v L, o = .returned v ∧ Q10 Z a1 x2 h0 n0 v U.heap L ∧ FrameEnd s o U L 0 0) s₁ (entryFrame m #[(.ref a1)] 1)
  refine Go.cast (ef260 m a1 x2) ?_
  refine g_aloadN A0 d10_0 rfl rfl (pc' := 1) rfl ?_
  obtain ⟨T262, X262, e262, st262⟩ := getF X0 hx hZ hown (host := "") (Or.inl (hw _ (List.mem_of_getElem? (i := 61) rfl))) Via.refl e0 F261 (g := (mkF m 1 #[.val (.ref a1)] [(.ref a1)])) rfl rfl (hb hby d10_1)
  refine Go.of (g' := (mkF m 4 #[.val (.ref a1)] [(.int x2)])) st262 ?_
  have A263 := (⟨X262, hx, hby⟩ : Ax _ _ _ _ _ _ _ _ _ _ _ _ _ _ _)
  exact g_ret (Q := Q10 Z a1 x2 h0 n0) A263 d10_4 Bd.notSynchronized Bd.returns rfl (Or.inl ⟨rfl, by simp, _, rfl⟩) (by decide) (by decide) (by rw [e262]; exact ⟨rfl, N0, rfl⟩)
theorem d11_0 : decode prog_23_method_6_code 0 = .ok (.aload_n 0, 1) := by decide +kernel
theorem d11_1 : decode prog_23_method_6_code 1 = .ok (.getfield 13, 3) := by decide +kernel
theorem d11_4 : decode prog_23_method_6_code 4 = .ok (.dreturn, 1) := by decide +kernel
theorem ef264 (m : MethodId) (a1 : Addr) (x2 : UInt64) : entryFrame m #[(.ref a1)] 1 = mkF m 0 #[.val (.ref a1)] [] := by first | (simp [entryFrame, mkF, argsToLocals, Value.category]; done) | rfl
def Q11 (Z : State) (a1 : Addr) (x2 : UInt64) (h0 : Heap) (n0 : Nat) (v : Option Value) (h : Heap) (L : List Loc) : Prop := v = some (.double x2) ∧ Fr n0 L ∧ h = h0
set_option maxRecDepth 65536 in
set_option maxHeartbeats 40000000 in
theorem rm11 (l : Launch) (Z : State) (a0 : Array Value) (hw : ∀ d ∈ tables_1, d.before a0 Z = true) (ws : List Jvm.Cond) (a1 : Addr) (x2 : UInt64) (h0 : Heap) (n0 : Nat) (Z0 : n0 ≤ h0.size) (F265 : Fld Z h0 a1 "com/example/retinue/retinue/RetainerModel$Pool" "emptyProbability" "D" (.double x2)) :
    MetFree l (⟨"com/example/retinue/retinue/RetainerModel$Pool", "emptyProbability", "()D"⟩ : MethodName) (head1 (Jvm.Cond.code (⟨"com/example/retinue/retinue/RetainerModel$Pool", "emptyProbability", "()D"⟩ : MethodName) prog_23_method_6_code 1 (some .double) :: ws) ({ frames := 0, cells := 0, slots := 0, locals := 0 } : Room)) (fun a U => a = #[(.ref a1)] ∧ Z.Warmed39 U.vm ∧ U.heap = h0) (fun _ _ _ _ _ => True) (fun _ U o U' => ∃ v L, o = .returned v ∧ Q11 Z a1 x2 h0 n0 v U'.heap L ∧ FrameEnd U o U' L 0 0) := by
  refine MetFree.of_bodySF (plainFor_of_name pn_4) hisR ?_
  intro p e s m args below meth c s₁ Bd hml0 hP hK
  obtain ⟨rfl, hZ, hh⟩ := hP
  have hx := Bd.exec
  have hby := Bd.bytes
  have hml : c.maxLocals = 1 := hml0
  have hown : s.vm.findClass "com/example/retinue/retinue/RetainerModel$Pool" = some m.cls := findClass_of_methodNamed Bd.named
  have hnm := (name_of_methodNamed Bd.named Bd.method).1
  have X0 : Stand p l e ({ frames := 0, cells := 0, slots := 0, locals := 0 } : Room) s m #[(.ref a1)] below meth c s₁ [] 0 0 := Stand.of_body Bd
  have e0 : s₁.heap = h0 := by rw [← hh, Bd.state]; rfl
  have N0 := Fr.nil n0
  have A0 := (⟨X0, hx, hby⟩ : Ax _ _ _ _ _ _ _ _ _ _ _ _ _ _ _)
  show Go p e below (fun U o => ∃ v L, o = .returned v ∧ Q11 Z a1 x2 h0 n0 v U.heap L ∧ FrameEnd s o U L 0 0) s₁ (entryFrame m #[(.ref a1)] 1)
  refine Go.cast (ef264 m a1 x2) ?_
  refine g_aloadN A0 d11_0 rfl rfl (pc' := 1) rfl ?_
  obtain ⟨T266, X266, e266, st266⟩ := getF X0 hx hZ hown (host := "") (Or.inl (hw _ (List.mem_of_getElem? (i := 63) rfl))) Via.refl e0 F265 (g := (mkF m 1 #[.val (.ref a1)] [(.ref a1)])) rfl rfl (hb hby d11_1)
  refine Go.of (g' := (mkF m 4 #[.val (.ref a1)] [(.double x2)])) st266 ?_
  have A267 := (⟨X266, hx, hby⟩ : Ax _ _ _ _ _ _ _ _ _ _ _ _ _ _ _)
  exact g_ret (Q := Q11 Z a1 x2 h0 n0) A267 d11_4 Bd.notSynchronized Bd.returns rfl (Or.inr (Or.inr (Or.inl ⟨rfl, rfl, _, rfl⟩))) (by decide) (by decide) (by rw [e266]; exact ⟨rfl, N0, rfl⟩)
theorem d12_0 : decode prog_23_method_7_code 0 = .ok (.aload_n 0, 1) := by decide +kernel
theorem d12_1 : decode prog_23_method_7_code 1 = .ok (.getfield 17, 3) := by decide +kernel
theorem d12_4 : decode prog_23_method_7_code 4 = .ok (.dreturn, 1) := by decide +kernel
theorem ef268 (m : MethodId) (a1 : Addr) (x2 : UInt64) : entryFrame m #[(.ref a1)] 1 = mkF m 0 #[.val (.ref a1)] [] := by first | (simp [entryFrame, mkF, argsToLocals, Value.category]; done) | rfl
def Q12 (Z : State) (a1 : Addr) (x2 : UInt64) (h0 : Heap) (n0 : Nat) (v : Option Value) (h : Heap) (L : List Loc) : Prop := v = some (.double x2) ∧ Fr n0 L ∧ h = h0
set_option maxRecDepth 65536 in
set_option maxHeartbeats 40000000 in
theorem rm12 (l : Launch) (Z : State) (a0 : Array Value) (hw : ∀ d ∈ tables_1, d.before a0 Z = true) (ws : List Jvm.Cond) (a1 : Addr) (x2 : UInt64) (h0 : Heap) (n0 : Nat) (Z0 : n0 ≤ h0.size) (F269 : Fld Z h0 a1 "com/example/retinue/retinue/RetainerModel$Pool" "meanWaitSeconds" "D" (.double x2)) :
    MetFree l (⟨"com/example/retinue/retinue/RetainerModel$Pool", "meanWaitSeconds", "()D"⟩ : MethodName) (head1 (Jvm.Cond.code (⟨"com/example/retinue/retinue/RetainerModel$Pool", "meanWaitSeconds", "()D"⟩ : MethodName) prog_23_method_7_code 1 (some .double) :: ws) ({ frames := 0, cells := 0, slots := 0, locals := 0 } : Room)) (fun a U => a = #[(.ref a1)] ∧ Z.Warmed39 U.vm ∧ U.heap = h0) (fun _ _ _ _ _ => True) (fun _ U o U' => ∃ v L, o = .returned v ∧ Q12 Z a1 x2 h0 n0 v U'.heap L ∧ FrameEnd U o U' L 0 0) := by
  refine MetFree.of_bodySF (plainFor_of_name pn_4) hisR ?_
  intro p e s m args below meth c s₁ Bd hml0 hP hK
  obtain ⟨rfl, hZ, hh⟩ := hP
  have hx := Bd.exec
  have hby := Bd.bytes
  have hml : c.maxLocals = 1 := hml0
  have hown : s.vm.findClass "com/example/retinue/retinue/RetainerModel$Pool" = some m.cls := findClass_of_methodNamed Bd.named
  have hnm := (name_of_methodNamed Bd.named Bd.method).1
  have X0 : Stand p l e ({ frames := 0, cells := 0, slots := 0, locals := 0 } : Room) s m #[(.ref a1)] below meth c s₁ [] 0 0 := Stand.of_body Bd
  have e0 : s₁.heap = h0 := by rw [← hh, Bd.state]; rfl
  have N0 := Fr.nil n0
  have A0 := (⟨X0, hx, hby⟩ : Ax _ _ _ _ _ _ _ _ _ _ _ _ _ _ _)
  show Go p e below (fun U o => ∃ v L, o = .returned v ∧ Q12 Z a1 x2 h0 n0 v U.heap L ∧ FrameEnd s o U L 0 0) s₁ (entryFrame m #[(.ref a1)] 1)
  refine Go.cast (ef268 m a1 x2) ?_
  refine g_aloadN A0 d12_0 rfl rfl (pc' := 1) rfl ?_
  obtain ⟨T270, X270, e270, st270⟩ := getF X0 hx hZ hown (host := "") (Or.inl (hw _ (List.mem_of_getElem? (i := 65) rfl))) Via.refl e0 F269 (g := (mkF m 1 #[.val (.ref a1)] [(.ref a1)])) rfl rfl (hb hby d12_1)
  refine Go.of (g' := (mkF m 4 #[.val (.ref a1)] [(.double x2)])) st270 ?_
  have A271 := (⟨X270, hx, hby⟩ : Ax _ _ _ _ _ _ _ _ _ _ _ _ _ _ _)
  exact g_ret (Q := Q12 Z a1 x2 h0 n0) A271 d12_4 Bd.notSynchronized Bd.returns rfl (Or.inr (Or.inr (Or.inl ⟨rfl, rfl, _, rfl⟩))) (by decide) (by decide) (by rw [e270]; exact ⟨rfl, N0, rfl⟩)
theorem d13_0 : decode prog_23_method_8_code 0 = .ok (.aload_n 0, 1) := by decide +kernel
theorem d13_1 : decode prog_23_method_8_code 1 = .ok (.getfield 20, 3) := by decide +kernel
theorem d13_4 : decode prog_23_method_8_code 4 = .ok (.dreturn, 1) := by decide +kernel
theorem ef272 (m : MethodId) (a1 : Addr) (x2 : UInt64) : entryFrame m #[(.ref a1)] 1 = mkF m 0 #[.val (.ref a1)] [] := by first | (simp [entryFrame, mkF, argsToLocals, Value.category]; done) | rfl
def Q13 (Z : State) (a1 : Addr) (x2 : UInt64) (h0 : Heap) (n0 : Nat) (v : Option Value) (h : Heap) (L : List Loc) : Prop := v = some (.double x2) ∧ Fr n0 L ∧ h = h0
set_option maxRecDepth 65536 in
set_option maxHeartbeats 40000000 in
theorem rm13 (l : Launch) (Z : State) (a0 : Array Value) (hw : ∀ d ∈ tables_1, d.before a0 Z = true) (ws : List Jvm.Cond) (a1 : Addr) (x2 : UInt64) (h0 : Heap) (n0 : Nat) (Z0 : n0 ≤ h0.size) (F273 : Fld Z h0 a1 "com/example/retinue/retinue/RetainerModel$Pool" "idleWorkers" "D" (.double x2)) :
    MetFree l (⟨"com/example/retinue/retinue/RetainerModel$Pool", "idleWorkers", "()D"⟩ : MethodName) (head1 (Jvm.Cond.code (⟨"com/example/retinue/retinue/RetainerModel$Pool", "idleWorkers", "()D"⟩ : MethodName) prog_23_method_8_code 1 (some .double) :: ws) ({ frames := 0, cells := 0, slots := 0, locals := 0 } : Room)) (fun a U => a = #[(.ref a1)] ∧ Z.Warmed39 U.vm ∧ U.heap = h0) (fun _ _ _ _ _ => True) (fun _ U o U' => ∃ v L, o = .returned v ∧ Q13 Z a1 x2 h0 n0 v U'.heap L ∧ FrameEnd U o U' L 0 0) := by
  refine MetFree.of_bodySF (plainFor_of_name pn_4) hisR ?_
  intro p e s m args below meth c s₁ Bd hml0 hP hK
  obtain ⟨rfl, hZ, hh⟩ := hP
  have hx := Bd.exec
  have hby := Bd.bytes
  have hml : c.maxLocals = 1 := hml0
  have hown : s.vm.findClass "com/example/retinue/retinue/RetainerModel$Pool" = some m.cls := findClass_of_methodNamed Bd.named
  have hnm := (name_of_methodNamed Bd.named Bd.method).1
  have X0 : Stand p l e ({ frames := 0, cells := 0, slots := 0, locals := 0 } : Room) s m #[(.ref a1)] below meth c s₁ [] 0 0 := Stand.of_body Bd
  have e0 : s₁.heap = h0 := by rw [← hh, Bd.state]; rfl
  have N0 := Fr.nil n0
  have A0 := (⟨X0, hx, hby⟩ : Ax _ _ _ _ _ _ _ _ _ _ _ _ _ _ _)
  show Go p e below (fun U o => ∃ v L, o = .returned v ∧ Q13 Z a1 x2 h0 n0 v U.heap L ∧ FrameEnd s o U L 0 0) s₁ (entryFrame m #[(.ref a1)] 1)
  refine Go.cast (ef272 m a1 x2) ?_
  refine g_aloadN A0 d13_0 rfl rfl (pc' := 1) rfl ?_
  obtain ⟨T274, X274, e274, st274⟩ := getF X0 hx hZ hown (host := "") (Or.inl (hw _ (List.mem_of_getElem? (i := 67) rfl))) Via.refl e0 F273 (g := (mkF m 1 #[.val (.ref a1)] [(.ref a1)])) rfl rfl (hb hby d13_1)
  refine Go.of (g' := (mkF m 4 #[.val (.ref a1)] [(.double x2)])) st274 ?_
  have A275 := (⟨X274, hx, hby⟩ : Ax _ _ _ _ _ _ _ _ _ _ _ _ _ _ _)
  exact g_ret (Q := Q13 Z a1 x2 h0 n0) A275 d13_4 Bd.notSynchronized Bd.returns rfl (Or.inr (Or.inr (Or.inl ⟨rfl, rfl, _, rfl⟩))) (by decide) (by decide) (by rw [e274]; exact ⟨rfl, N0, rfl⟩)
theorem d14_0 : decode prog_23_method_9_code 0 = .ok (.aload_n 0, 1) := by decide +kernel
theorem d14_1 : decode prog_23_method_9_code 1 = .ok (.getfield 23, 3) := by decide +kernel
theorem d14_4 : decode prog_23_method_9_code 4 = .ok (.dreturn, 1) := by decide +kernel
theorem ef276 (m : MethodId) (a1 : Addr) (x2 : UInt64) : entryFrame m #[(.ref a1)] 1 = mkF m 0 #[.val (.ref a1)] [] := by first | (simp [entryFrame, mkF, argsToLocals, Value.category]; done) | rfl
def Q14 (Z : State) (a1 : Addr) (x2 : UInt64) (h0 : Heap) (n0 : Nat) (v : Option Value) (h : Heap) (L : List Loc) : Prop := v = some (.double x2) ∧ Fr n0 L ∧ h = h0
set_option maxRecDepth 65536 in
set_option maxHeartbeats 40000000 in
theorem rm14 (l : Launch) (Z : State) (a0 : Array Value) (hw : ∀ d ∈ tables_1, d.before a0 Z = true) (ws : List Jvm.Cond) (a1 : Addr) (x2 : UInt64) (h0 : Heap) (n0 : Nat) (Z0 : n0 ≤ h0.size) (F277 : Fld Z h0 a1 "com/example/retinue/retinue/RetainerModel$Pool" "costPerMinute" "D" (.double x2)) :
    MetFree l (⟨"com/example/retinue/retinue/RetainerModel$Pool", "costPerMinute", "()D"⟩ : MethodName) (head1 (Jvm.Cond.code (⟨"com/example/retinue/retinue/RetainerModel$Pool", "costPerMinute", "()D"⟩ : MethodName) prog_23_method_9_code 1 (some .double) :: ws) ({ frames := 0, cells := 0, slots := 0, locals := 0 } : Room)) (fun a U => a = #[(.ref a1)] ∧ Z.Warmed39 U.vm ∧ U.heap = h0) (fun _ _ _ _ _ => True) (fun _ U o U' => ∃ v L, o = .returned v ∧ Q14 Z a1 x2 h0 n0 v U'.heap L ∧ FrameEnd U o U' L 0 0) := by
  refine MetFree.of_bodySF (plainFor_of_name pn_4) hisR ?_
  intro p e s m args below meth c s₁ Bd hml0 hP hK
  obtain ⟨rfl, hZ, hh⟩ := hP
  have hx := Bd.exec
  have hby := Bd.bytes
  have hml : c.maxLocals = 1 := hml0
  have hown : s.vm.findClass "com/example/retinue/retinue/RetainerModel$Pool" = some m.cls := findClass_of_methodNamed Bd.named
  have hnm := (name_of_methodNamed Bd.named Bd.method).1
  have X0 : Stand p l e ({ frames := 0, cells := 0, slots := 0, locals := 0 } : Room) s m #[(.ref a1)] below meth c s₁ [] 0 0 := Stand.of_body Bd
  have e0 : s₁.heap = h0 := by rw [← hh, Bd.state]; rfl
  have N0 := Fr.nil n0
  have A0 := (⟨X0, hx, hby⟩ : Ax _ _ _ _ _ _ _ _ _ _ _ _ _ _ _)
  show Go p e below (fun U o => ∃ v L, o = .returned v ∧ Q14 Z a1 x2 h0 n0 v U.heap L ∧ FrameEnd s o U L 0 0) s₁ (entryFrame m #[(.ref a1)] 1)
  refine Go.cast (ef276 m a1 x2) ?_
  refine g_aloadN A0 d14_0 rfl rfl (pc' := 1) rfl ?_
  obtain ⟨T278, X278, e278, st278⟩ := getF X0 hx hZ hown (host := "") (Or.inl (hw _ (List.mem_of_getElem? (i := 69) rfl))) Via.refl e0 F277 (g := (mkF m 1 #[.val (.ref a1)] [(.ref a1)])) rfl rfl (hb hby d14_1)
  refine Go.of (g' := (mkF m 4 #[.val (.ref a1)] [(.double x2)])) st278 ?_
  have A279 := (⟨X278, hx, hby⟩ : Ax _ _ _ _ _ _ _ _ _ _ _ _ _ _ _)
  exact g_ret (Q := Q14 Z a1 x2 h0 n0) A279 d14_4 Bd.notSynchronized Bd.returns rfl (Or.inr (Or.inr (Or.inl ⟨rfl, rfl, _, rfl⟩))) (by decide) (by decide) (by rw [e278]; exact ⟨rfl, N0, rfl⟩)
theorem d5_0 : decode prog_22_method_2_code 0 = .ok (.aload_n 0, 1) := by decide +kernel
theorem d5_1 : decode prog_22_method_2_code 1 = .ok (.getfield 21, 3) := by decide +kernel
theorem d5_4 : decode prog_22_method_2_code 4 = .ok (.iload_n 1, 1) := by decide +kernel
theorem d5_5 : decode prog_22_method_2_code 5 = .ok (.invokevirtual 25, 3) := by decide +kernel
theorem d5_8 : decode prog_22_method_2_code 8 = .ok (.dstore_n 2, 1) := by decide +kernel
theorem d5_9 : decode prog_22_method_2_code 9 = .ok (.iload_n 1, 1) := by decide +kernel
theorem d5_10 : decode prog_22_method_2_code 10 = .ok (.i2d, 1) := by decide +kernel
theorem d5_11 : decode prog_22_method_2_code 11 = .ok (.aload_n 0, 1) := by decide +kernel
theorem d5_12 : decode prog_22_method_2_code 12 = .ok (.getfield 21, 3) := by decide +kernel
theorem d5_15 : decode prog_22_method_2_code 15 = .ok (.invokevirtual 29, 3) := by decide +kernel
theorem d5_18 : decode prog_22_method_2_code 18 = .ok (.dconst 1, 1) := by decide +kernel
theorem d5_19 : decode prog_22_method_2_code 19 = .ok (.dload_n 2, 1) := by decide +kernel
theorem d5_20 : decode prog_22_method_2_code 20 = .ok (.dsub, 1) := by decide +kernel
theorem d5_21 : decode prog_22_method_2_code 21 = .ok (.dmul, 1) := by decide +kernel
theorem d5_22 : decode prog_22_method_2_code 22 = .ok (.dsub, 1) := by decide +kernel
theorem d5_23 : decode prog_22_method_2_code 23 = .ok (.dstore 4, 2) := by decide +kernel
theorem d5_25 : decode prog_22_method_2_code 25 = .ok (.new 33, 3) := by decide +kernel
theorem d5_28 : decode prog_22_method_2_code 28 = .ok (.dup, 1) := by decide +kernel
theorem d5_29 : decode prog_22_method_2_code 29 = .ok (.iload_n 1, 1) := by decide +kernel
theorem d5_30 : decode prog_22_method_2_code 30 = .ok (.dload_n 2, 1) := by decide +kernel
theorem d5_31 : decode prog_22_method_2_code 31 = .ok (.dload_n 2, 1) := by decide +kernel
theorem d5_32 : decode prog_22_method_2_code 32 = .ok (.aload_n 0, 1) := by decide +kernel
theorem d5_33 : decode prog_22_method_2_code 33 = .ok (.getfield 7, 3) := by decide +kernel
theorem d5_36 : decode prog_22_method_2_code 36 = .ok (.dmul, 1) := by decide +kernel
theorem d5_37 : decode prog_22_method_2_code 37 = .ok (.dload 4, 2) := by decide +kernel
theorem d5_39 : decode prog_22_method_2_code 39 = .ok (.aload_n 0, 1) := by decide +kernel
theorem d5_40 : decode prog_22_method_2_code 40 = .ok (.getfield 13, 3) := by decide +kernel
theorem d5_43 : decode prog_22_method_2_code 43 = .ok (.dload 4, 2) := by decide +kernel
theorem d5_45 : decode prog_22_method_2_code 45 = .ok (.dmul, 1) := by decide +kernel
theorem d5_46 : decode prog_22_method_2_code 46 = .ok (.invokespecial 35, 3) := by decide +kernel
theorem d5_49 : decode prog_22_method_2_code 49 = .ok (.areturn, 1) := by decide +kernel
theorem ef280 (m : MethodId) (a1 : Addr) (n : Nat) (ee : Addr) (j : Nat) (a : UInt64) (md : UInt64) (sd : UInt64) : entryFrame m #[(.ref a1), (.int (Int32.ofNat n))] 6 = mkF m 0 #[.val (.ref a1), .val (.int (Int32.ofNat n)), .unset, .unset, .unset, .unset] [] := by first | (simp [entryFrame, mkF, argsToLocals, Value.category]; done) | rfl
def Q5 (Z : State) (a1 : Addr) (n : Nat) (ee : Addr) (j : Nat) (a : UInt64) (md : UInt64) (sd : UInt64) (h0 : Heap) (n0 : Nat) (v : Option Value) (h : Heap) (L : List Loc) : Prop := ∃ r : Addr, v = some (.ref r) ∧ Fr n0 L ∧ Keep h0 h [ee] ∧ h0.size ≤ r ∧ Exa Z h r "com/example/retinue/retinue/RetainerModel$Pool" ∧ Fld Z h r "com/example/retinue/retinue/RetainerModel$Pool" "size" "I" (.int (Int32.ofNat n)) ∧ Fld Z h r "com/example/retinue/retinue/RetainerModel$Pool" "emptyProbability" "D" (.double (own_B a n)) ∧ Fld Z h r "com/example/retinue/retinue/RetainerModel$Pool" "meanWaitSeconds" "D" (.double (FP.dmul (own_B a n) md)) ∧ Fld Z h r "com/example/retinue/retinue/RetainerModel$Pool" "idleWorkers" "D" (.double (own_id a (own_B a n) n)) ∧ Fld Z h r "com/example/retinue/retinue/RetainerModel$Pool" "costPerMinute" "D" (.double (FP.dmul sd (own_id a (own_B a n) n))) ∧ Fld Z h ee "com/example/retinue/retinue/ErlangB" "servers" "I" (.int (Int32.ofNat n)) ∧ Fld Z h ee "com/example/retinue/retinue/ErlangB" "blocking" "D" (.double (own_B a n)) ∧ Fld Z h ee "com/example/retinue/retinue/ErlangB" "load" "D" (.double a)
theorem pd_2 : parseMethodDescriptor "(I)D" = some ⟨[.int], some .double⟩ := by decide +kernel
theorem pd_3 : parseMethodDescriptor "()D" = some ⟨[], some .double⟩ := by decide +kernel
theorem pd_4 : parseMethodDescriptor "(IDDDD)V" = some ⟨[.int, .double, .double, .double, .double], none⟩ := by decide +kernel
set_option maxRecDepth 65536 in
set_option maxHeartbeats 40000000 in
theorem rm5 (l : Launch) (Z : State) (a0 : Array Value) (hw : ∀ d ∈ tables_1, d.before a0 Z = true) (ws : List Jvm.Cond) (a1 : Addr) (n : Nat) (ee : Addr) (j : Nat) (a : UInt64) (md : UInt64) (sd : UInt64) (h0 : Heap) (n0 : Nat) (Z0 : n0 ≤ h0.size) (F281 : Fld Z h0 a1 "com/example/retinue/retinue/RetainerModel" "meanRecruitSeconds" "D" (.double md)) (F282 : Fld Z h0 a1 "com/example/retinue/retinue/RetainerModel" "salaryPerMinute" "D" (.double sd)) (F283 : Fld Z h0 a1 "com/example/retinue/retinue/RetainerModel" "erlangB" "Lcom/example/retinue/retinue/ErlangB;" (.ref ee)) (E284 : Exa Z h0 a1 "com/example/retinue/retinue/RetainerModel") (E285 : Exa Z h0 ee "com/example/retinue/retinue/ErlangB") (F286 : Fld Z h0 ee "com/example/retinue/retinue/ErlangB" "servers" "I" (.int (Int32.ofNat j))) (F287 : Fld Z h0 ee "com/example/retinue/retinue/ErlangB" "blocking" "D" (.double (own_B a j))) (F288 : Fld Z h0 ee "com/example/retinue/retinue/ErlangB" "load" "D" (.double a)) (g289 : n0 ≤ ee) (ne290 : a1 ≠ ee) (hA : own_A a) (hn : n ≤ 4) (hj : j ≤ 1000) (hmd : Fin64 md) (hsd : Fin64 sd) :
    MetFree l (⟨"com/example/retinue/retinue/RetainerModel", "pool", "(I)Lcom/example/retinue/retinue/RetainerModel$Pool;"⟩ : MethodName) (head1 (Jvm.Cond.code (⟨"com/example/retinue/retinue/RetainerModel", "pool", "(I)Lcom/example/retinue/retinue/RetainerModel$Pool;"⟩ : MethodName) prog_22_method_2_code 6 (some (.object "com/example/retinue/retinue/RetainerModel$Pool")) :: ws) ({ frames := 3, cells := 1, slots := 5, locals := 46 } : Room)) (fun a U => a = #[(.ref a1), (.int (Int32.ofNat n))] ∧ Z.Warmed39 U.vm ∧ U.heap = h0) (fun _ _ _ _ _ => True) (fun _ U o U' => ∃ v L, o = .returned v ∧ Q5 Z a1 n ee j a md sd h0 n0 v U'.heap L ∧ FrameEnd U o U' L 1 5) := by
  refine MetFree.of_bodySF (plainFor_of_name pn_3) hisR ?_
  intro p e s m args below meth c s₁ Bd hml0 hP hK
  obtain ⟨rfl, hZ, hh⟩ := hP
  have hx := Bd.exec
  have hby := Bd.bytes
  have hml : c.maxLocals = 6 := hml0
  have hown : s.vm.findClass "com/example/retinue/retinue/RetainerModel" = some m.cls := findClass_of_methodNamed Bd.named
  have hnm := (name_of_methodNamed Bd.named Bd.method).1
  have X0 : Stand p l e ({ frames := 3, cells := 1, slots := 5, locals := 46 } : Room) s m #[(.ref a1), (.int (Int32.ofNat n))] below meth c s₁ [] 0 0 := Stand.of_body Bd
  have e0 : s₁.heap = h0 := by rw [← hh, Bd.state]; rfl
  have N0 := Fr.nil n0
  have A0 := (⟨X0, hx, hby⟩ : Ax _ _ _ _ _ _ _ _ _ _ _ _ _ _ _)
  show Go p e below (fun U o => ∃ v L, o = .returned v ∧ Q5 Z a1 n ee j a md sd h0 n0 v U.heap L ∧ FrameEnd s o U L 1 5) s₁ (entryFrame m #[(.ref a1), (.int (Int32.ofNat n))] 6)
  refine Go.cast (ef280 m a1 n ee j a md sd) ?_
  refine g_aloadN A0 d5_0 rfl rfl (pc' := 1) rfl ?_
  obtain ⟨T291, X291, e291, st291⟩ := getF X0 hx hZ hown (host := "") (Or.inl (hw _ (List.mem_of_getElem? (i := 30) rfl))) Via.refl e0 F283 (g := (mkF m 1 #[.val (.ref a1), .val (.int (Int32.ofNat n)), .unset, .unset, .unset, .unset] [(.ref a1)])) rfl rfl (hb hby d5_1)
  refine Go.of (g' := (mkF m 4 #[.val (.ref a1), .val (.int (Int32.ofNat n)), .unset, .unset, .unset, .unset] [(.ref ee)])) st291 ?_
  have A292 := (⟨X291, hx, hby⟩ : Ax _ _ _ _ _ _ _ _ _ _ _ _ _ _ _)
  refine g_iloadN A292 d5_4 rfl (pc' := 5) rfl ?_
  have hp293 : n ≤ 1000 := (by omega)
  obtain ⟨cq295, kq295, q295a, q295b, q295c⟩ := isOf hZ e291 E285
  obtain ⟨vv294, _, ⟨T294, L294, k294, n294⟩, -, X294, ⟨L294c, hQ294, l294, y294, z294⟩, st294⟩ := X291.virtualBack hx (y := (⟨"com/example/retinue/retinue/ErlangB", "blocking", "(I)D"⟩ : MethodName)) (z := (⟨"com/example/retinue/retinue/ErlangB", "blocking", "(I)D"⟩ : MethodName)) hown (mvT hZ (hw _ (List.mem_of_getElem? (i := 37) rfl))) (mvT hZ (hw _ (List.mem_of_getElem? (i := 38) rfl))) (notFace_of_selects (args := #[]) (mvT hZ (hw _ (List.mem_of_getElem? (i := 40) rfl)))) (mvT hZ (hw _ (List.mem_of_getElem? (i := 40) rfl))) (mvT hZ (hw _ (List.mem_of_getElem? (i := 39) rfl))) (by decide) (backOf (W := 0) (rm6 l Z a0 hw [] ee n j a h0 n0 Z0 E285 F286 F287 F288 g289 hA hp293 hj) hZ (hw _ (List.mem_of_getElem? (i := 41) rfl)) (hw _ (List.mem_of_getElem? (i := 20) rfl)) (by decide) (by decide)) q295a q295c (g := (mkF m 5 #[.val (.ref a1), .val (.int (Int32.ofNat n)), .unset, .unset, .unset, .unset] [(.int (Int32.ofNat n)), (.ref ee)])) rfl (by rw [hml]; rfl) (Steps.refl _) (argsL := [(.int (Int32.ofNat n))]) (rest := []) (lenOf pd_2 rfl) rfl (by show 2 * 0 + _ ≤ _; exact Nat.le_of_eq rfl) (hb hby d5_5) (fun _ _ => ⟨rfl, e291, (by decide : 0 + 0 ≤ _), (by decide : 0 + 0 ≤ _)⟩)
  have hQ294b : Q6 Z ee n j a h0 n0 vv294 T294.heap L294c := hQ294
  clear hQ294
  dsimp only [Pt.U, Pt.locs, Pt.cells, Pt.slots] at X294 l294 y294 z294 st294
  subst y294 z294
  obtain ⟨rfl, Nq296, Kq297, F298, F299, F300⟩ := hQ294b
  have N301 : Fr n0 L294 := by rw [l294]; exact Fr.app N0 Nq296
  refine Go.tr (g' := (mkF m 8 #[.val (.ref a1), .val (.int (Int32.ofNat n)), .unset, .unset, .unset, .unset] [(.double (own_B a n))])) st294 ?_
  have F302 : Fld Z T294.heap a1 "com/example/retinue/retinue/RetainerModel" "meanRecruitSeconds" "D" (.double md) := Fld.keep F281 Kq297 (ninS ne290 nin0)
  have F303 : Fld Z T294.heap a1 "com/example/retinue/retinue/RetainerModel" "salaryPerMinute" "D" (.double sd) := Fld.keep F282 Kq297 (ninS ne290 nin0)
  have F304 : Fld Z T294.heap a1 "com/example/retinue/retinue/RetainerModel" "erlangB" "Lcom/example/retinue/retinue/ErlangB;" (.ref ee) := Fld.keep F283 Kq297 (ninS ne290 nin0)
  have E305 : Exa Z T294.heap a1 "com/example/retinue/retinue/RetainerModel" := Exa.keep E284 Kq297
  have E306 : Exa Z T294.heap ee "com/example/retinue/retinue/ErlangB" := Exa.keep E285 Kq297
  have Z307 : n0 ≤ T294.heap.size := Nat.le_trans Z0 Kq297.1
  have K308 : Keep h0 T294.heap [ee] := (Keep.refl h0 [ee]).trans Kq297 (allS (Or.inl (List.mem_of_getElem? (i := 0) rfl)) all0)
  have A309 := (⟨X294, hx, hby⟩ : Ax _ _ _ _ _ _ _ _ _ _ _ _ _ _ _)
  refine g_dstoreN A309 d5_8 (ls' := #[.val (.ref a1), .val (.int (Int32.ofNat n)), .val (.double (own_B a n)), .second, .unset, .unset]) rfl (pc' := 9) rfl ?_
  refine g_iloadN A309 d5_9 rfl (pc' := 10) rfl ?_
  refine g_i2d A309 d5_10 (pc' := 11) rfl ?_
  refine g_aloadN A309 d5_11 rfl rfl (pc' := 12) rfl ?_
  obtain ⟨T310, X310, e310, st310⟩ := getF X294 hx hZ hown (host := "") (Or.inl (hw _ (List.mem_of_getElem? (i := 30) rfl))) Via.refl rfl F304 (g := (mkF m 12 #[.val (.ref a1), .val (.int (Int32.ofNat n)), .val (.double (own_B a n)), .second, .unset, .unset] [(.ref a1), (.double (FP.i2d (Int32.ofNat n)))])) rfl rfl (hb hby d5_12)
  refine Go.of (g' := (mkF m 15 #[.val (.ref a1), .val (.int (Int32.ofNat n)), .val (.double (own_B a n)), .second, .unset, .unset] [(.ref ee), (.double (FP.i2d (Int32.ofNat n)))])) st310 ?_
  have A311 := (⟨X310, hx, hby⟩ : Ax _ _ _ _ _ _ _ _ _ _ _ _ _ _ _)
  obtain ⟨cq313, kq313, q313a, q313b, q313c⟩ := isOf hZ e310 E306
  obtain ⟨vv312, _, ⟨T312, L312, k312, n312⟩, -, X312, ⟨L312c, hQ312, l312, y312, z312⟩, st312⟩ := X310.virtualBack hx (y := (⟨"com/example/retinue/retinue/ErlangB", "load", "()D"⟩ : MethodName)) (z := (⟨"com/example/retinue/retinue/ErlangB", "load", "()D"⟩ : MethodName)) hown (mvT hZ (hw _ (List.mem_of_getElem? (i := 44) rfl))) (mvT hZ (hw _ (List.mem_of_getElem? (i := 45) rfl))) (notFace_of_selects (args := #[]) (mvT hZ (hw _ (List.mem_of_getElem? (i := 47) rfl)))) (mvT hZ (hw _ (List.mem_of_getElem? (i := 47) rfl))) (mvT hZ (hw _ (List.mem_of_getElem? (i := 46) rfl))) (by decide) (backOf (W := 2) (rm7 l Z a0 hw [] ee a T294.heap n0 Z307 F300) hZ (hw _ (List.mem_of_getElem? (i := 48) rfl)) (hw _ (List.mem_of_getElem? (i := 20) rfl)) (by decide) (by decide)) q313a q313c (g := (mkF m 15 #[.val (.ref a1), .val (.int (Int32.ofNat n)), .val (.double (own_B a n)), .second, .unset, .unset] [(.ref ee), (.double (FP.i2d (Int32.ofNat n)))])) rfl (by rw [hml]; rfl) (Steps.refl _) (argsL := []) (rest := [(.double (FP.i2d (Int32.ofNat n)))]) (lenOf pd_3 rfl) rfl (by show 2 * 0 + _ ≤ _; exact Nat.le_of_eq rfl) (hb hby d5_15) (fun _ _ => ⟨rfl, e310, (by decide : 0 + 0 ≤ _), (by decide : 0 + 0 ≤ _)⟩)
  have hQ312b : Q7 Z ee a T294.heap n0 vv312 T312.heap L312c := hQ312
  clear hQ312
  dsimp only [Pt.U, Pt.locs, Pt.cells, Pt.slots] at X312 l312 y312 z312 st312
  subst y312 z312
  obtain ⟨rfl, Nq314, Kq315⟩ := hQ312b
  have N316 : Fr n0 L312 := by rw [l312]; exact Fr.app N301 Nq314
  refine Go.tr (g' := (mkF m 18 #[.val (.ref a1), .val (.int (Int32.ofNat n)), .val (.double (own_B a n)), .second, .unset, .unset] [(.double a), (.double (FP.i2d (Int32.ofNat n)))])) st312 ?_
  have e317 : T312.heap = T294.heap := Kq315
  have A318 := (⟨X312, hx, hby⟩ : Ax _ _ _ _ _ _ _ _ _ _ _ _ _ _ _)
  refine g_dconst1 A318 d5_18 (pc' := 19) rfl ?_
  refine g_dloadN A318 d5_19 rfl (pc' := 20) rfl ?_
  refine g_dsub A318 d5_20 (fin64_core.mpr (own_idf (k := 0) hA (own_BU hA n (by omega)) (by decide)).1).noNaN (pc' := 21) rfl ?_
  refine g_dmul A318 d5_21 (fin64_core.mpr (own_idf (k := 0) hA (own_BU hA n (by omega)) (by decide)).2.1).noNaN (pc' := 22) rfl ?_
  refine g_dsub A318 d5_22 (fin64_core.mpr (own_idf (k := n) hA (own_BU hA n (by omega)) (by omega)).2.2).noNaN (pc' := 23) rfl ?_
  rw [show (FP.dsub (FP.i2d (Int32.ofNat n)) (FP.dmul a (FP.dsub (4607182418800017408 : UInt64) (own_B a n)))) = own_id a (own_B a n) n from rfl]
  refine g_dstore A318 d5_23 (ls' := #[.val (.ref a1), .val (.int (Int32.ofNat n)), .val (.double (own_B a n)), .second, .val (.double (own_id a (own_B a n) n)), .second]) rfl (pc' := 25) rfl ?_
  obtain ⟨T319, h319, X319, e319, E319, EA319, D319, -, st319⟩ := newO X312 hx hZ hown (hw _ (List.mem_of_getElem? (i := 49) rfl)) (hw _ (List.mem_of_getElem? (i := 50) rfl)) (hw _ (List.mem_of_getElem? (i := 51) rfl)) e317 (g := (mkF m 25 #[.val (.ref a1), .val (.int (Int32.ofNat n)), .val (.double (own_B a n)), .second, .val (.double (own_id a (own_B a n) n)), .second] [])) rfl (hb hby d5_25) (by decide) (by decide)
  obtain ⟨a320, ea320⟩ : ∃ z, z = T294.heap.size := ⟨_, rfl⟩
  rw [← ea320] at EA319 D319 st319
  have ne321 : a1 ≠ a320 := own_ne ea320 F302.lt
  have ne322 : ee ≠ a320 := own_ne ea320 E306.lt
  have g323 : n0 ≤ a320 := by rw [ea320]; exact Z307
  have gh324 : h0.size ≤ a320 := by rw [ea320]; exact K308.1
  have K325 : Keep h0 h319 [ee] := K308.ext E319
  have F326 : Fld Z h319 a1 "com/example/retinue/retinue/RetainerModel" "meanRecruitSeconds" "D" (.double md) := Fld.ext E319 F302
  have F327 : Fld Z h319 a1 "com/example/retinue/retinue/RetainerModel" "salaryPerMinute" "D" (.double sd) := Fld.ext E319 F303
  have F328 : Fld Z h319 a1 "com/example/retinue/retinue/RetainerModel" "erlangB" "Lcom/example/retinue/retinue/ErlangB;" (.ref ee) := Fld.ext E319 F304
  have E329 : Exa Z h319 a1 "com/example/retinue/retinue/RetainerModel" := Exa.ext E319 E305
  have E330 : Exa Z h319 ee "com/example/retinue/retinue/ErlangB" := Exa.ext E319 E306
  have F331 : Fld Z h319 ee "com/example/retinue/retinue/ErlangB" "servers" "I" (.int (Int32.ofNat n)) := Fld.ext E319 F298
  have F332 : Fld Z h319 ee "com/example/retinue/retinue/ErlangB" "blocking" "D" (.double (own_B a n)) := Fld.ext E319 F299
  have F333 : Fld Z h319 ee "com/example/retinue/retinue/ErlangB" "load" "D" (.double a) := Fld.ext E319 F300
  have Z334 : n0 ≤ h319.size := Nat.le_trans Z307 E319.1
  have F335 : Fld Z h319 a320 "com/example/retinue/retinue/RetainerModel$Pool" "size" "I" (.int (0 : Int32)) := D319 (Or.inr (hw _ (List.mem_of_getElem? (i := 62) rfl))) (ty := .int) (by decide)
  have F336 : Fld Z h319 a320 "com/example/retinue/retinue/RetainerModel$Pool" "emptyProbability" "D" (.double (0 : UInt64)) := D319 (Or.inr (hw _ (List.mem_of_getElem? (i := 64) rfl))) (ty := .double) (by decide)
  have F337 : Fld Z h319 a320 "com/example/retinue/retinue/RetainerModel$Pool" "meanWaitSeconds" "D" (.double (0 : UInt64)) := D319 (Or.inr (hw _ (List.mem_of_getElem? (i := 66) rfl))) (ty := .double) (by decide)
  have F338 : Fld Z h319 a320 "com/example/retinue/retinue/RetainerModel$Pool" "idleWorkers" "D" (.double (0 : UInt64)) := D319 (Or.inr (hw _ (List.mem_of_getElem? (i := 68) rfl))) (ty := .double) (by decide)
  have F339 : Fld Z h319 a320 "com/example/retinue/retinue/RetainerModel$Pool" "costPerMinute" "D" (.double (0 : UInt64)) := D319 (Or.inr (hw _ (List.mem_of_getElem? (i := 70) rfl))) (ty := .double) (by decide)
  refine Go.of (g' := (mkF m 28 #[.val (.ref a1), .val (.int (Int32.ofNat n)), .val (.double (own_B a n)), .second, .val (.double (own_id a (own_B a n) n)), .second] [(.ref a320)])) st319 ?_
  have A340 := (⟨X319, hx, hby⟩ : Ax _ _ _ _ _ _ _ _ _ _ _ _ _ _ _)
  refine g_dup A340 d5_28 rfl (pc' := 29) rfl ?_
  refine g_iloadN A340 d5_29 rfl (pc' := 30) rfl ?_
  refine g_dloadN A340 d5_30 rfl (pc' := 31) rfl ?_
  refine g_dloadN A340 d5_31 rfl (pc' := 32) rfl ?_
  refine g_aloadN A340 d5_32 rfl rfl (pc' := 33) rfl ?_
  obtain ⟨T341, X341, e341, st341⟩ := getF X319 hx hZ hown (host := "") (Or.inl (hw _ (List.mem_of_getElem? (i := 14) rfl))) Via.refl e319 F326 (g := (mkF m 33 #[.val (.ref a1), .val (.int (Int32.ofNat n)), .val (.double (own_B a n)), .second, .val (.double (own_id a (own_B a n) n)), .second] [(.ref a1), (.double (own_B a n)), (.double (own_B a n)), (.int (Int32.ofNat n)), (.ref a320), (.ref a320)])) rfl rfl (hb hby d5_33)
  refine Go.of (g' := (mkF m 36 #[.val (.ref a1), .val (.int (Int32.ofNat n)), .val (.double (own_B a n)), .second, .val (.double (own_id a (own_B a n) n)), .second] [(.double md), (.double (own_B a n)), (.double (own_B a n)), (.int (Int32.ofNat n)), (.ref a320), (.ref a320)])) st341 ?_
  have A342 := (⟨X341, hx, hby⟩ : Ax _ _ _ _ _ _ _ _ _ _ _ _ _ _ _)
  refine g_dmul A342 d5_36 (dmul_out (own_Uf (own_BU hA n (by omega))) hmd) (pc' := 37) rfl ?_
  refine g_dload A342 d5_37 rfl (pc' := 39) rfl ?_
  refine g_aloadN A342 d5_39 rfl rfl (pc' := 40) rfl ?_
  obtain ⟨T343, X343, e343, st343⟩ := getF X341 hx hZ hown (host := "") (Or.inl (hw _ (List.mem_of_getElem? (i := 16) rfl))) Via.refl e341 F327 (g := (mkF m 40 #[.val (.ref a1), .val (.int (Int32.ofNat n)), .val (.double (own_B a n)), .second, .val (.double (own_id a (own_B a n) n)), .second] [(.ref a1), (.double (own_id a (own_B a n) n)), (.double (FP.dmul (own_B a n) md)), (.double (own_B a n)), (.int (Int32.ofNat n)), (.ref a320), (.ref a320)])) rfl rfl (hb hby d5_40)
  refine Go.of (g' := (mkF m 43 #[.val (.ref a1), .val (.int (Int32.ofNat n)), .val (.double (own_B a n)), .second, .val (.double (own_id a (own_B a n) n)), .second] [(.double sd), (.double (own_id a (own_B a n) n)), (.double (FP.dmul (own_B a n) md)), (.double (own_B a n)), (.int (Int32.ofNat n)), (.ref a320), (.ref a320)])) st343 ?_
  have A344 := (⟨X343, hx, hby⟩ : Ax _ _ _ _ _ _ _ _ _ _ _ _ _ _ _)
  refine g_dload A344 d5_43 rfl (pc' := 45) rfl ?_
  refine g_dmul A344 d5_45 (dmul_out hsd (fin64_core.mpr (own_idf (k := n) hA (own_BU hA n (by omega)) (by omega)).2.2)) (pc' := 46) rfl ?_
  obtain ⟨vv345, _, ⟨T345, L345, k345, n345⟩, -, X345, ⟨L345c, hQ345, l345, y345, z345⟩, st345⟩ := X343.specialBack hx (y := (⟨"com/example/retinue/retinue/RetainerModel$Pool", "<init>", "(IDDDD)V"⟩ : MethodName)) rfl hown (mvT hZ (hw _ (List.mem_of_getElem? (i := 52) rfl))) (mvT hZ (hw _ (List.mem_of_getElem? (i := 53) rfl))) (mvT hZ (hw _ (List.mem_of_getElem? (i := 54) rfl))) (by decide) (backOf (W := 1) (rm8 l Z a0 hw [] a320 (Int32.ofNat n) (own_B a n) (FP.dmul (own_B a n) md) (own_id a (own_B a n) n) (FP.dmul sd (own_id a (own_B a n) n)) (.int (0 : Int32)) (.double (0 : UInt64)) (.double (0 : UInt64)) (.double (0 : UInt64)) (.double (0 : UInt64)) h319 n0 Z334 EA319 F335 F336 F337 F338 F339 g323) hZ (hw _ (List.mem_of_getElem? (i := 54) rfl)) (hw _ (List.mem_of_getElem? (i := 51) rfl)) (by decide) (by decide)) (g := (mkF m 46 #[.val (.ref a1), .val (.int (Int32.ofNat n)), .val (.double (own_B a n)), .second, .val (.double (own_id a (own_B a n) n)), .second] [(.double (FP.dmul sd (own_id a (own_B a n) n))), (.double (own_id a (own_B a n) n)), (.double (FP.dmul (own_B a n) md)), (.double (own_B a n)), (.int (Int32.ofNat n)), (.ref a320), (.ref a320)])) rfl (by rw [hml]; rfl) (Steps.refl _) (a := a320) (argsL := [(.int (Int32.ofNat n)), (.double (own_B a n)), (.double (FP.dmul (own_B a n) md)), (.double (own_id a (own_B a n) n)), (.double (FP.dmul sd (own_id a (own_B a n) n)))]) (rest := [(.ref a320)]) (lenOf pd_4 rfl) rfl (by show 2 * 0 + _ ≤ _; exact Nat.le_of_eq rfl) (hb hby d5_46) (fun _ _ => ⟨rfl, e343, (by decide : 1 + 0 ≤ _), (by decide : 5 + 0 ≤ _)⟩)
  have hQ345b : Q8 Z a320 (Int32.ofNat n) (own_B a n) (FP.dmul (own_B a n) md) (own_id a (own_B a n) n) (FP.dmul sd (own_id a (own_B a n) n)) (.int (0 : Int32)) (.double (0 : UInt64)) (.double (0 : UInt64)) (.double (0 : UInt64)) (.double (0 : UInt64)) h319 n0 vv345 T345.heap L345c := hQ345
  clear hQ345
  dsimp only [Pt.U, Pt.locs, Pt.cells, Pt.slots] at X345 l345 y345 z345 st345
  subst y345 z345
  obtain ⟨rfl, Nq346, Kq347, F348, F349, F350, F351, F352⟩ := hQ345b
  have N353 : Fr n0 L345 := by rw [l345]; exact Fr.app N316 Nq346
  refine Go.tr (g' := (mkF m 49 #[.val (.ref a1), .val (.int (Int32.ofNat n)), .val (.double (own_B a n)), .second, .val (.double (own_id a (own_B a n) n)), .second] [(.ref a320)])) st345 ?_
  have F354 : Fld Z T345.heap a1 "com/example/retinue/retinue/RetainerModel" "meanRecruitSeconds" "D" (.double md) := Fld.keep F326 Kq347 (ninS ne321 nin0)
  have F355 : Fld Z T345.heap a1 "com/example/retinue/retinue/RetainerModel" "salaryPerMinute" "D" (.double sd) := Fld.keep F327 Kq347 (ninS ne321 nin0)
  have F356 : Fld Z T345.heap a1 "com/example/retinue/retinue/RetainerModel" "erlangB" "Lcom/example/retinue/retinue/ErlangB;" (.ref ee) := Fld.keep F328 Kq347 (ninS ne321 nin0)
  have E357 : Exa Z T345.heap a1 "com/example/retinue/retinue/RetainerModel" := Exa.keep E329 Kq347
  have E358 : Exa Z T345.heap ee "com/example/retinue/retinue/ErlangB" := Exa.keep E330 Kq347
  have F359 : Fld Z T345.heap ee "com/example/retinue/retinue/ErlangB" "servers" "I" (.int (Int32.ofNat n)) := Fld.keep F331 Kq347 (ninS ne322 nin0)
  have F360 : Fld Z T345.heap ee "com/example/retinue/retinue/ErlangB" "blocking" "D" (.double (own_B a n)) := Fld.keep F332 Kq347 (ninS ne322 nin0)
  have F361 : Fld Z T345.heap ee "com/example/retinue/retinue/ErlangB" "load" "D" (.double a) := Fld.keep F333 Kq347 (ninS ne322 nin0)
  have E362 : Exa Z T345.heap a320 "com/example/retinue/retinue/RetainerModel$Pool" := Exa.keep EA319 Kq347
  have Z363 : n0 ≤ T345.heap.size := Nat.le_trans Z334 Kq347.1
  have K364 : Keep h0 T345.heap [ee] := K325.trans Kq347 (allS (Or.inr gh324) all0)
  have A365 := (⟨X345, hx, hby⟩ : Ax _ _ _ _ _ _ _ _ _ _ _ _ _ _ _)
  exact g_ret (Q := Q5 Z a1 n ee j a md sd h0 n0) A365 d5_49 Bd.notSynchronized Bd.returns rfl (Or.inr (Or.inr (Or.inr (Or.inr ⟨rfl, rfl, rfl⟩)))) (by decide) (by decide) ⟨a320, rfl, N353, K364, gh324, E362, F348, F349, F350, F351, F352, F359, F360, F361⟩
theorem ef366 (m : MethodId) (p0 : Int32) (p1 : Int32) (p2 : Int32) (p3 : Int32) (p4 : Int32) : entryFrame m #[(.int p0), (.int p1), (.int p2), (.int p3), (.int p4)] maxLocals = mkF m 0 #[.val (.int p0), .val (.int p1), .val (.int p2), .val (.int p3), .val (.int p4), .unset, .unset, .unset, .unset, .unset, .unset, .unset, .unset, .unset, .unset, .unset, .unset, .unset, .unset, .unset, .unset, .unset, .unset, .unset, .unset, .unset, .unset, .unset, .unset] [] := by first | (simp [entryFrame, mkF, argsToLocals, Value.category, maxLocals]; done) | rfl
def Q0 (Z : State) (p0 : Int32) (p1 : Int32) (p2 : Int32) (p3 : Int32) (p4 : Int32) (h0 : Heap) (n0 : Nat) (v : Option Value) (h : Heap) (L : List Loc) : Prop := v = some (.int 1) ∧ Fr n0 L
theorem pd_5 : parseMethodDescriptor "(DI)D" = some ⟨[.double, .int], some .double⟩ := by decide +kernel
theorem pd_6 : parseMethodDescriptor "(DDD)V" = some ⟨[.double, .double, .double], none⟩ := by decide +kernel
theorem pd_7 : parseMethodDescriptor "(I)Lcom/example/retinue/retinue/RetainerModel$Pool;" = some ⟨[.int], some (.object "com/example/retinue/retinue/RetainerModel$Pool")⟩ := by decide +kernel
theorem pd_8 : parseMethodDescriptor "()I" = some ⟨[], some .int⟩ := by decide +kernel
set_option maxRecDepth 65536 in
set_option maxHeartbeats 40000000 in
theorem rm0 (l : Launch) (Z : State) (a0 : Array Value) (hw : ∀ d ∈ tables_1, d.before a0 Z = true) (ws : List Jvm.Cond) (p0 : Int32) (p1 : Int32) (p2 : Int32) (p3 : Int32) (p4 : Int32) (h0 : Heap) (n0 : Nat) (Z0 : n0 ≤ h0.size)  :
    MetFree l x (head1 (Jvm.Cond.code x code maxLocals ret :: ws) room_1) (fun a U => a = #[(.int p0), (.int p1), (.int p2), (.int p3), (.int p4)] ∧ Z.Warmed39 U.vm ∧ U.heap = h0) (fun _ _ _ _ _ => True) (fun _ U o U' => ∃ v L, o = .returned v ∧ Q0 Z p0 p1 p2 p3 p4 h0 n0 v U'.heap L ∧ FrameEnd U o U' L 4 16) := by
  refine MetFree.of_bodySF (plainFor_of_name pn_2) hisR ?_
  intro p e s m args below meth c s₁ Bd hml0 hP hK
  obtain ⟨rfl, hZ, hh⟩ := hP
  have hx := Bd.exec
  have hby := Bd.bytes
  have hml : c.maxLocals = 29 := hml0
  have hown : s.vm.findClass "com/example/retinue/retinue/RetainerModelPoolPinLaw" = some m.cls := findClass_of_methodNamed Bd.named
  have hnm := (name_of_methodNamed Bd.named Bd.method).1
  have X0 : Stand p l e room_1 s m #[(.int p0), (.int p1), (.int p2), (.int p3), (.int p4)] below meth c s₁ [] 0 0 := Stand.of_body Bd
  have e0 : s₁.heap = h0 := by rw [← hh, Bd.state]; rfl
  have N0 := Fr.nil n0
  have A0 := (⟨X0, hx, hby⟩ : Ax _ _ _ _ _ _ _ _ _ _ _ _ _ _ _)
  show Go p e below (fun U o => ∃ v L, o = .returned v ∧ Q0 Z p0 p1 p2 p3 p4 h0 n0 v U.heap L ∧ FrameEnd s o U L 4 16) s₁ (entryFrame m #[(.int p0), (.int p1), (.int p2), (.int p3), (.int p4)] maxLocals)
  refine Go.cast (ef366 m p0 p1 p2 p3 p4) ?_
  refine g_iloadN A0 at_0 rfl (pc' := 1) rfl ?_
  refine g_bipush A0 at_1 (v := (31 : Int32)) rfl (pc' := 3) rfl ?_
  refine g_iand A0 at_3 (pc' := 4) rfl ?_
  refine g_istore A0 at_4 (ls' := #[.val (.int p0), .val (.int p1), .val (.int p2), .val (.int p3), .val (.int p4), .val (.int (p0 &&& (31 : Int32))), .unset, .unset, .unset, .unset, .unset, .unset, .unset, .unset, .unset, .unset, .unset, .unset, .unset, .unset, .unset, .unset, .unset, .unset, .unset, .unset, .unset, .unset, .unset]) rfl (pc' := 6) rfl ?_
  refine g_iloadN A0 at_6 rfl (pc' := 7) rfl ?_
  refine g_bipush A0 at_7 (v := (31 : Int32)) rfl (pc' := 9) rfl ?_
  refine g_iand A0 at_9 (pc' := 10) rfl ?_
  refine g_istore A0 at_10 (ls' := #[.val (.int p0), .val (.int p1), .val (.int p2), .val (.int p3), .val (.int p4), .val (.int (p0 &&& (31 : Int32))), .val (.int (p1 &&& (31 : Int32))), .unset, .unset, .unset, .unset, .unset, .unset, .unset, .unset, .unset, .unset, .unset, .unset, .unset, .unset, .unset, .unset, .unset, .unset, .unset, .unset, .unset, .unset]) rfl (pc' := 12) rfl ?_
  refine g_iloadN A0 at_12 rfl (pc' := 13) rfl ?_
  refine g_ldcI A0 hZ hown (hw _ (List.mem_of_getElem? (i := 0) rfl)) at_13 (pc' := 15) rfl ?_
  refine g_iand A0 at_15 (pc' := 16) rfl ?_
  refine g_iconst A0 at_16 (v := (5 : Int32)) rfl (pc' := 17) rfl ?_
  refine g_irem A0 at_17 (by decide) (pc' := 18) rfl ?_
  obtain ⟨k367, hk368, ek369⟩ := own_mod (p3 &&& (2147483647 : Int32)) 5 5 (by decide) (by decide) rfl (own_m31 p3)
  rw [ek369]
  refine g_istore A0 at_18 (ls' := #[.val (.int p0), .val (.int p1), .val (.int p2), .val (.int p3), .val (.int p4), .val (.int (p0 &&& (31 : Int32))), .val (.int (p1 &&& (31 : Int32))), .val (.int (Int32.ofNat k367)), .unset, .unset, .unset, .unset, .unset, .unset, .unset, .unset, .unset, .unset, .unset, .unset, .unset, .unset, .unset, .unset, .unset, .unset, .unset, .unset, .unset]) rfl (pc' := 20) rfl ?_
  refine g_iload A0 at_20 rfl (pc' := 22) rfl ?_
  refine g_ldcI A0 hZ hown (hw _ (List.mem_of_getElem? (i := 0) rfl)) at_22 (pc' := 24) rfl ?_
  refine g_iand A0 at_24 (pc' := 25) rfl ?_
  refine g_iconst A0 at_25 (v := (5 : Int32)) rfl (pc' := 26) rfl ?_
  refine g_irem A0 at_26 (by decide) (pc' := 27) rfl ?_
  obtain ⟨k370, hk371, ek372⟩ := own_mod (p4 &&& (2147483647 : Int32)) 5 5 (by decide) (by decide) rfl (own_m31 p4)
  rw [ek372]
  refine g_istore A0 at_27 (ls' := #[.val (.int p0), .val (.int p1), .val (.int p2), .val (.int p3), .val (.int p4), .val (.int (p0 &&& (31 : Int32))), .val (.int (p1 &&& (31 : Int32))), .val (.int (Int32.ofNat k367)), .val (.int (Int32.ofNat k370)), .unset, .unset, .unset, .unset, .unset, .unset, .unset, .unset, .unset, .unset, .unset, .unset, .unset, .unset, .unset, .unset, .unset, .unset, .unset, .unset]) rfl (pc' := 29) rfl ?_
  refine g_iload A0 at_29 rfl (pc' := 31) rfl ?_
  refine g_i2d A0 at_31 (pc' := 32) rfl ?_
  refine g_dstore A0 at_32 (ls' := #[.val (.int p0), .val (.int p1), .val (.int p2), .val (.int p3), .val (.int p4), .val (.int (p0 &&& (31 : Int32))), .val (.int (p1 &&& (31 : Int32))), .val (.int (Int32.ofNat k367)), .val (.int (Int32.ofNat k370)), .val (.double (FP.i2d (p0 &&& (31 : Int32)))), .second, .unset, .unset, .unset, .unset, .unset, .unset, .unset, .unset, .unset, .unset, .unset, .unset, .unset, .unset, .unset, .unset, .unset, .unset]) rfl (pc' := 34) rfl ?_
  refine g_iload A0 at_34 rfl (pc' := 36) rfl ?_
  refine g_i2d A0 at_36 (pc' := 37) rfl ?_
  refine g_dstore A0 at_37 (ls' := #[.val (.int p0), .val (.int p1), .val (.int p2), .val (.int p3), .val (.int p4), .val (.int (p0 &&& (31 : Int32))), .val (.int (p1 &&& (31 : Int32))), .val (.int (Int32.ofNat k367)), .val (.int (Int32.ofNat k370)), .val (.double (FP.i2d (p0 &&& (31 : Int32)))), .second, .val (.double (FP.i2d (p1 &&& (31 : Int32)))), .second, .unset, .unset, .unset, .unset, .unset, .unset, .unset, .unset, .unset, .unset, .unset, .unset, .unset, .unset, .unset, .unset]) rfl (pc' := 39) rfl ?_
  refine g_iloadN A0 at_39 rfl (pc' := 40) rfl ?_
  refine g_i2d A0 at_40 (pc' := 41) rfl ?_
  refine g_dstore A0 at_41 (ls' := #[.val (.int p0), .val (.int p1), .val (.int p2), .val (.int p3), .val (.int p4), .val (.int (p0 &&& (31 : Int32))), .val (.int (p1 &&& (31 : Int32))), .val (.int (Int32.ofNat k367)), .val (.int (Int32.ofNat k370)), .val (.double (FP.i2d (p0 &&& (31 : Int32)))), .second, .val (.double (FP.i2d (p1 &&& (31 : Int32)))), .second, .val (.double (FP.i2d p2)), .second, .unset, .unset, .unset, .unset, .unset, .unset, .unset, .unset, .unset, .unset, .unset, .unset, .unset, .unset]) rfl (pc' := 43) rfl ?_
  refine g_dload A0 at_43 rfl (pc' := 45) rfl ?_
  refine g_dload A0 at_45 rfl (pc' := 47) rfl ?_
  refine g_dmul A0 at_47 (own_ndmul (i2d_fin (p0 &&& (31 : Int32))) (i2d_fin (p1 &&& (31 : Int32)))) (pc' := 48) rfl ?_
  obtain ⟨a373, ha373⟩ : ∃ z : UInt64, z = (FP.dmul (FP.i2d (p0 &&& (31 : Int32))) (FP.i2d (p1 &&& (31 : Int32)))) := ⟨_, rfl⟩
  rw [← ha373]
  have hA : own_A a373 := by rw [ha373]; exact own_a p0 p1
  refine g_dstore A0 at_48 (ls' := #[.val (.int p0), .val (.int p1), .val (.int p2), .val (.int p3), .val (.int p4), .val (.int (p0 &&& (31 : Int32))), .val (.int (p1 &&& (31 : Int32))), .val (.int (Int32.ofNat k367)), .val (.int (Int32.ofNat k370)), .val (.double (FP.i2d (p0 &&& (31 : Int32)))), .second, .val (.double (FP.i2d (p1 &&& (31 : Int32)))), .second, .val (.double (FP.i2d p2)), .second, .val (.double a373), .second, .unset, .unset, .unset, .unset, .unset, .unset, .unset, .unset, .unset, .unset, .unset, .unset]) rfl (pc' := 50) rfl ?_
  refine g_dload A0 at_50 rfl (pc' := 52) rfl ?_
  refine g_iload A0 at_52 rfl (pc' := 54) rfl ?_
  have hp374 : k367 ≤ 4 := (by omega)
  obtain ⟨vv375, _, ⟨T375, L375, k375, n375⟩, -, X375, ⟨L375c, hQ375, l375, y375, z375⟩, st375⟩ := Jvm.LawKit.callS X0 hx (y := (⟨"com/example/retinue/retinue/RetainerModelPoolPinLaw", "erlang", "(DI)D"⟩ : MethodName)) hown (mvT hZ (hw _ (List.mem_of_getElem? (i := 1) rfl))) (mvT hZ (hw _ (List.mem_of_getElem? (i := 2) rfl))) (mvT hZ (hw _ (List.mem_of_getElem? (i := 3) rfl))) (mvT hZ (hw _ (List.mem_of_getElem? (i := 4) rfl))) (by decide) (backOf (W := 0) (rm1 l Z a0 hw [] a373 k367 h0 n0 Z0 hA hp374) hZ (hw _ (List.mem_of_getElem? (i := 4) rfl)) (hw _ (List.mem_of_getElem? (i := 3) rfl)) (by decide) (by decide)) (g := (mkF m 54 #[.val (.int p0), .val (.int p1), .val (.int p2), .val (.int p3), .val (.int p4), .val (.int (p0 &&& (31 : Int32))), .val (.int (p1 &&& (31 : Int32))), .val (.int (Int32.ofNat k367)), .val (.int (Int32.ofNat k370)), .val (.double (FP.i2d (p0 &&& (31 : Int32)))), .second, .val (.double (FP.i2d (p1 &&& (31 : Int32)))), .second, .val (.double (FP.i2d p2)), .second, .val (.double a373), .second, .unset, .unset, .unset, .unset, .unset, .unset, .unset, .unset, .unset, .unset, .unset, .unset] [(.int (Int32.ofNat k367)), (.double a373)])) rfl (by rw [hml]; rfl) (argsL := [(.double a373), (.int (Int32.ofNat k367))]) (rest := []) (lenOf pd_5 rfl) rfl (by show 2 * 0 + _ ≤ _; exact Nat.le_of_eq rfl) (hb hby at_54) (fun _ _ => ⟨rfl, e0, (by decide : 0 + 0 ≤ _), (by decide : 0 + 0 ≤ _)⟩)
  have hQ375b : Q1 Z a373 k367 h0 n0 vv375 T375.heap L375c := hQ375
  clear hQ375
  dsimp only [Pt.U, Pt.locs, Pt.cells, Pt.slots] at X375 l375 y375 z375 st375
  subst y375 z375
  obtain ⟨rfl, Nq376, Kq377⟩ := hQ375b
  have N378 : Fr n0 L375 := by rw [l375]; exact Fr.app N0 Nq376
  refine Go.of (g' := (mkF m 57 #[.val (.int p0), .val (.int p1), .val (.int p2), .val (.int p3), .val (.int p4), .val (.int (p0 &&& (31 : Int32))), .val (.int (p1 &&& (31 : Int32))), .val (.int (Int32.ofNat k367)), .val (.int (Int32.ofNat k370)), .val (.double (FP.i2d (p0 &&& (31 : Int32)))), .second, .val (.double (FP.i2d (p1 &&& (31 : Int32)))), .second, .val (.double (FP.i2d p2)), .second, .val (.double a373), .second, .unset, .unset, .unset, .unset, .unset, .unset, .unset, .unset, .unset, .unset, .unset, .unset] [(.double (own_B a373 k367))])) st375 ?_
  have e379 : T375.heap = h0 := Kq377
  have A380 := (⟨X375, hx, hby⟩ : Ax _ _ _ _ _ _ _ _ _ _ _ _ _ _ _)
  refine g_dstore A380 at_57 (ls' := #[.val (.int p0), .val (.int p1), .val (.int p2), .val (.int p3), .val (.int p4), .val (.int (p0 &&& (31 : Int32))), .val (.int (p1 &&& (31 : Int32))), .val (.int (Int32.ofNat k367)), .val (.int (Int32.ofNat k370)), .val (.double (FP.i2d (p0 &&& (31 : Int32)))), .second, .val (.double (FP.i2d (p1 &&& (31 : Int32)))), .second, .val (.double (FP.i2d p2)), .second, .val (.double a373), .second, .val (.double (own_B a373 k367)), .second, .unset, .unset, .unset, .unset, .unset, .unset, .unset, .unset, .unset, .unset]) rfl (pc' := 59) rfl ?_
  refine g_iload A380 at_59 rfl (pc' := 61) rfl ?_
  refine g_i2d A380 at_61 (pc' := 62) rfl ?_
  refine g_dload A380 at_62 rfl (pc' := 64) rfl ?_
  refine g_dconst1 A380 at_64 (pc' := 65) rfl ?_
  refine g_dload A380 at_65 rfl (pc' := 67) rfl ?_
  refine g_dsub A380 at_67 (fin64_core.mpr (own_idf (k := k367) hA (own_BU hA k367 (by omega)) (by omega)).1).noNaN (pc' := 68) rfl ?_
  refine g_dmul A380 at_68 (fin64_core.mpr (own_idf (k := k367) hA (own_BU hA k367 (by omega)) (by omega)).2.1).noNaN (pc' := 69) rfl ?_
  refine g_dsub A380 at_69 (fin64_core.mpr (own_idf (k := k367) hA (own_BU hA k367 (by omega)) (by omega)).2.2).noNaN (pc' := 70) rfl ?_
  rw [show (FP.dsub (FP.i2d (Int32.ofNat k367)) (FP.dmul a373 (FP.dsub (4607182418800017408 : UInt64) (own_B a373 k367)))) = (own_id a373 (own_B a373 k367) k367) from rfl]
  refine g_dstore A380 at_70 (ls' := #[.val (.int p0), .val (.int p1), .val (.int p2), .val (.int p3), .val (.int p4), .val (.int (p0 &&& (31 : Int32))), .val (.int (p1 &&& (31 : Int32))), .val (.int (Int32.ofNat k367)), .val (.int (Int32.ofNat k370)), .val (.double (FP.i2d (p0 &&& (31 : Int32)))), .second, .val (.double (FP.i2d (p1 &&& (31 : Int32)))), .second, .val (.double (FP.i2d p2)), .second, .val (.double a373), .second, .val (.double (own_B a373 k367)), .second, .val (.double (own_id a373 (own_B a373 k367) k367)), .second, .unset, .unset, .unset, .unset, .unset, .unset, .unset, .unset]) rfl (pc' := 72) rfl ?_
  refine g_dload A380 at_72 rfl (pc' := 74) rfl ?_
  refine g_iload A380 at_74 rfl (pc' := 76) rfl ?_
  have hp381 : k370 ≤ 4 := (by omega)
  obtain ⟨vv382, _, ⟨T382, L382, k382, n382⟩, -, X382, ⟨L382c, hQ382, l382, y382, z382⟩, st382⟩ := Jvm.LawKit.callS X375 hx (y := (⟨"com/example/retinue/retinue/RetainerModelPoolPinLaw", "erlang", "(DI)D"⟩ : MethodName)) hown (mvT hZ (hw _ (List.mem_of_getElem? (i := 1) rfl))) (mvT hZ (hw _ (List.mem_of_getElem? (i := 2) rfl))) (mvT hZ (hw _ (List.mem_of_getElem? (i := 3) rfl))) (mvT hZ (hw _ (List.mem_of_getElem? (i := 4) rfl))) (by decide) (backOf (W := 0) (rm1 l Z a0 hw [] a373 k370 h0 n0 Z0 hA hp381) hZ (hw _ (List.mem_of_getElem? (i := 4) rfl)) (hw _ (List.mem_of_getElem? (i := 3) rfl)) (by decide) (by decide)) (g := (mkF m 76 #[.val (.int p0), .val (.int p1), .val (.int p2), .val (.int p3), .val (.int p4), .val (.int (p0 &&& (31 : Int32))), .val (.int (p1 &&& (31 : Int32))), .val (.int (Int32.ofNat k367)), .val (.int (Int32.ofNat k370)), .val (.double (FP.i2d (p0 &&& (31 : Int32)))), .second, .val (.double (FP.i2d (p1 &&& (31 : Int32)))), .second, .val (.double (FP.i2d p2)), .second, .val (.double a373), .second, .val (.double (own_B a373 k367)), .second, .val (.double (own_id a373 (own_B a373 k367) k367)), .second, .unset, .unset, .unset, .unset, .unset, .unset, .unset, .unset] [(.int (Int32.ofNat k370)), (.double a373)])) rfl (by rw [hml]; rfl) (argsL := [(.double a373), (.int (Int32.ofNat k370))]) (rest := []) (lenOf pd_5 rfl) rfl (by show 2 * 0 + _ ≤ _; exact Nat.le_of_eq rfl) (hb hby at_76) (fun _ _ => ⟨rfl, e379, (by decide : 0 + 0 ≤ _), (by decide : 0 + 0 ≤ _)⟩)
  have hQ382b : Q1 Z a373 k370 h0 n0 vv382 T382.heap L382c := hQ382
  clear hQ382
  dsimp only [Pt.U, Pt.locs, Pt.cells, Pt.slots] at X382 l382 y382 z382 st382
  subst y382 z382
  obtain ⟨rfl, Nq383, Kq384⟩ := hQ382b
  have N385 : Fr n0 L382 := by rw [l382]; exact Fr.app N378 Nq383
  refine Go.of (g' := (mkF m 79 #[.val (.int p0), .val (.int p1), .val (.int p2), .val (.int p3), .val (.int p4), .val (.int (p0 &&& (31 : Int32))), .val (.int (p1 &&& (31 : Int32))), .val (.int (Int32.ofNat k367)), .val (.int (Int32.ofNat k370)), .val (.double (FP.i2d (p0 &&& (31 : Int32)))), .second, .val (.double (FP.i2d (p1 &&& (31 : Int32)))), .second, .val (.double (FP.i2d p2)), .second, .val (.double a373), .second, .val (.double (own_B a373 k367)), .second, .val (.double (own_id a373 (own_B a373 k367) k367)), .second, .unset, .unset, .unset, .unset, .unset, .unset, .unset, .unset] [(.double (own_B a373 k370))])) st382 ?_
  have e386 : T382.heap = h0 := Kq384
  have A387 := (⟨X382, hx, hby⟩ : Ax _ _ _ _ _ _ _ _ _ _ _ _ _ _ _)
  refine g_dstore A387 at_79 (ls' := #[.val (.int p0), .val (.int p1), .val (.int p2), .val (.int p3), .val (.int p4), .val (.int (p0 &&& (31 : Int32))), .val (.int (p1 &&& (31 : Int32))), .val (.int (Int32.ofNat k367)), .val (.int (Int32.ofNat k370)), .val (.double (FP.i2d (p0 &&& (31 : Int32)))), .second, .val (.double (FP.i2d (p1 &&& (31 : Int32)))), .second, .val (.double (FP.i2d p2)), .second, .val (.double a373), .second, .val (.double (own_B a373 k367)), .second, .val (.double (own_id a373 (own_B a373 k367) k367)), .second, .val (.double (own_B a373 k370)), .second, .unset, .unset, .unset, .unset, .unset, .unset]) rfl (pc' := 81) rfl ?_
  refine g_iload A387 at_81 rfl (pc' := 83) rfl ?_
  refine g_i2d A387 at_83 (pc' := 84) rfl ?_
  refine g_dload A387 at_84 rfl (pc' := 86) rfl ?_
  refine g_dconst1 A387 at_86 (pc' := 87) rfl ?_
  refine g_dload A387 at_87 rfl (pc' := 89) rfl ?_
  refine g_dsub A387 at_89 (fin64_core.mpr (own_idf (k := k370) hA (own_BU hA k370 (by omega)) (by omega)).1).noNaN (pc' := 90) rfl ?_
  refine g_dmul A387 at_90 (fin64_core.mpr (own_idf (k := k370) hA (own_BU hA k370 (by omega)) (by omega)).2.1).noNaN (pc' := 91) rfl ?_
  refine g_dsub A387 at_91 (fin64_core.mpr (own_idf (k := k370) hA (own_BU hA k370 (by omega)) (by omega)).2.2).noNaN (pc' := 92) rfl ?_
  rw [show (FP.dsub (FP.i2d (Int32.ofNat k370)) (FP.dmul a373 (FP.dsub (4607182418800017408 : UInt64) (own_B a373 k370)))) = (own_id a373 (own_B a373 k370) k370) from rfl]
  refine g_dstore A387 at_92 (ls' := #[.val (.int p0), .val (.int p1), .val (.int p2), .val (.int p3), .val (.int p4), .val (.int (p0 &&& (31 : Int32))), .val (.int (p1 &&& (31 : Int32))), .val (.int (Int32.ofNat k367)), .val (.int (Int32.ofNat k370)), .val (.double (FP.i2d (p0 &&& (31 : Int32)))), .second, .val (.double (FP.i2d (p1 &&& (31 : Int32)))), .second, .val (.double (FP.i2d p2)), .second, .val (.double a373), .second, .val (.double (own_B a373 k367)), .second, .val (.double (own_id a373 (own_B a373 k367) k367)), .second, .val (.double (own_B a373 k370)), .second, .val (.double (own_id a373 (own_B a373 k370) k370)), .second, .unset, .unset, .unset, .unset]) rfl (pc' := 94) rfl ?_
  obtain ⟨T388, h388, X388, e388, E388, EA388, D388, -, st388⟩ := newO X382 hx hZ hown (hw _ (List.mem_of_getElem? (i := 5) rfl)) (hw _ (List.mem_of_getElem? (i := 6) rfl)) (hw _ (List.mem_of_getElem? (i := 7) rfl)) e386 (g := (mkF m 94 #[.val (.int p0), .val (.int p1), .val (.int p2), .val (.int p3), .val (.int p4), .val (.int (p0 &&& (31 : Int32))), .val (.int (p1 &&& (31 : Int32))), .val (.int (Int32.ofNat k367)), .val (.int (Int32.ofNat k370)), .val (.double (FP.i2d (p0 &&& (31 : Int32)))), .second, .val (.double (FP.i2d (p1 &&& (31 : Int32)))), .second, .val (.double (FP.i2d p2)), .second, .val (.double a373), .second, .val (.double (own_B a373 k367)), .second, .val (.double (own_id a373 (own_B a373 k367) k367)), .second, .val (.double (own_B a373 k370)), .second, .val (.double (own_id a373 (own_B a373 k370) k370)), .second, .unset, .unset, .unset, .unset] [])) rfl (hb hby at_94) (by decide) (by decide)
  obtain ⟨a389, ea389⟩ : ∃ z, z = h0.size := ⟨_, rfl⟩
  rw [← ea389] at EA388 D388 st388
  have g390 : n0 ≤ a389 := by rw [ea389]; exact Z0
  have gh391 : h0.size ≤ a389 := by rw [ea389]; exact (Keep.refl h0 []).1
  have K392 : Keep h0 h388 [] := (Keep.refl h0 []).ext E388
  have Z393 : n0 ≤ h388.size := Nat.le_trans Z0 E388.1
  have F394 : Fld Z h388 a389 "com/example/retinue/retinue/RetainerModel" "meanRecruitSeconds" "D" (.double (0 : UInt64)) := D388 (Or.inr (hw _ (List.mem_of_getElem? (i := 15) rfl))) (ty := .double) (by decide)
  have F395 : Fld Z h388 a389 "com/example/retinue/retinue/RetainerModel" "salaryPerMinute" "D" (.double (0 : UInt64)) := D388 (Or.inr (hw _ (List.mem_of_getElem? (i := 17) rfl))) (ty := .double) (by decide)
  have F396 : Fld Z h388 a389 "com/example/retinue/retinue/RetainerModel" "erlangB" "Lcom/example/retinue/retinue/ErlangB;" .null := D388 (Or.inr (hw _ (List.mem_of_getElem? (i := 31) rfl))) (ty := (.object "com/example/retinue/retinue/ErlangB")) (by decide)
  refine Go.of (g' := (mkF m 97 #[.val (.int p0), .val (.int p1), .val (.int p2), .val (.int p3), .val (.int p4), .val (.int (p0 &&& (31 : Int32))), .val (.int (p1 &&& (31 : Int32))), .val (.int (Int32.ofNat k367)), .val (.int (Int32.ofNat k370)), .val (.double (FP.i2d (p0 &&& (31 : Int32)))), .second, .val (.double (FP.i2d (p1 &&& (31 : Int32)))), .second, .val (.double (FP.i2d p2)), .second, .val (.double a373), .second, .val (.double (own_B a373 k367)), .second, .val (.double (own_id a373 (own_B a373 k367) k367)), .second, .val (.double (own_B a373 k370)), .second, .val (.double (own_id a373 (own_B a373 k370) k370)), .second, .unset, .unset, .unset, .unset] [(.ref a389)])) st388 ?_
  have A397 := (⟨X388, hx, hby⟩ : Ax _ _ _ _ _ _ _ _ _ _ _ _ _ _ _)
  refine g_dup A397 at_97 rfl (pc' := 98) rfl ?_
  refine g_dload A397 at_98 rfl (pc' := 100) rfl ?_
  refine g_dload A397 at_100 rfl (pc' := 102) rfl ?_
  refine g_dload A397 at_102 rfl (pc' := 104) rfl ?_
  have hp398 : Fin64 (FP.i2d (p0 &&& (31 : Int32))) := (i2d_fin (p0 &&& (31 : Int32)))
  have hp399 : Fin64 (FP.i2d (p1 &&& (31 : Int32))) := (i2d_fin (p1 &&& (31 : Int32)))
  have hp400 : own_A (FP.dmul (FP.i2d (p0 &&& (31 : Int32))) (FP.i2d (p1 &&& (31 : Int32)))) := (own_a p0 p1)
  obtain ⟨vv401, _, ⟨T401, L401, k401, n401⟩, -, X401, ⟨L401c, hQ401, l401, y401, z401⟩, st401⟩ := X388.specialBack hx (y := (⟨"com/example/retinue/retinue/RetainerModel", "<init>", "(DDD)V"⟩ : MethodName)) rfl hown (mvT hZ (hw _ (List.mem_of_getElem? (i := 8) rfl))) (mvT hZ (hw _ (List.mem_of_getElem? (i := 9) rfl))) (mvT hZ (hw _ (List.mem_of_getElem? (i := 10) rfl))) (by decide) (backOf (W := 1) (rm2 l Z a0 hw [] a389 (FP.i2d (p0 &&& (31 : Int32))) (FP.i2d (p1 &&& (31 : Int32))) (FP.i2d p2) (.double (0 : UInt64)) (.double (0 : UInt64)) .null h388 n0 Z393 EA388 F394 F395 F396 g390 hp398 hp399 hp400) hZ (hw _ (List.mem_of_getElem? (i := 10) rfl)) (hw _ (List.mem_of_getElem? (i := 7) rfl)) (by decide) (by decide)) (g := (mkF m 104 #[.val (.int p0), .val (.int p1), .val (.int p2), .val (.int p3), .val (.int p4), .val (.int (p0 &&& (31 : Int32))), .val (.int (p1 &&& (31 : Int32))), .val (.int (Int32.ofNat k367)), .val (.int (Int32.ofNat k370)), .val (.double (FP.i2d (p0 &&& (31 : Int32)))), .second, .val (.double (FP.i2d (p1 &&& (31 : Int32)))), .second, .val (.double (FP.i2d p2)), .second, .val (.double a373), .second, .val (.double (own_B a373 k367)), .second, .val (.double (own_id a373 (own_B a373 k367) k367)), .second, .val (.double (own_B a373 k370)), .second, .val (.double (own_id a373 (own_B a373 k370) k370)), .second, .unset, .unset, .unset, .unset] [(.double (FP.i2d p2)), (.double (FP.i2d (p1 &&& (31 : Int32)))), (.double (FP.i2d (p0 &&& (31 : Int32)))), (.ref a389), (.ref a389)])) rfl (by rw [hml]; rfl) (Steps.refl _) (a := a389) (argsL := [(.double (FP.i2d (p0 &&& (31 : Int32)))), (.double (FP.i2d (p1 &&& (31 : Int32)))), (.double (FP.i2d p2))]) (rest := [(.ref a389)]) (lenOf pd_6 rfl) rfl (by show 2 * 0 + _ ≤ _; exact Nat.le_of_eq rfl) (hb hby at_104) (fun _ _ => ⟨rfl, e388, (by decide : 1 + 1 ≤ _), (by decide : 3 + 3 ≤ _)⟩)
  have hQ401b : Q2 Z a389 (FP.i2d (p0 &&& (31 : Int32))) (FP.i2d (p1 &&& (31 : Int32))) (FP.i2d p2) (.double (0 : UInt64)) (.double (0 : UInt64)) .null h388 n0 vv401 T401.heap L401c := hQ401
  clear hQ401
  dsimp only [Pt.U, Pt.locs, Pt.cells, Pt.slots] at X401 l401 y401 z401 st401
  subst y401 z401
  obtain ⟨ee402, rfl, Nq403, Kq404, gx405, F406, F407, F408, E409, F410, F411, F412⟩ := hQ401b
  have N413 : Fr n0 L401 := by rw [l401]; exact Fr.app N385 Nq403
  refine Go.tr (g' := (mkF m 107 #[.val (.int p0), .val (.int p1), .val (.int p2), .val (.int p3), .val (.int p4), .val (.int (p0 &&& (31 : Int32))), .val (.int (p1 &&& (31 : Int32))), .val (.int (Int32.ofNat k367)), .val (.int (Int32.ofNat k370)), .val (.double (FP.i2d (p0 &&& (31 : Int32)))), .second, .val (.double (FP.i2d (p1 &&& (31 : Int32)))), .second, .val (.double (FP.i2d p2)), .second, .val (.double a373), .second, .val (.double (own_B a373 k367)), .second, .val (.double (own_id a373 (own_B a373 k367) k367)), .second, .val (.double (own_B a373 k370)), .second, .val (.double (own_id a373 (own_B a373 k370) k370)), .second, .unset, .unset, .unset, .unset] [(.ref a389)])) st401 ?_
  have E414 : Exa Z T401.heap a389 "com/example/retinue/retinue/RetainerModel" := Exa.keep EA388 Kq404
  have Z415 : n0 ≤ T401.heap.size := Nat.le_trans Z393 Kq404.1
  have K416 : Keep h0 T401.heap [] := K392.trans Kq404 (allS (Or.inr gh391) all0)
  have A417 := (⟨X401, hx, hby⟩ : Ax _ _ _ _ _ _ _ _ _ _ _ _ _ _ _)
  have g418 : n0 ≤ ee402 := Nat.le_trans Z393 gx405
  have gh419 : h0.size ≤ ee402 := Nat.le_trans K392.1 gx405
  have ne420 : a389 ≠ ee402 := Nat.ne_of_lt (Nat.lt_of_lt_of_le EA388.lt gx405)
  rw [← ha373] at F411
  rw [← ha373] at F412
  refine g_astore A417 at_107 rfl (ls' := #[.val (.int p0), .val (.int p1), .val (.int p2), .val (.int p3), .val (.int p4), .val (.int (p0 &&& (31 : Int32))), .val (.int (p1 &&& (31 : Int32))), .val (.int (Int32.ofNat k367)), .val (.int (Int32.ofNat k370)), .val (.double (FP.i2d (p0 &&& (31 : Int32)))), .second, .val (.double (FP.i2d (p1 &&& (31 : Int32)))), .second, .val (.double (FP.i2d p2)), .second, .val (.double a373), .second, .val (.double (own_B a373 k367)), .second, .val (.double (own_id a373 (own_B a373 k367) k367)), .second, .val (.double (own_B a373 k370)), .second, .val (.double (own_id a373 (own_B a373 k370) k370)), .second, .val (.ref a389), .unset, .unset, .unset]) rfl (pc' := 109) rfl ?_
  refine g_aload A417 at_109 rfl rfl (pc' := 111) rfl ?_
  refine g_iload A417 at_111 rfl (pc' := 113) rfl ?_
  have hp421 : k367 ≤ 4 := (by omega)
  have hp422 : 0 ≤ 1000 := (by decide)
  have hp423 : Fin64 (FP.i2d (p1 &&& (31 : Int32))) := (i2d_fin (p1 &&& (31 : Int32)))
  have hp424 : Fin64 (FP.i2d p2) := (i2d_fin p2)
  obtain ⟨cq426, kq426, q426a, q426b, q426c⟩ := isOf hZ rfl E414
  obtain ⟨vv425, _, ⟨T425, L425, k425, n425⟩, -, X425, ⟨L425c, hQ425, l425, y425, z425⟩, st425⟩ := X401.virtualBack hx (y := (⟨"com/example/retinue/retinue/RetainerModel", "pool", "(I)Lcom/example/retinue/retinue/RetainerModel$Pool;"⟩ : MethodName)) (z := (⟨"com/example/retinue/retinue/RetainerModel", "pool", "(I)Lcom/example/retinue/retinue/RetainerModel$Pool;"⟩ : MethodName)) hown (mvT hZ (hw _ (List.mem_of_getElem? (i := 32) rfl))) (mvT hZ (hw _ (List.mem_of_getElem? (i := 33) rfl))) (notFace_of_selects (args := #[]) (mvT hZ (hw _ (List.mem_of_getElem? (i := 35) rfl)))) (mvT hZ (hw _ (List.mem_of_getElem? (i := 35) rfl))) (mvT hZ (hw _ (List.mem_of_getElem? (i := 34) rfl))) (by decide) (backOf (W := 0) (rm5 l Z a0 hw [] a389 k367 ee402 0 a373 (FP.i2d (p1 &&& (31 : Int32))) (FP.i2d p2) T401.heap n0 Z415 F406 F407 F408 E414 E409 F410 F411 F412 g418 ne420 hA hp421 hp422 hp423 hp424) hZ (hw _ (List.mem_of_getElem? (i := 36) rfl)) (hw _ (List.mem_of_getElem? (i := 7) rfl)) (by decide) (by decide)) q426a q426c (g := (mkF m 113 #[.val (.int p0), .val (.int p1), .val (.int p2), .val (.int p3), .val (.int p4), .val (.int (p0 &&& (31 : Int32))), .val (.int (p1 &&& (31 : Int32))), .val (.int (Int32.ofNat k367)), .val (.int (Int32.ofNat k370)), .val (.double (FP.i2d (p0 &&& (31 : Int32)))), .second, .val (.double (FP.i2d (p1 &&& (31 : Int32)))), .second, .val (.double (FP.i2d p2)), .second, .val (.double a373), .second, .val (.double (own_B a373 k367)), .second, .val (.double (own_id a373 (own_B a373 k367) k367)), .second, .val (.double (own_B a373 k370)), .second, .val (.double (own_id a373 (own_B a373 k370) k370)), .second, .val (.ref a389), .unset, .unset, .unset] [(.int (Int32.ofNat k367)), (.ref a389)])) rfl (by rw [hml]; rfl) (Steps.refl _) (argsL := [(.int (Int32.ofNat k367))]) (rest := []) (lenOf pd_7 rfl) rfl (by show 2 * 0 + _ ≤ _; exact Nat.le_of_eq rfl) (hb hby at_113) (fun _ _ => ⟨rfl, rfl, (by decide : 2 + 1 ≤ _), (by decide : 6 + 5 ≤ _)⟩)
  have hQ425b : Q5 Z a389 k367 ee402 0 a373 (FP.i2d (p1 &&& (31 : Int32))) (FP.i2d p2) T401.heap n0 vv425 T425.heap L425c := hQ425
  clear hQ425
  dsimp only [Pt.U, Pt.locs, Pt.cells, Pt.slots] at X425 l425 y425 z425 st425
  subst y425 z425
  obtain ⟨r427, rfl, Nq428, Kq429, gx430, E431, F432, F433, F434, F435, F436, F437, F438, F439⟩ := hQ425b
  have N440 : Fr n0 L425 := by rw [l425]; exact Fr.app N413 Nq428
  refine Go.tr (g' := (mkF m 116 #[.val (.int p0), .val (.int p1), .val (.int p2), .val (.int p3), .val (.int p4), .val (.int (p0 &&& (31 : Int32))), .val (.int (p1 &&& (31 : Int32))), .val (.int (Int32.ofNat k367)), .val (.int (Int32.ofNat k370)), .val (.double (FP.i2d (p0 &&& (31 : Int32)))), .second, .val (.double (FP.i2d (p1 &&& (31 : Int32)))), .second, .val (.double (FP.i2d p2)), .second, .val (.double a373), .second, .val (.double (own_B a373 k367)), .second, .val (.double (own_id a373 (own_B a373 k367) k367)), .second, .val (.double (own_B a373 k370)), .second, .val (.double (own_id a373 (own_B a373 k370) k370)), .second, .val (.ref a389), .unset, .unset, .unset] [(.ref r427)])) st425 ?_
  have E441 : Exa Z T425.heap a389 "com/example/retinue/retinue/RetainerModel" := Exa.keep E414 Kq429
  have F442 : Fld Z T425.heap a389 "com/example/retinue/retinue/RetainerModel" "meanRecruitSeconds" "D" (.double (FP.i2d (p1 &&& (31 : Int32)))) := Fld.keep F406 Kq429 (ninS ne420 nin0)
  have F443 : Fld Z T425.heap a389 "com/example/retinue/retinue/RetainerModel" "salaryPerMinute" "D" (.double (FP.i2d p2)) := Fld.keep F407 Kq429 (ninS ne420 nin0)
  have F444 : Fld Z T425.heap a389 "com/example/retinue/retinue/RetainerModel" "erlangB" "Lcom/example/retinue/retinue/ErlangB;" (.ref ee402) := Fld.keep F408 Kq429 (ninS ne420 nin0)
  have E445 : Exa Z T425.heap ee402 "com/example/retinue/retinue/ErlangB" := Exa.keep E409 Kq429
  have Z446 : n0 ≤ T425.heap.size := Nat.le_trans Z415 Kq429.1
  have K447 : Keep h0 T425.heap [] := K416.trans Kq429 (allS (Or.inr gh419) all0)
  have A448 := (⟨X425, hx, hby⟩ : Ax _ _ _ _ _ _ _ _ _ _ _ _ _ _ _)
  have g449 : n0 ≤ r427 := Nat.le_trans Z415 gx430
  have gh450 : h0.size ≤ r427 := Nat.le_trans K416.1 gx430
  have ne451 : a389 ≠ r427 := Nat.ne_of_lt (Nat.lt_of_lt_of_le E414.lt gx430)
  have ne452 : ee402 ≠ r427 := Nat.ne_of_lt (Nat.lt_of_lt_of_le E409.lt gx430)
  refine g_astore A448 at_116 rfl (ls' := #[.val (.int p0), .val (.int p1), .val (.int p2), .val (.int p3), .val (.int p4), .val (.int (p0 &&& (31 : Int32))), .val (.int (p1 &&& (31 : Int32))), .val (.int (Int32.ofNat k367)), .val (.int (Int32.ofNat k370)), .val (.double (FP.i2d (p0 &&& (31 : Int32)))), .second, .val (.double (FP.i2d (p1 &&& (31 : Int32)))), .second, .val (.double (FP.i2d p2)), .second, .val (.double a373), .second, .val (.double (own_B a373 k367)), .second, .val (.double (own_id a373 (own_B a373 k367) k367)), .second, .val (.double (own_B a373 k370)), .second, .val (.double (own_id a373 (own_B a373 k370) k370)), .second, .val (.ref a389), .val (.ref r427), .unset, .unset]) rfl (pc' := 118) rfl ?_
  refine g_aload A448 at_118 rfl rfl (pc' := 120) rfl ?_
  obtain ⟨cq454, kq454, q454a, q454b, q454c⟩ := isOf hZ rfl E431
  obtain ⟨vv453, _, ⟨T453, L453, k453, n453⟩, -, X453, ⟨L453c, hQ453, l453, y453, z453⟩, st453⟩ := X425.virtualBack hx (y := (⟨"com/example/retinue/retinue/RetainerModel$Pool", "size", "()I"⟩ : MethodName)) (z := (⟨"com/example/retinue/retinue/RetainerModel$Pool", "size", "()I"⟩ : MethodName)) hown (mvT hZ (hw _ (List.mem_of_getElem? (i := 71) rfl))) (mvT hZ (hw _ (List.mem_of_getElem? (i := 72) rfl))) (notFace_of_selects (args := #[]) (mvT hZ (hw _ (List.mem_of_getElem? (i := 74) rfl)))) (mvT hZ (hw _ (List.mem_of_getElem? (i := 74) rfl))) (mvT hZ (hw _ (List.mem_of_getElem? (i := 73) rfl))) (by decide) (backOf (W := 0) (rm10 l Z a0 hw [] r427 (Int32.ofNat k367) T425.heap n0 Z446 F432) hZ (hw _ (List.mem_of_getElem? (i := 75) rfl)) (hw _ (List.mem_of_getElem? (i := 51) rfl)) (by decide) (by decide)) q454a q454c (g := (mkF m 120 #[.val (.int p0), .val (.int p1), .val (.int p2), .val (.int p3), .val (.int p4), .val (.int (p0 &&& (31 : Int32))), .val (.int (p1 &&& (31 : Int32))), .val (.int (Int32.ofNat k367)), .val (.int (Int32.ofNat k370)), .val (.double (FP.i2d (p0 &&& (31 : Int32)))), .second, .val (.double (FP.i2d (p1 &&& (31 : Int32)))), .second, .val (.double (FP.i2d p2)), .second, .val (.double a373), .second, .val (.double (own_B a373 k367)), .second, .val (.double (own_id a373 (own_B a373 k367) k367)), .second, .val (.double (own_B a373 k370)), .second, .val (.double (own_id a373 (own_B a373 k370) k370)), .second, .val (.ref a389), .val (.ref r427), .unset, .unset] [(.ref r427)])) rfl (by rw [hml]; rfl) (Steps.refl _) (argsL := []) (rest := []) (lenOf pd_8 rfl) rfl (by show 2 * 0 + _ ≤ _; exact Nat.le_of_eq rfl) (hb hby at_120) (fun _ _ => ⟨rfl, rfl, (by decide : 3 + 0 ≤ _), (by decide : 11 + 0 ≤ _)⟩)
  have hQ453b : Q10 Z r427 (Int32.ofNat k367) T425.heap n0 vv453 T453.heap L453c := hQ453
  clear hQ453
  dsimp only [Pt.U, Pt.locs, Pt.cells, Pt.slots] at X453 l453 y453 z453 st453
  subst y453 z453
  obtain ⟨rfl, Nq455, Kq456⟩ := hQ453b
  have N457 : Fr n0 L453 := by rw [l453]; exact Fr.app N440 Nq455
  refine Go.tr (g' := (mkF m 123 #[.val (.int p0), .val (.int p1), .val (.int p2), .val (.int p3), .val (.int p4), .val (.int (p0 &&& (31 : Int32))), .val (.int (p1 &&& (31 : Int32))), .val (.int (Int32.ofNat k367)), .val (.int (Int32.ofNat k370)), .val (.double (FP.i2d (p0 &&& (31 : Int32)))), .second, .val (.double (FP.i2d (p1 &&& (31 : Int32)))), .second, .val (.double (FP.i2d p2)), .second, .val (.double a373), .second, .val (.double (own_B a373 k367)), .second, .val (.double (own_id a373 (own_B a373 k367) k367)), .second, .val (.double (own_B a373 k370)), .second, .val (.double (own_id a373 (own_B a373 k370) k370)), .second, .val (.ref a389), .val (.ref r427), .unset, .unset] [(.int (Int32.ofNat k367))])) st453 ?_
  have e458 : T453.heap = T425.heap := Kq456
  have A459 := (⟨X453, hx, hby⟩ : Ax _ _ _ _ _ _ _ _ _ _ _ _ _ _ _)
  refine g_iload A459 at_123 rfl (pc' := 125) rfl ?_
  refine g_icN A459 at_125 (c2_ne_f rfl) (pc' := 128) rfl ?_
  refine g_aload A459 at_128 rfl rfl (pc' := 130) rfl ?_
  obtain ⟨cq461, kq461, q461a, q461b, q461c⟩ := isOf hZ e458 E431
  obtain ⟨vv460, _, ⟨T460, L460, k460, n460⟩, -, X460, ⟨L460c, hQ460, l460, y460, z460⟩, st460⟩ := X453.virtualBack hx (y := (⟨"com/example/retinue/retinue/RetainerModel$Pool", "emptyProbability", "()D"⟩ : MethodName)) (z := (⟨"com/example/retinue/retinue/RetainerModel$Pool", "emptyProbability", "()D"⟩ : MethodName)) hown (mvT hZ (hw _ (List.mem_of_getElem? (i := 76) rfl))) (mvT hZ (hw _ (List.mem_of_getElem? (i := 77) rfl))) (notFace_of_selects (args := #[]) (mvT hZ (hw _ (List.mem_of_getElem? (i := 79) rfl)))) (mvT hZ (hw _ (List.mem_of_getElem? (i := 79) rfl))) (mvT hZ (hw _ (List.mem_of_getElem? (i := 78) rfl))) (by decide) (backOf (W := 0) (rm11 l Z a0 hw [] r427 (own_B a373 k367) T425.heap n0 Z446 F433) hZ (hw _ (List.mem_of_getElem? (i := 80) rfl)) (hw _ (List.mem_of_getElem? (i := 51) rfl)) (by decide) (by decide)) q461a q461c (g := (mkF m 130 #[.val (.int p0), .val (.int p1), .val (.int p2), .val (.int p3), .val (.int p4), .val (.int (p0 &&& (31 : Int32))), .val (.int (p1 &&& (31 : Int32))), .val (.int (Int32.ofNat k367)), .val (.int (Int32.ofNat k370)), .val (.double (FP.i2d (p0 &&& (31 : Int32)))), .second, .val (.double (FP.i2d (p1 &&& (31 : Int32)))), .second, .val (.double (FP.i2d p2)), .second, .val (.double a373), .second, .val (.double (own_B a373 k367)), .second, .val (.double (own_id a373 (own_B a373 k367) k367)), .second, .val (.double (own_B a373 k370)), .second, .val (.double (own_id a373 (own_B a373 k370) k370)), .second, .val (.ref a389), .val (.ref r427), .unset, .unset] [(.ref r427)])) rfl (by rw [hml]; rfl) (Steps.refl _) (argsL := []) (rest := []) (lenOf pd_3 rfl) rfl (by show 2 * 0 + _ ≤ _; exact Nat.le_of_eq rfl) (hb hby at_130) (fun _ _ => ⟨rfl, e458, (by decide : 3 + 0 ≤ _), (by decide : 11 + 0 ≤ _)⟩)
  have hQ460b : Q11 Z r427 (own_B a373 k367) T425.heap n0 vv460 T460.heap L460c := hQ460
  clear hQ460
  dsimp only [Pt.U, Pt.locs, Pt.cells, Pt.slots] at X460 l460 y460 z460 st460
  subst y460 z460
  obtain ⟨rfl, Nq462, Kq463⟩ := hQ460b
  have N464 : Fr n0 L460 := by rw [l460]; exact Fr.app N457 Nq462
  refine Go.tr (g' := (mkF m 133 #[.val (.int p0), .val (.int p1), .val (.int p2), .val (.int p3), .val (.int p4), .val (.int (p0 &&& (31 : Int32))), .val (.int (p1 &&& (31 : Int32))), .val (.int (Int32.ofNat k367)), .val (.int (Int32.ofNat k370)), .val (.double (FP.i2d (p0 &&& (31 : Int32)))), .second, .val (.double (FP.i2d (p1 &&& (31 : Int32)))), .second, .val (.double (FP.i2d p2)), .second, .val (.double a373), .second, .val (.double (own_B a373 k367)), .second, .val (.double (own_id a373 (own_B a373 k367) k367)), .second, .val (.double (own_B a373 k370)), .second, .val (.double (own_id a373 (own_B a373 k370) k370)), .second, .val (.ref a389), .val (.ref r427), .unset, .unset] [(.double (own_B a373 k367))])) st460 ?_
  have e465 : T460.heap = T425.heap := Kq463
  have A466 := (⟨X460, hx, hby⟩ : Ax _ _ _ _ _ _ _ _ _ _ _ _ _ _ _)
  refine g_dload A466 at_133 rfl (pc' := 135) rfl ?_
  refine g_dcmp A466 at_135 (pc' := 136) rfl ?_
  refine g_ifN A466 at_136 (d_l_ne_f (own_self (own_Uf (own_BU hA k367 (by omega))))) (pc' := 139) rfl ?_
  refine g_aload A466 at_139 rfl rfl (pc' := 141) rfl ?_
  obtain ⟨cq468, kq468, q468a, q468b, q468c⟩ := isOf hZ e465 E431
  obtain ⟨vv467, _, ⟨T467, L467, k467, n467⟩, -, X467, ⟨L467c, hQ467, l467, y467, z467⟩, st467⟩ := X460.virtualBack hx (y := (⟨"com/example/retinue/retinue/RetainerModel$Pool", "meanWaitSeconds", "()D"⟩ : MethodName)) (z := (⟨"com/example/retinue/retinue/RetainerModel$Pool", "meanWaitSeconds", "()D"⟩ : MethodName)) hown (mvT hZ (hw _ (List.mem_of_getElem? (i := 81) rfl))) (mvT hZ (hw _ (List.mem_of_getElem? (i := 82) rfl))) (notFace_of_selects (args := #[]) (mvT hZ (hw _ (List.mem_of_getElem? (i := 84) rfl)))) (mvT hZ (hw _ (List.mem_of_getElem? (i := 84) rfl))) (mvT hZ (hw _ (List.mem_of_getElem? (i := 83) rfl))) (by decide) (backOf (W := 0) (rm12 l Z a0 hw [] r427 (FP.dmul (own_B a373 k367) (FP.i2d (p1 &&& (31 : Int32)))) T425.heap n0 Z446 F434) hZ (hw _ (List.mem_of_getElem? (i := 85) rfl)) (hw _ (List.mem_of_getElem? (i := 51) rfl)) (by decide) (by decide)) q468a q468c (g := (mkF m 141 #[.val (.int p0), .val (.int p1), .val (.int p2), .val (.int p3), .val (.int p4), .val (.int (p0 &&& (31 : Int32))), .val (.int (p1 &&& (31 : Int32))), .val (.int (Int32.ofNat k367)), .val (.int (Int32.ofNat k370)), .val (.double (FP.i2d (p0 &&& (31 : Int32)))), .second, .val (.double (FP.i2d (p1 &&& (31 : Int32)))), .second, .val (.double (FP.i2d p2)), .second, .val (.double a373), .second, .val (.double (own_B a373 k367)), .second, .val (.double (own_id a373 (own_B a373 k367) k367)), .second, .val (.double (own_B a373 k370)), .second, .val (.double (own_id a373 (own_B a373 k370) k370)), .second, .val (.ref a389), .val (.ref r427), .unset, .unset] [(.ref r427)])) rfl (by rw [hml]; rfl) (Steps.refl _) (argsL := []) (rest := []) (lenOf pd_3 rfl) rfl (by show 2 * 0 + _ ≤ _; exact Nat.le_of_eq rfl) (hb hby at_141) (fun _ _ => ⟨rfl, e465, (by decide : 3 + 0 ≤ _), (by decide : 11 + 0 ≤ _)⟩)
  have hQ467b : Q12 Z r427 (FP.dmul (own_B a373 k367) (FP.i2d (p1 &&& (31 : Int32)))) T425.heap n0 vv467 T467.heap L467c := hQ467
  clear hQ467
  dsimp only [Pt.U, Pt.locs, Pt.cells, Pt.slots] at X467 l467 y467 z467 st467
  subst y467 z467
  obtain ⟨rfl, Nq469, Kq470⟩ := hQ467b
  have N471 : Fr n0 L467 := by rw [l467]; exact Fr.app N464 Nq469
  refine Go.tr (g' := (mkF m 144 #[.val (.int p0), .val (.int p1), .val (.int p2), .val (.int p3), .val (.int p4), .val (.int (p0 &&& (31 : Int32))), .val (.int (p1 &&& (31 : Int32))), .val (.int (Int32.ofNat k367)), .val (.int (Int32.ofNat k370)), .val (.double (FP.i2d (p0 &&& (31 : Int32)))), .second, .val (.double (FP.i2d (p1 &&& (31 : Int32)))), .second, .val (.double (FP.i2d p2)), .second, .val (.double a373), .second, .val (.double (own_B a373 k367)), .second, .val (.double (own_id a373 (own_B a373 k367) k367)), .second, .val (.double (own_B a373 k370)), .second, .val (.double (own_id a373 (own_B a373 k370) k370)), .second, .val (.ref a389), .val (.ref r427), .unset, .unset] [(.double (FP.dmul (own_B a373 k367) (FP.i2d (p1 &&& (31 : Int32)))))])) st467 ?_
  have e472 : T467.heap = T425.heap := Kq470
  have A473 := (⟨X467, hx, hby⟩ : Ax _ _ _ _ _ _ _ _ _ _ _ _ _ _ _)
  refine g_dload A473 at_144 rfl (pc' := 146) rfl ?_
  refine g_dload A473 at_146 rfl (pc' := 148) rfl ?_
  refine g_dmul A473 at_148 (dmul_out (own_Uf (own_BU hA k367 (by omega))) (i2d_fin (p1 &&& (31 : Int32)))) (pc' := 149) rfl ?_
  refine g_dcmp A473 at_149 (pc' := 150) rfl ?_
  refine g_ifN A473 at_150 (d_l_ne_f (own_selfN (dmul_out (own_Uf (own_BU hA k367 (by omega))) (i2d_fin (p1 &&& (31 : Int32)))))) (pc' := 153) rfl ?_
  refine g_aload A473 at_153 rfl rfl (pc' := 155) rfl ?_
  obtain ⟨cq475, kq475, q475a, q475b, q475c⟩ := isOf hZ e472 E431
  obtain ⟨vv474, _, ⟨T474, L474, k474, n474⟩, -, X474, ⟨L474c, hQ474, l474, y474, z474⟩, st474⟩ := X467.virtualBack hx (y := (⟨"com/example/retinue/retinue/RetainerModel$Pool", "idleWorkers", "()D"⟩ : MethodName)) (z := (⟨"com/example/retinue/retinue/RetainerModel$Pool", "idleWorkers", "()D"⟩ : MethodName)) hown (mvT hZ (hw _ (List.mem_of_getElem? (i := 86) rfl))) (mvT hZ (hw _ (List.mem_of_getElem? (i := 87) rfl))) (notFace_of_selects (args := #[]) (mvT hZ (hw _ (List.mem_of_getElem? (i := 89) rfl)))) (mvT hZ (hw _ (List.mem_of_getElem? (i := 89) rfl))) (mvT hZ (hw _ (List.mem_of_getElem? (i := 88) rfl))) (by decide) (backOf (W := 0) (rm13 l Z a0 hw [] r427 (own_id a373 (own_B a373 k367) k367) T425.heap n0 Z446 F435) hZ (hw _ (List.mem_of_getElem? (i := 90) rfl)) (hw _ (List.mem_of_getElem? (i := 51) rfl)) (by decide) (by decide)) q475a q475c (g := (mkF m 155 #[.val (.int p0), .val (.int p1), .val (.int p2), .val (.int p3), .val (.int p4), .val (.int (p0 &&& (31 : Int32))), .val (.int (p1 &&& (31 : Int32))), .val (.int (Int32.ofNat k367)), .val (.int (Int32.ofNat k370)), .val (.double (FP.i2d (p0 &&& (31 : Int32)))), .second, .val (.double (FP.i2d (p1 &&& (31 : Int32)))), .second, .val (.double (FP.i2d p2)), .second, .val (.double a373), .second, .val (.double (own_B a373 k367)), .second, .val (.double (own_id a373 (own_B a373 k367) k367)), .second, .val (.double (own_B a373 k370)), .second, .val (.double (own_id a373 (own_B a373 k370) k370)), .second, .val (.ref a389), .val (.ref r427), .unset, .unset] [(.ref r427)])) rfl (by rw [hml]; rfl) (Steps.refl _) (argsL := []) (rest := []) (lenOf pd_3 rfl) rfl (by show 2 * 0 + _ ≤ _; exact Nat.le_of_eq rfl) (hb hby at_155) (fun _ _ => ⟨rfl, e472, (by decide : 3 + 0 ≤ _), (by decide : 11 + 0 ≤ _)⟩)
  have hQ474b : Q13 Z r427 (own_id a373 (own_B a373 k367) k367) T425.heap n0 vv474 T474.heap L474c := hQ474
  clear hQ474
  dsimp only [Pt.U, Pt.locs, Pt.cells, Pt.slots] at X474 l474 y474 z474 st474
  subst y474 z474
  obtain ⟨rfl, Nq476, Kq477⟩ := hQ474b
  have N478 : Fr n0 L474 := by rw [l474]; exact Fr.app N471 Nq476
  refine Go.tr (g' := (mkF m 158 #[.val (.int p0), .val (.int p1), .val (.int p2), .val (.int p3), .val (.int p4), .val (.int (p0 &&& (31 : Int32))), .val (.int (p1 &&& (31 : Int32))), .val (.int (Int32.ofNat k367)), .val (.int (Int32.ofNat k370)), .val (.double (FP.i2d (p0 &&& (31 : Int32)))), .second, .val (.double (FP.i2d (p1 &&& (31 : Int32)))), .second, .val (.double (FP.i2d p2)), .second, .val (.double a373), .second, .val (.double (own_B a373 k367)), .second, .val (.double (own_id a373 (own_B a373 k367) k367)), .second, .val (.double (own_B a373 k370)), .second, .val (.double (own_id a373 (own_B a373 k370) k370)), .second, .val (.ref a389), .val (.ref r427), .unset, .unset] [(.double (own_id a373 (own_B a373 k367) k367))])) st474 ?_
  have e479 : T474.heap = T425.heap := Kq477
  have A480 := (⟨X474, hx, hby⟩ : Ax _ _ _ _ _ _ _ _ _ _ _ _ _ _ _)
  refine g_dload A480 at_158 rfl (pc' := 160) rfl ?_
  refine g_dcmp A480 at_160 (pc' := 161) rfl ?_
  refine g_ifN A480 at_161 (d_l_ne_f (own_self (fin64_core.mpr (own_idf (k := k367) hA (own_BU hA k367 (by omega)) (by omega)).2.2))) (pc' := 164) rfl ?_
  refine g_aload A480 at_164 rfl rfl (pc' := 166) rfl ?_
  obtain ⟨cq482, kq482, q482a, q482b, q482c⟩ := isOf hZ e479 E431
  obtain ⟨vv481, _, ⟨T481, L481, k481, n481⟩, -, X481, ⟨L481c, hQ481, l481, y481, z481⟩, st481⟩ := X474.virtualBack hx (y := (⟨"com/example/retinue/retinue/RetainerModel$Pool", "costPerMinute", "()D"⟩ : MethodName)) (z := (⟨"com/example/retinue/retinue/RetainerModel$Pool", "costPerMinute", "()D"⟩ : MethodName)) hown (mvT hZ (hw _ (List.mem_of_getElem? (i := 91) rfl))) (mvT hZ (hw _ (List.mem_of_getElem? (i := 92) rfl))) (notFace_of_selects (args := #[]) (mvT hZ (hw _ (List.mem_of_getElem? (i := 94) rfl)))) (mvT hZ (hw _ (List.mem_of_getElem? (i := 94) rfl))) (mvT hZ (hw _ (List.mem_of_getElem? (i := 93) rfl))) (by decide) (backOf (W := 0) (rm14 l Z a0 hw [] r427 (FP.dmul (FP.i2d p2) (own_id a373 (own_B a373 k367) k367)) T425.heap n0 Z446 F436) hZ (hw _ (List.mem_of_getElem? (i := 95) rfl)) (hw _ (List.mem_of_getElem? (i := 51) rfl)) (by decide) (by decide)) q482a q482c (g := (mkF m 166 #[.val (.int p0), .val (.int p1), .val (.int p2), .val (.int p3), .val (.int p4), .val (.int (p0 &&& (31 : Int32))), .val (.int (p1 &&& (31 : Int32))), .val (.int (Int32.ofNat k367)), .val (.int (Int32.ofNat k370)), .val (.double (FP.i2d (p0 &&& (31 : Int32)))), .second, .val (.double (FP.i2d (p1 &&& (31 : Int32)))), .second, .val (.double (FP.i2d p2)), .second, .val (.double a373), .second, .val (.double (own_B a373 k367)), .second, .val (.double (own_id a373 (own_B a373 k367) k367)), .second, .val (.double (own_B a373 k370)), .second, .val (.double (own_id a373 (own_B a373 k370) k370)), .second, .val (.ref a389), .val (.ref r427), .unset, .unset] [(.ref r427)])) rfl (by rw [hml]; rfl) (Steps.refl _) (argsL := []) (rest := []) (lenOf pd_3 rfl) rfl (by show 2 * 0 + _ ≤ _; exact Nat.le_of_eq rfl) (hb hby at_166) (fun _ _ => ⟨rfl, e479, (by decide : 3 + 0 ≤ _), (by decide : 11 + 0 ≤ _)⟩)
  have hQ481b : Q14 Z r427 (FP.dmul (FP.i2d p2) (own_id a373 (own_B a373 k367) k367)) T425.heap n0 vv481 T481.heap L481c := hQ481
  clear hQ481
  dsimp only [Pt.U, Pt.locs, Pt.cells, Pt.slots] at X481 l481 y481 z481 st481
  subst y481 z481
  obtain ⟨rfl, Nq483, Kq484⟩ := hQ481b
  have N485 : Fr n0 L481 := by rw [l481]; exact Fr.app N478 Nq483
  refine Go.tr (g' := (mkF m 169 #[.val (.int p0), .val (.int p1), .val (.int p2), .val (.int p3), .val (.int p4), .val (.int (p0 &&& (31 : Int32))), .val (.int (p1 &&& (31 : Int32))), .val (.int (Int32.ofNat k367)), .val (.int (Int32.ofNat k370)), .val (.double (FP.i2d (p0 &&& (31 : Int32)))), .second, .val (.double (FP.i2d (p1 &&& (31 : Int32)))), .second, .val (.double (FP.i2d p2)), .second, .val (.double a373), .second, .val (.double (own_B a373 k367)), .second, .val (.double (own_id a373 (own_B a373 k367) k367)), .second, .val (.double (own_B a373 k370)), .second, .val (.double (own_id a373 (own_B a373 k370) k370)), .second, .val (.ref a389), .val (.ref r427), .unset, .unset] [(.double (FP.dmul (FP.i2d p2) (own_id a373 (own_B a373 k367) k367)))])) st481 ?_
  have e486 : T481.heap = T425.heap := Kq484
  have A487 := (⟨X481, hx, hby⟩ : Ax _ _ _ _ _ _ _ _ _ _ _ _ _ _ _)
  refine g_dload A487 at_169 rfl (pc' := 171) rfl ?_
  refine g_dload A487 at_171 rfl (pc' := 173) rfl ?_
  refine g_dmul A487 at_173 (dmul_out (i2d_fin p2) (fin64_core.mpr (own_idf (k := k367) hA (own_BU hA k367 (by omega)) (by omega)).2.2)) (pc' := 174) rfl ?_
  refine g_dcmp A487 at_174 (pc' := 175) rfl ?_
  refine g_ifN A487 at_175 (d_l_ne_f (own_selfN (dmul_out (i2d_fin p2) (fin64_core.mpr (own_idf (k := k367) hA (own_BU hA k367 (by omega)) (by omega)).2.2)))) (pc' := 178) rfl ?_
  refine g_iconst A487 at_178 (v := (1 : Int32)) rfl (pc' := 179) rfl ?_
  refine g_goto A487 at_179 (pc' := 183) rfl ?_
  refine g_istore A487 at_183 (ls' := #[.val (.int p0), .val (.int p1), .val (.int p2), .val (.int p3), .val (.int p4), .val (.int (p0 &&& (31 : Int32))), .val (.int (p1 &&& (31 : Int32))), .val (.int (Int32.ofNat k367)), .val (.int (Int32.ofNat k370)), .val (.double (FP.i2d (p0 &&& (31 : Int32)))), .second, .val (.double (FP.i2d (p1 &&& (31 : Int32)))), .second, .val (.double (FP.i2d p2)), .second, .val (.double a373), .second, .val (.double (own_B a373 k367)), .second, .val (.double (own_id a373 (own_B a373 k367) k367)), .second, .val (.double (own_B a373 k370)), .second, .val (.double (own_id a373 (own_B a373 k370) k370)), .second, .val (.ref a389), .val (.ref r427), .val (.int (1 : Int32)), .unset]) rfl (pc' := 185) rfl ?_
  refine g_iload A487 at_185 rfl (pc' := 187) rfl ?_
  refine g_ifN A487 at_187 (c0_eq_f (by decide)) (pc' := 190) rfl ?_
  refine g_dload A487 at_190 rfl (pc' := 192) rfl ?_
  refine g_dconst0 A487 at_192 (pc' := 193) rfl ?_
  refine g_dcmp A487 at_193 (pc' := 194) rfl ?_
  refine g_ifN A487 at_194 (d_l_lt_f (own_ge0' (own_BU hA k367 (by omega)))) (pc' := 197) rfl ?_
  refine g_dload A487 at_197 rfl (pc' := 199) rfl ?_
  refine g_dconst1 A487 at_199 (pc' := 200) rfl ?_
  refine g_dcmp A487 at_200 (pc' := 201) rfl ?_
  refine g_ifN A487 at_201 (d_g_gt_f (own_le1 (own_BU hA k367 (by omega)))) (pc' := 204) rfl ?_
  refine g_iconst A487 at_204 (v := (1 : Int32)) rfl (pc' := 205) rfl ?_
  refine g_goto A487 at_205 (pc' := 209) rfl ?_
  refine g_istore A487 at_209 (ls' := #[.val (.int p0), .val (.int p1), .val (.int p2), .val (.int p3), .val (.int p4), .val (.int (p0 &&& (31 : Int32))), .val (.int (p1 &&& (31 : Int32))), .val (.int (Int32.ofNat k367)), .val (.int (Int32.ofNat k370)), .val (.double (FP.i2d (p0 &&& (31 : Int32)))), .second, .val (.double (FP.i2d (p1 &&& (31 : Int32)))), .second, .val (.double (FP.i2d p2)), .second, .val (.double a373), .second, .val (.double (own_B a373 k367)), .second, .val (.double (own_id a373 (own_B a373 k367) k367)), .second, .val (.double (own_B a373 k370)), .second, .val (.double (own_id a373 (own_B a373 k370) k370)), .second, .val (.ref a389), .val (.ref r427), .val (.int (1 : Int32)), .unset]) rfl (pc' := 211) rfl ?_
  refine g_aload A487 at_211 rfl rfl (pc' := 213) rfl ?_
  refine g_iload A487 at_213 rfl (pc' := 215) rfl ?_
  have hp488 : k370 ≤ 4 := (by omega)
  have hp489 : k367 ≤ 1000 := (by omega)
  have hp490 : Fin64 (FP.i2d (p1 &&& (31 : Int32))) := (i2d_fin (p1 &&& (31 : Int32)))
  have hp491 : Fin64 (FP.i2d p2) := (i2d_fin p2)
  obtain ⟨cq493, kq493, q493a, q493b, q493c⟩ := isOf hZ e486 E441
  obtain ⟨vv492, _, ⟨T492, L492, k492, n492⟩, -, X492, ⟨L492c, hQ492, l492, y492, z492⟩, st492⟩ := X481.virtualBack hx (y := (⟨"com/example/retinue/retinue/RetainerModel", "pool", "(I)Lcom/example/retinue/retinue/RetainerModel$Pool;"⟩ : MethodName)) (z := (⟨"com/example/retinue/retinue/RetainerModel", "pool", "(I)Lcom/example/retinue/retinue/RetainerModel$Pool;"⟩ : MethodName)) hown (mvT hZ (hw _ (List.mem_of_getElem? (i := 32) rfl))) (mvT hZ (hw _ (List.mem_of_getElem? (i := 33) rfl))) (notFace_of_selects (args := #[]) (mvT hZ (hw _ (List.mem_of_getElem? (i := 35) rfl)))) (mvT hZ (hw _ (List.mem_of_getElem? (i := 35) rfl))) (mvT hZ (hw _ (List.mem_of_getElem? (i := 34) rfl))) (by decide) (backOf (W := 0) (rm5 l Z a0 hw [] a389 k370 ee402 k367 a373 (FP.i2d (p1 &&& (31 : Int32))) (FP.i2d p2) T425.heap n0 Z446 F442 F443 F444 E441 E445 F437 F438 F439 g418 ne420 hA hp488 hp489 hp490 hp491) hZ (hw _ (List.mem_of_getElem? (i := 36) rfl)) (hw _ (List.mem_of_getElem? (i := 7) rfl)) (by decide) (by decide)) q493a q493c (g := (mkF m 215 #[.val (.int p0), .val (.int p1), .val (.int p2), .val (.int p3), .val (.int p4), .val (.int (p0 &&& (31 : Int32))), .val (.int (p1 &&& (31 : Int32))), .val (.int (Int32.ofNat k367)), .val (.int (Int32.ofNat k370)), .val (.double (FP.i2d (p0 &&& (31 : Int32)))), .second, .val (.double (FP.i2d (p1 &&& (31 : Int32)))), .second, .val (.double (FP.i2d p2)), .second, .val (.double a373), .second, .val (.double (own_B a373 k367)), .second, .val (.double (own_id a373 (own_B a373 k367) k367)), .second, .val (.double (own_B a373 k370)), .second, .val (.double (own_id a373 (own_B a373 k370) k370)), .second, .val (.ref a389), .val (.ref r427), .val (.int (1 : Int32)), .unset] [(.int (Int32.ofNat k370)), (.ref a389)])) rfl (by rw [hml]; rfl) (Steps.refl _) (argsL := [(.int (Int32.ofNat k370))]) (rest := []) (lenOf pd_7 rfl) rfl (by show 2 * 0 + _ ≤ _; exact Nat.le_of_eq rfl) (hb hby at_215) (fun _ _ => ⟨rfl, e486, (by decide : 3 + 1 ≤ _), (by decide : 11 + 5 ≤ _)⟩)
  have hQ492b : Q5 Z a389 k370 ee402 k367 a373 (FP.i2d (p1 &&& (31 : Int32))) (FP.i2d p2) T425.heap n0 vv492 T492.heap L492c := hQ492
  clear hQ492
  dsimp only [Pt.U, Pt.locs, Pt.cells, Pt.slots] at X492 l492 y492 z492 st492
  subst y492 z492
  obtain ⟨r494, rfl, Nq495, Kq496, gx497, E498, F499, F500, F501, F502, F503, F504, F505, F506⟩ := hQ492b
  have N507 : Fr n0 L492 := by rw [l492]; exact Fr.app N485 Nq495
  refine Go.tr (g' := (mkF m 218 #[.val (.int p0), .val (.int p1), .val (.int p2), .val (.int p3), .val (.int p4), .val (.int (p0 &&& (31 : Int32))), .val (.int (p1 &&& (31 : Int32))), .val (.int (Int32.ofNat k367)), .val (.int (Int32.ofNat k370)), .val (.double (FP.i2d (p0 &&& (31 : Int32)))), .second, .val (.double (FP.i2d (p1 &&& (31 : Int32)))), .second, .val (.double (FP.i2d p2)), .second, .val (.double a373), .second, .val (.double (own_B a373 k367)), .second, .val (.double (own_id a373 (own_B a373 k367) k367)), .second, .val (.double (own_B a373 k370)), .second, .val (.double (own_id a373 (own_B a373 k370) k370)), .second, .val (.ref a389), .val (.ref r427), .val (.int (1 : Int32)), .unset] [(.ref r494)])) st492 ?_
  have E508 : Exa Z T492.heap a389 "com/example/retinue/retinue/RetainerModel" := Exa.keep E441 Kq496
  have F509 : Fld Z T492.heap a389 "com/example/retinue/retinue/RetainerModel" "meanRecruitSeconds" "D" (.double (FP.i2d (p1 &&& (31 : Int32)))) := Fld.keep F442 Kq496 (ninS ne420 nin0)
  have F510 : Fld Z T492.heap a389 "com/example/retinue/retinue/RetainerModel" "salaryPerMinute" "D" (.double (FP.i2d p2)) := Fld.keep F443 Kq496 (ninS ne420 nin0)
  have F511 : Fld Z T492.heap a389 "com/example/retinue/retinue/RetainerModel" "erlangB" "Lcom/example/retinue/retinue/ErlangB;" (.ref ee402) := Fld.keep F444 Kq496 (ninS ne420 nin0)
  have E512 : Exa Z T492.heap ee402 "com/example/retinue/retinue/ErlangB" := Exa.keep E445 Kq496
  have E513 : Exa Z T492.heap r427 "com/example/retinue/retinue/RetainerModel$Pool" := Exa.keep E431 Kq496
  have F514 : Fld Z T492.heap r427 "com/example/retinue/retinue/RetainerModel$Pool" "size" "I" (.int (Int32.ofNat k367)) := Fld.keep F432 Kq496 (ninS (Ne.symm ne452) nin0)
  have F515 : Fld Z T492.heap r427 "com/example/retinue/retinue/RetainerModel$Pool" "emptyProbability" "D" (.double (own_B a373 k367)) := Fld.keep F433 Kq496 (ninS (Ne.symm ne452) nin0)
  have F516 : Fld Z T492.heap r427 "com/example/retinue/retinue/RetainerModel$Pool" "meanWaitSeconds" "D" (.double (FP.dmul (own_B a373 k367) (FP.i2d (p1 &&& (31 : Int32))))) := Fld.keep F434 Kq496 (ninS (Ne.symm ne452) nin0)
  have F517 : Fld Z T492.heap r427 "com/example/retinue/retinue/RetainerModel$Pool" "idleWorkers" "D" (.double (own_id a373 (own_B a373 k367) k367)) := Fld.keep F435 Kq496 (ninS (Ne.symm ne452) nin0)
  have F518 : Fld Z T492.heap r427 "com/example/retinue/retinue/RetainerModel$Pool" "costPerMinute" "D" (.double (FP.dmul (FP.i2d p2) (own_id a373 (own_B a373 k367) k367))) := Fld.keep F436 Kq496 (ninS (Ne.symm ne452) nin0)
  have Z519 : n0 ≤ T492.heap.size := Nat.le_trans Z446 Kq496.1
  have K520 : Keep h0 T492.heap [] := K447.trans Kq496 (allS (Or.inr gh419) all0)
  have A521 := (⟨X492, hx, hby⟩ : Ax _ _ _ _ _ _ _ _ _ _ _ _ _ _ _)
  have g522 : n0 ≤ r494 := Nat.le_trans Z446 gx497
  have gh523 : h0.size ≤ r494 := Nat.le_trans K447.1 gx497
  have ne524 : a389 ≠ r494 := Nat.ne_of_lt (Nat.lt_of_lt_of_le E441.lt gx497)
  have ne525 : ee402 ≠ r494 := Nat.ne_of_lt (Nat.lt_of_lt_of_le E445.lt gx497)
  have ne526 : r427 ≠ r494 := Nat.ne_of_lt (Nat.lt_of_lt_of_le E431.lt gx497)
  refine g_astore A521 at_218 rfl (ls' := #[.val (.int p0), .val (.int p1), .val (.int p2), .val (.int p3), .val (.int p4), .val (.int (p0 &&& (31 : Int32))), .val (.int (p1 &&& (31 : Int32))), .val (.int (Int32.ofNat k367)), .val (.int (Int32.ofNat k370)), .val (.double (FP.i2d (p0 &&& (31 : Int32)))), .second, .val (.double (FP.i2d (p1 &&& (31 : Int32)))), .second, .val (.double (FP.i2d p2)), .second, .val (.double a373), .second, .val (.double (own_B a373 k367)), .second, .val (.double (own_id a373 (own_B a373 k367) k367)), .second, .val (.double (own_B a373 k370)), .second, .val (.double (own_id a373 (own_B a373 k370) k370)), .second, .val (.ref a389), .val (.ref r427), .val (.int (1 : Int32)), .val (.ref r494)]) rfl (pc' := 220) rfl ?_
  refine g_iload A521 at_220 rfl (pc' := 222) rfl ?_
  refine g_ifN A521 at_222 (c0_eq_f (by decide)) (pc' := 225) rfl ?_
  refine g_aload A521 at_225 rfl rfl (pc' := 227) rfl ?_
  obtain ⟨cq528, kq528, q528a, q528b, q528c⟩ := isOf hZ rfl E498
  obtain ⟨vv527, _, ⟨T527, L527, k527, n527⟩, -, X527, ⟨L527c, hQ527, l527, y527, z527⟩, st527⟩ := X492.virtualBack hx (y := (⟨"com/example/retinue/retinue/RetainerModel$Pool", "size", "()I"⟩ : MethodName)) (z := (⟨"com/example/retinue/retinue/RetainerModel$Pool", "size", "()I"⟩ : MethodName)) hown (mvT hZ (hw _ (List.mem_of_getElem? (i := 71) rfl))) (mvT hZ (hw _ (List.mem_of_getElem? (i := 72) rfl))) (notFace_of_selects (args := #[]) (mvT hZ (hw _ (List.mem_of_getElem? (i := 74) rfl)))) (mvT hZ (hw _ (List.mem_of_getElem? (i := 74) rfl))) (mvT hZ (hw _ (List.mem_of_getElem? (i := 73) rfl))) (by decide) (backOf (W := 0) (rm10 l Z a0 hw [] r494 (Int32.ofNat k370) T492.heap n0 Z519 F499) hZ (hw _ (List.mem_of_getElem? (i := 75) rfl)) (hw _ (List.mem_of_getElem? (i := 51) rfl)) (by decide) (by decide)) q528a q528c (g := (mkF m 227 #[.val (.int p0), .val (.int p1), .val (.int p2), .val (.int p3), .val (.int p4), .val (.int (p0 &&& (31 : Int32))), .val (.int (p1 &&& (31 : Int32))), .val (.int (Int32.ofNat k367)), .val (.int (Int32.ofNat k370)), .val (.double (FP.i2d (p0 &&& (31 : Int32)))), .second, .val (.double (FP.i2d (p1 &&& (31 : Int32)))), .second, .val (.double (FP.i2d p2)), .second, .val (.double a373), .second, .val (.double (own_B a373 k367)), .second, .val (.double (own_id a373 (own_B a373 k367) k367)), .second, .val (.double (own_B a373 k370)), .second, .val (.double (own_id a373 (own_B a373 k370) k370)), .second, .val (.ref a389), .val (.ref r427), .val (.int (1 : Int32)), .val (.ref r494)] [(.ref r494)])) rfl (by rw [hml]; rfl) (Steps.refl _) (argsL := []) (rest := []) (lenOf pd_8 rfl) rfl (by show 2 * 0 + _ ≤ _; exact Nat.le_of_eq rfl) (hb hby at_227) (fun _ _ => ⟨rfl, rfl, (by decide : 4 + 0 ≤ _), (by decide : 16 + 0 ≤ _)⟩)
  have hQ527b : Q10 Z r494 (Int32.ofNat k370) T492.heap n0 vv527 T527.heap L527c := hQ527
  clear hQ527
  dsimp only [Pt.U, Pt.locs, Pt.cells, Pt.slots] at X527 l527 y527 z527 st527
  subst y527 z527
  obtain ⟨rfl, Nq529, Kq530⟩ := hQ527b
  have N531 : Fr n0 L527 := by rw [l527]; exact Fr.app N507 Nq529
  refine Go.tr (g' := (mkF m 230 #[.val (.int p0), .val (.int p1), .val (.int p2), .val (.int p3), .val (.int p4), .val (.int (p0 &&& (31 : Int32))), .val (.int (p1 &&& (31 : Int32))), .val (.int (Int32.ofNat k367)), .val (.int (Int32.ofNat k370)), .val (.double (FP.i2d (p0 &&& (31 : Int32)))), .second, .val (.double (FP.i2d (p1 &&& (31 : Int32)))), .second, .val (.double (FP.i2d p2)), .second, .val (.double a373), .second, .val (.double (own_B a373 k367)), .second, .val (.double (own_id a373 (own_B a373 k367) k367)), .second, .val (.double (own_B a373 k370)), .second, .val (.double (own_id a373 (own_B a373 k370) k370)), .second, .val (.ref a389), .val (.ref r427), .val (.int (1 : Int32)), .val (.ref r494)] [(.int (Int32.ofNat k370))])) st527 ?_
  have e532 : T527.heap = T492.heap := Kq530
  have A533 := (⟨X527, hx, hby⟩ : Ax _ _ _ _ _ _ _ _ _ _ _ _ _ _ _)
  refine g_iload A533 at_230 rfl (pc' := 232) rfl ?_
  refine g_icN A533 at_232 (c2_ne_f rfl) (pc' := 235) rfl ?_
  refine g_aload A533 at_235 rfl rfl (pc' := 237) rfl ?_
  obtain ⟨cq535, kq535, q535a, q535b, q535c⟩ := isOf hZ e532 E498
  obtain ⟨vv534, _, ⟨T534, L534, k534, n534⟩, -, X534, ⟨L534c, hQ534, l534, y534, z534⟩, st534⟩ := X527.virtualBack hx (y := (⟨"com/example/retinue/retinue/RetainerModel$Pool", "emptyProbability", "()D"⟩ : MethodName)) (z := (⟨"com/example/retinue/retinue/RetainerModel$Pool", "emptyProbability", "()D"⟩ : MethodName)) hown (mvT hZ (hw _ (List.mem_of_getElem? (i := 76) rfl))) (mvT hZ (hw _ (List.mem_of_getElem? (i := 77) rfl))) (notFace_of_selects (args := #[]) (mvT hZ (hw _ (List.mem_of_getElem? (i := 79) rfl)))) (mvT hZ (hw _ (List.mem_of_getElem? (i := 79) rfl))) (mvT hZ (hw _ (List.mem_of_getElem? (i := 78) rfl))) (by decide) (backOf (W := 0) (rm11 l Z a0 hw [] r494 (own_B a373 k370) T492.heap n0 Z519 F500) hZ (hw _ (List.mem_of_getElem? (i := 80) rfl)) (hw _ (List.mem_of_getElem? (i := 51) rfl)) (by decide) (by decide)) q535a q535c (g := (mkF m 237 #[.val (.int p0), .val (.int p1), .val (.int p2), .val (.int p3), .val (.int p4), .val (.int (p0 &&& (31 : Int32))), .val (.int (p1 &&& (31 : Int32))), .val (.int (Int32.ofNat k367)), .val (.int (Int32.ofNat k370)), .val (.double (FP.i2d (p0 &&& (31 : Int32)))), .second, .val (.double (FP.i2d (p1 &&& (31 : Int32)))), .second, .val (.double (FP.i2d p2)), .second, .val (.double a373), .second, .val (.double (own_B a373 k367)), .second, .val (.double (own_id a373 (own_B a373 k367) k367)), .second, .val (.double (own_B a373 k370)), .second, .val (.double (own_id a373 (own_B a373 k370) k370)), .second, .val (.ref a389), .val (.ref r427), .val (.int (1 : Int32)), .val (.ref r494)] [(.ref r494)])) rfl (by rw [hml]; rfl) (Steps.refl _) (argsL := []) (rest := []) (lenOf pd_3 rfl) rfl (by show 2 * 0 + _ ≤ _; exact Nat.le_of_eq rfl) (hb hby at_237) (fun _ _ => ⟨rfl, e532, (by decide : 4 + 0 ≤ _), (by decide : 16 + 0 ≤ _)⟩)
  have hQ534b : Q11 Z r494 (own_B a373 k370) T492.heap n0 vv534 T534.heap L534c := hQ534
  clear hQ534
  dsimp only [Pt.U, Pt.locs, Pt.cells, Pt.slots] at X534 l534 y534 z534 st534
  subst y534 z534
  obtain ⟨rfl, Nq536, Kq537⟩ := hQ534b
  have N538 : Fr n0 L534 := by rw [l534]; exact Fr.app N531 Nq536
  refine Go.tr (g' := (mkF m 240 #[.val (.int p0), .val (.int p1), .val (.int p2), .val (.int p3), .val (.int p4), .val (.int (p0 &&& (31 : Int32))), .val (.int (p1 &&& (31 : Int32))), .val (.int (Int32.ofNat k367)), .val (.int (Int32.ofNat k370)), .val (.double (FP.i2d (p0 &&& (31 : Int32)))), .second, .val (.double (FP.i2d (p1 &&& (31 : Int32)))), .second, .val (.double (FP.i2d p2)), .second, .val (.double a373), .second, .val (.double (own_B a373 k367)), .second, .val (.double (own_id a373 (own_B a373 k367) k367)), .second, .val (.double (own_B a373 k370)), .second, .val (.double (own_id a373 (own_B a373 k370) k370)), .second, .val (.ref a389), .val (.ref r427), .val (.int (1 : Int32)), .val (.ref r494)] [(.double (own_B a373 k370))])) st534 ?_
  have e539 : T534.heap = T492.heap := Kq537
  have A540 := (⟨X534, hx, hby⟩ : Ax _ _ _ _ _ _ _ _ _ _ _ _ _ _ _)
  refine g_dload A540 at_240 rfl (pc' := 242) rfl ?_
  refine g_dcmp A540 at_242 (pc' := 243) rfl ?_
  refine g_ifN A540 at_243 (d_l_ne_f (own_self (own_Uf (own_BU hA k370 (by omega))))) (pc' := 246) rfl ?_
  refine g_aload A540 at_246 rfl rfl (pc' := 248) rfl ?_
  obtain ⟨cq542, kq542, q542a, q542b, q542c⟩ := isOf hZ e539 E498
  obtain ⟨vv541, _, ⟨T541, L541, k541, n541⟩, -, X541, ⟨L541c, hQ541, l541, y541, z541⟩, st541⟩ := X534.virtualBack hx (y := (⟨"com/example/retinue/retinue/RetainerModel$Pool", "idleWorkers", "()D"⟩ : MethodName)) (z := (⟨"com/example/retinue/retinue/RetainerModel$Pool", "idleWorkers", "()D"⟩ : MethodName)) hown (mvT hZ (hw _ (List.mem_of_getElem? (i := 86) rfl))) (mvT hZ (hw _ (List.mem_of_getElem? (i := 87) rfl))) (notFace_of_selects (args := #[]) (mvT hZ (hw _ (List.mem_of_getElem? (i := 89) rfl)))) (mvT hZ (hw _ (List.mem_of_getElem? (i := 89) rfl))) (mvT hZ (hw _ (List.mem_of_getElem? (i := 88) rfl))) (by decide) (backOf (W := 0) (rm13 l Z a0 hw [] r494 (own_id a373 (own_B a373 k370) k370) T492.heap n0 Z519 F502) hZ (hw _ (List.mem_of_getElem? (i := 90) rfl)) (hw _ (List.mem_of_getElem? (i := 51) rfl)) (by decide) (by decide)) q542a q542c (g := (mkF m 248 #[.val (.int p0), .val (.int p1), .val (.int p2), .val (.int p3), .val (.int p4), .val (.int (p0 &&& (31 : Int32))), .val (.int (p1 &&& (31 : Int32))), .val (.int (Int32.ofNat k367)), .val (.int (Int32.ofNat k370)), .val (.double (FP.i2d (p0 &&& (31 : Int32)))), .second, .val (.double (FP.i2d (p1 &&& (31 : Int32)))), .second, .val (.double (FP.i2d p2)), .second, .val (.double a373), .second, .val (.double (own_B a373 k367)), .second, .val (.double (own_id a373 (own_B a373 k367) k367)), .second, .val (.double (own_B a373 k370)), .second, .val (.double (own_id a373 (own_B a373 k370) k370)), .second, .val (.ref a389), .val (.ref r427), .val (.int (1 : Int32)), .val (.ref r494)] [(.ref r494)])) rfl (by rw [hml]; rfl) (Steps.refl _) (argsL := []) (rest := []) (lenOf pd_3 rfl) rfl (by show 2 * 0 + _ ≤ _; exact Nat.le_of_eq rfl) (hb hby at_248) (fun _ _ => ⟨rfl, e539, (by decide : 4 + 0 ≤ _), (by decide : 16 + 0 ≤ _)⟩)
  have hQ541b : Q13 Z r494 (own_id a373 (own_B a373 k370) k370) T492.heap n0 vv541 T541.heap L541c := hQ541
  clear hQ541
  dsimp only [Pt.U, Pt.locs, Pt.cells, Pt.slots] at X541 l541 y541 z541 st541
  subst y541 z541
  obtain ⟨rfl, Nq543, Kq544⟩ := hQ541b
  have N545 : Fr n0 L541 := by rw [l541]; exact Fr.app N538 Nq543
  refine Go.tr (g' := (mkF m 251 #[.val (.int p0), .val (.int p1), .val (.int p2), .val (.int p3), .val (.int p4), .val (.int (p0 &&& (31 : Int32))), .val (.int (p1 &&& (31 : Int32))), .val (.int (Int32.ofNat k367)), .val (.int (Int32.ofNat k370)), .val (.double (FP.i2d (p0 &&& (31 : Int32)))), .second, .val (.double (FP.i2d (p1 &&& (31 : Int32)))), .second, .val (.double (FP.i2d p2)), .second, .val (.double a373), .second, .val (.double (own_B a373 k367)), .second, .val (.double (own_id a373 (own_B a373 k367) k367)), .second, .val (.double (own_B a373 k370)), .second, .val (.double (own_id a373 (own_B a373 k370) k370)), .second, .val (.ref a389), .val (.ref r427), .val (.int (1 : Int32)), .val (.ref r494)] [(.double (own_id a373 (own_B a373 k370) k370))])) st541 ?_
  have e546 : T541.heap = T492.heap := Kq544
  have A547 := (⟨X541, hx, hby⟩ : Ax _ _ _ _ _ _ _ _ _ _ _ _ _ _ _)
  refine g_dload A547 at_251 rfl (pc' := 253) rfl ?_
  refine g_dcmp A547 at_253 (pc' := 254) rfl ?_
  refine g_ifN A547 at_254 (d_l_ne_f (own_self (fin64_core.mpr (own_idf (k := k370) hA (own_BU hA k370 (by omega)) (by omega)).2.2))) (pc' := 257) rfl ?_
  refine g_iconst A547 at_257 (v := (1 : Int32)) rfl (pc' := 258) rfl ?_
  refine g_goto A547 at_258 (pc' := 262) rfl ?_
  refine g_istore A547 at_262 (ls' := #[.val (.int p0), .val (.int p1), .val (.int p2), .val (.int p3), .val (.int p4), .val (.int (p0 &&& (31 : Int32))), .val (.int (p1 &&& (31 : Int32))), .val (.int (Int32.ofNat k367)), .val (.int (Int32.ofNat k370)), .val (.double (FP.i2d (p0 &&& (31 : Int32)))), .second, .val (.double (FP.i2d (p1 &&& (31 : Int32)))), .second, .val (.double (FP.i2d p2)), .second, .val (.double a373), .second, .val (.double (own_B a373 k367)), .second, .val (.double (own_id a373 (own_B a373 k367) k367)), .second, .val (.double (own_B a373 k370)), .second, .val (.double (own_id a373 (own_B a373 k370) k370)), .second, .val (.ref a389), .val (.ref r427), .val (.int (1 : Int32)), .val (.ref r494)]) rfl (pc' := 264) rfl ?_
  refine g_iload A547 at_264 rfl (pc' := 266) rfl ?_
  exact g_ret (Q := Q0 Z p0 p1 p2 p3 p4 h0 n0) A547 at_266 Bd.notSynchronized Bd.returns rfl (Or.inl ⟨rfl, by simp, _, rfl⟩) (by decide) (by decide) (by rw [e546]; exact ⟨rfl, N545⟩)
set_option maxRecDepth 65536 in
set_option maxHeartbeats 40000000 in
theorem comes_1 {Post : Tables → Env → Array Value → State → Outcome → State → Prop} (hpost : ∀ tb e args s v u, (limb_1_1.after args s (.returned v) u = true ∧ limb_1_2.after args s (.returned v) u = true ∧ True) → FrameEnd s (.returned v) u (Jvm.fieldLocs frame_1_writes args s ++ Jvm.arrayLocs frame_1_arrays args s ++ Jvm.staticLocs frame_1_statics s) 16 128 → Post tb e args s (.returned v) u) :
    ArmFor flags0 classFile x code maxLocals ret World_1 tables_1 room_1 Calls_1 rest_1 Pre_1 Post := by
  intro l hfl _ _ p e ha hc hk s m args below hf hA hF happ hP
  obtain ⟨hcalls, hrest, hpre⟩ := hP
  obtain ⟨-, -, -, hnamed, -, -, -, hat⟩ := (Spec.applies_iff hf).mp happ
  obtain ⟨hg, hn⟩ := and_e (Cond.before_iff.mp (show (Jvm.Cond.and given_1 narrow_1).before args s = true from hpre))
  obtain ⟨g0, hg1⟩ := and_e hg
  obtain ⟨w0, w1, w2, w3, w4, rfl⟩ : ∃ w0 w1 w2 w3 w4 : Value, args = #[w0, w1, w2, w3, w4] := by
    have hs : args.size = 5 := by simpa [Cond.value, given_1] using g0
    obtain ⟨L⟩ := args
    match L, hs with
    | [w0, w1, w2, w3, w4], _ => exact ⟨w0, w1, w2, w3, w4, rfl⟩
  have hw := fun d (hd : d ∈ tables_1) => atoms_spec (ws := Jvm.Cond.code x code maxLocals ret :: tables_1) hat d (List.mem_cons_of_mem _ hd)
  have hfit : Fit s := fun {y c} hc i hi => by
    obtain ⟨ha, rfl⟩ := Array.getElem?_eq_some_iff.mp hc
    have q := List.all_eq_true.mp ((Array.all_eq_true_iff_forall_mem.mp hF) _ (Array.getElem_mem ha)) i (List.mem_range.mpr hi)
    simpa [Array.getElem?_eq_getElem hi] using q
  obtain ⟨k0, hg2⟩ := and_e hg1
  obtain ⟨i0, j0⟩ := is_v k0
  obtain rfl : w0 = (.int i0) := Option.some.inj j0
  obtain ⟨k1, hg3⟩ := and_e hg2
  obtain ⟨i1, j1⟩ := is_v k1
  obtain rfl : w1 = (.int i1) := Option.some.inj j1
  obtain ⟨k2, hg4⟩ := and_e hg3
  obtain ⟨i2, j2⟩ := is_v k2
  obtain rfl : w2 = (.int i2) := Option.some.inj j2
  obtain ⟨k3, hg5⟩ := and_e hg4
  obtain ⟨i3, j3⟩ := is_v k3
  obtain rfl : w3 = (.int i3) := Option.some.inj j3
  obtain ⟨i4, j4⟩ := is_v hg5
  obtain rfl : w4 = (.int i4) := Option.some.inj j4
  obtain ⟨n, o, h1, h2, h3, _, L, rfl, ⟨rfl, N⟩, hq⟩ := rm0 l s _ hw tables_1 i0 i1 i2 i3 i4 s.heap s.heap.size (Nat.le_refl _)  p e ha hc hk s m _ below hf ((Spec.applies_iff_loose hf).mp happ).1 ⟨rfl, State.Warmed39.refl s, rfl⟩ trivial
  refine ⟨n, _, h1, h2, h3, hpost _ _ _ _ _ _ ⟨Cond.after_iff.mpr rfl, Cond.after_iff.mpr (eq_i res_at (Term.int_eval (1)) rfl), trivial⟩ ⟨hq.1, hq.2.1, (hq.2.2.sift fun y hy => Or.inr (N y hy)).mono (by decide) (by decide)⟩⟩
theorem main_1_1 : Claimed_1_1 := comes_1 fun _ _ _ _ _ _ h hF => ⟨h.1, hF⟩
theorem main_1_2 : Claimed_1_2 := comes_1 fun _ _ _ _ _ _ h hF => ⟨h.2.1, hF⟩
end Jvm.Pilot.@@N@@
namespace Jvm.Pilot.@@N@@
open Jvm Jvm.ClassFile Sem Op Lib Jvm.Free Jvm.Stand Jvm.Pilot.@@N@@.Jvm.D
/-! MADE BY PROGRAM (witnessworld.py) out of the Statement's table words and the real class files: 12 classes; the members and pool entries that the words name. The judged class is class 1, her method 2. -/
namespace start1
open Jvm.ClassFile
def u (s : String) : CpInfo := .utf8 (stringToUtf16 s)
/-- a pool by its gaps: so many unusable entries, then the entry; so many at the end -/
def gap : Nat → List CpInfo → List CpInfo
  | 0, r => r
  | n + 1, r => .unusable :: gap n r
def poolList (es : List (Nat × CpInfo)) (last : Nat) : List CpInfo := es.foldr (fun e r => gap e.1 (e.2 :: r)) (gap last [])
def pool (es : List (Nat × CpInfo)) (last : Nat) : Array CpInfo := ⟨poolList es last⟩
def fileOf (pool : Array CpInfo) (this : Nat) (attrs : Array Attribute := #[]) (ms : Array MethodInfo := #[]) (fl : Nat := 33) (sup : Nat := 0) (ifs : Array Nat := #[]) (fds : Array FieldInfo := #[]) : ClassFile where
  minorVersion := 0
  majorVersion := 65
  constantPool := pool
  accessFlags := fl
  thisClass := this
  superClass := sup
  interfaces := ifs
  fields := fds
  methods := ms
  attributes := attrs
def plain (name : String) (sup : Option ClassId) : Class where
  name := name
  kind := .ordinary
  loader := none
  accessFlags := 33
  super := sup
  interfaces := #[]
  cf := none
  fields := #[]
  methods := #[]
  instanceTypes := #[]
  staticTypes := #[]
  resolved := #[]
  callSites := []
  init := .initialized
  statics := none
  mirror := none

def pool0 : Array CpInfo := pool [(5, u "<init>"), (0, u "()V"), (1, .class_ 10), (1, u "java/lang/Object")] 113

def k0c0 : Code := { maxStack := 0, maxLocals := 1, code := object_method_1_code, exceptionTable := #[], attributes := #[] }
def k0m0 : Method := { name := "<init>", desc := "()V", sig := { parameters := [], returnType := none }, accessFlags := 1, code := some k0c0 }
/-- java/lang/Object -/
def k0 : Class := { plain "java/lang/Object" none with
  accessFlags := 33
  interfaces := #[]
  cf := some (fileOf pool0 8 #[] #[{ accessFlags := 1, nameIndex := 5, descriptorIndex := 6, attributes := #[] }] 33 0 #[] #[])
  fields := #[]
  methods := #[k0m0]
  instanceTypes := #[]
  staticTypes := #[]
  resolved := Array.replicate 124 none
  statics := none }

def pool1 : Array CpInfo := pool [(2, .class_ 4), (1, u "java/lang/Object"), (0, u "<init>"), (0, u "()V"), (0, .double 4611686018427387904), (1, .double 4613937818241073152), (1, .double 4616189618054758400), (1, .integer 2147483647), (0, .methodref 15 16), (0, .class_ 17), (0, .nameAndType 18 19), (0, u "com/example/retinue/retinue/RetainerModelPoolPinLaw"), (0, u "erlang"), (0, u "(DI)D"), (0, .class_ 21), (0, u "com/example/retinue/retinue/RetainerModel"), (0, .methodref 20 23), (0, .nameAndType 5 24), (0, u "(DDD)V"), (0, .methodref 20 26), (0, .nameAndType 27 28), (0, u "pool"), (0, u "(I)Lcom/example/retinue/retinue/RetainerModel$Pool;"), (0, .methodref 30 31), (0, .class_ 32), (0, .nameAndType 33 34), (0, u "com/example/retinue/retinue/RetainerModel$Pool"), (0, u "size"), (0, u "()I"), (0, .methodref 30 36), (0, .nameAndType 37 38), (0, u "emptyProbability"), (0, u "()D"), (0, .methodref 30 40), (0, .nameAndType 41 38), (0, u "meanWaitSeconds"), (0, .methodref 30 43), (0, .nameAndType 44 38), (0, u "idleWorkers"), (0, .methodref 30 46), (0, .nameAndType 47 38), (0, u "costPerMinute"), (3, u "law"), (0, u "(IIIII)Z")] 4

def k1m0 : Method := { name := "<init>", desc := "()V", sig := { parameters := [], returnType := none }, accessFlags := 1, code := none }
def k1c1 : Code := { maxStack := 6, maxLocals := 7, code := method_2_code, exceptionTable := #[], attributes := #[] }
def k1m1 : Method := { name := "erlang", desc := "(DI)D", sig := { parameters := [.double, .int], returnType := some .double }, accessFlags := 10, code := some k1c1 }
def k1c2 : Code := { maxStack := 8, maxLocals := 29, code := code, exceptionTable := #[], attributes := #[] }
def k1m2 : Method := { name := "law", desc := "(IIIII)Z", sig := { parameters := [.int, .int, .int, .int, .int], returnType := some .boolean }, accessFlags := 9, code := some k1c2 }
/-- com/example/retinue/retinue/RetainerModelPoolPinLaw -/
def k1 : Class := { plain "com/example/retinue/retinue/RetainerModelPoolPinLaw" (some 0) with
  accessFlags := 49
  interfaces := #[]
  cf := some (fileOf pool1 15 #[] #[{ accessFlags := 1, nameIndex := 5, descriptorIndex := 6, attributes := #[] }, { accessFlags := 10, nameIndex := 18, descriptorIndex := 19, attributes := #[] }, { accessFlags := 9, nameIndex := 51, descriptorIndex := 52, attributes := #[] }] 49 2 #[] #[])
  fields := #[]
  methods := #[k1m0, k1m1, k1m2]
  instanceTypes := #[]
  staticTypes := #[]
  resolved := Array.replicate 57 none
  statics := none }

def pool2 : Array CpInfo := pool [(1, .methodref 2 3), (0, .class_ 4), (0, .nameAndType 5 6), (0, u "java/lang/Object"), (0, u "<init>"), (0, u "()V"), (0, .fieldref 8 9), (0, .class_ 10), (0, .nameAndType 11 12), (0, u "com/example/retinue/retinue/RetainerModel"), (0, u "meanRecruitSeconds"), (0, u "D"), (0, .fieldref 8 14), (0, .nameAndType 15 12), (0, u "salaryPerMinute"), (0, .class_ 17), (0, u "com/example/retinue/retinue/ErlangB"), (0, .methodref 16 19), (0, .nameAndType 5 20), (0, u "(D)V"), (0, .fieldref 8 22), (0, .nameAndType 23 24), (0, u "erlangB"), (0, u "Lcom/example/retinue/retinue/ErlangB;"), (0, .methodref 16 26), (0, .nameAndType 27 28), (0, u "blocking"), (0, u "(I)D"), (0, .methodref 16 30), (0, .nameAndType 31 32), (0, u "load"), (0, u "()D"), (0, .class_ 34), (0, u "com/example/retinue/retinue/RetainerModel$Pool"), (0, .methodref 33 36), (0, .nameAndType 5 37), (0, u "(IDDDD)V"), (14, u "(DDD)V"), (2, u "pool"), (0, u "(I)Lcom/example/retinue/retinue/RetainerModel$Pool;")] 28

def k2c0 : Code := { maxStack := 7, maxLocals := 7, code := prog_22_method_1_code, exceptionTable := #[], attributes := #[] }
def k2m0 : Method := { name := "<init>", desc := "(DDD)V", sig := { parameters := [.double, .double, .double], returnType := none }, accessFlags := 0, code := some k2c0 }
def k2c1 : Code := { maxStack := 13, maxLocals := 6, code := prog_22_method_2_code, exceptionTable := #[], attributes := #[] }
def k2m1 : Method := { name := "pool", desc := "(I)Lcom/example/retinue/retinue/RetainerModel$Pool;", sig := { parameters := [.int], returnType := some (.object "com/example/retinue/retinue/RetainerModel$Pool") }, accessFlags := 0, code := some k2c1 }
/-- com/example/retinue/retinue/RetainerModel -/
def k2 : Class := { plain "com/example/retinue/retinue/RetainerModel" (some 0) with
  accessFlags := 48
  interfaces := #[]
  cf := some (fileOf pool2 8 #[.nestMembers #[33]] #[{ accessFlags := 0, nameIndex := 5, descriptorIndex := 52, attributes := #[] }, { accessFlags := 0, nameIndex := 55, descriptorIndex := 56, attributes := #[] }] 48 2 #[] #[{ accessFlags := 18, nameIndex := 11, descriptorIndex := 12, attributes := #[] }, { accessFlags := 18, nameIndex := 15, descriptorIndex := 12, attributes := #[] }, { accessFlags := 18, nameIndex := 23, descriptorIndex := 24, attributes := #[] }])
  fields := #[{ name := "meanRecruitSeconds", type := .double, accessFlags := 18, slot := 0, constantValue := 0 }, { name := "salaryPerMinute", type := .double, accessFlags := 18, slot := 1, constantValue := 0 }, { name := "erlangB", type := (.object "com/example/retinue/retinue/ErlangB"), accessFlags := 18, slot := 2, constantValue := 0 }]
  methods := #[k2m0, k2m1]
  instanceTypes := #[.double, .double, (.object "com/example/retinue/retinue/ErlangB")]
  staticTypes := #[]
  resolved := Array.replicate 85 none
  statics := none }

def pool3 : Array CpInfo := pool [(1, .methodref 2 3), (0, .class_ 4), (0, .nameAndType 5 6), (0, u "java/lang/Object"), (0, u "<init>"), (0, u "()V"), (0, .fieldref 8 9), (0, .class_ 10), (0, .nameAndType 11 12), (0, u "com/example/retinue/retinue/ErlangB"), (0, u "blocking"), (0, u "D"), (2, .double 9218868437227405312), (10, .fieldref 8 27), (0, .nameAndType 28 12), (0, u "load"), (3, .fieldref 8 33), (0, .nameAndType 34 35), (0, u "servers"), (0, u "I"), (0, u "(D)V"), (3, u "()D"), (0, u "(I)D")] 19

def k3c0 : Code := { maxStack := 4, maxLocals := 3, code := prog_6_method_1_code, exceptionTable := #[], attributes := #[] }
def k3m0 : Method := { name := "<init>", desc := "(D)V", sig := { parameters := [.double], returnType := none }, accessFlags := 0, code := some k3c0 }
def k3c1 : Code := { maxStack := 2, maxLocals := 1, code := prog_6_method_2_code, exceptionTable := #[], attributes := #[] }
def k3m1 : Method := { name := "load", desc := "()D", sig := { parameters := [], returnType := some .double }, accessFlags := 0, code := some k3c1 }
def k3c2 : Code := { maxStack := 7, maxLocals := 4, code := prog_6_method_3_code, exceptionTable := #[], attributes := #[] }
def k3m2 : Method := { name := "blocking", desc := "(I)D", sig := { parameters := [.int], returnType := some .double }, accessFlags := 0, code := some k3c2 }
/-- com/example/retinue/retinue/ErlangB -/
def k3 : Class := { plain "com/example/retinue/retinue/ErlangB" (some 0) with
  accessFlags := 48
  interfaces := #[]
  cf := some (fileOf pool3 8 #[] #[{ accessFlags := 0, nameIndex := 5, descriptorIndex := 36, attributes := #[] }, { accessFlags := 0, nameIndex := 28, descriptorIndex := 40, attributes := #[] }, { accessFlags := 0, nameIndex := 11, descriptorIndex := 41, attributes := #[] }] 48 2 #[] #[{ accessFlags := 18, nameIndex := 28, descriptorIndex := 12, attributes := #[] }, { accessFlags := 2, nameIndex := 34, descriptorIndex := 35, attributes := #[] }, { accessFlags := 2, nameIndex := 11, descriptorIndex := 12, attributes := #[] }])
  fields := #[{ name := "load", type := .double, accessFlags := 18, slot := 0, constantValue := 0 }, { name := "servers", type := .int, accessFlags := 2, slot := 1, constantValue := 0 }, { name := "blocking", type := .double, accessFlags := 2, slot := 2, constantValue := 0 }]
  methods := #[k3m0, k3m1, k3m2]
  instanceTypes := #[.double, .int, .double]
  staticTypes := #[]
  resolved := Array.replicate 61 none
  statics := none }

def pool4 : Array CpInfo := pool [(1, .methodref 2 3), (0, .class_ 4), (0, .nameAndType 5 6), (0, u "java/lang/Object"), (0, u "<init>"), (0, u "()V"), (0, .class_ 8), (0, u "java/lang/Record")] 13

def k4c0 : Code := { maxStack := 1, maxLocals := 1, code := jdk_30_method_1_code, exceptionTable := #[], attributes := #[] }
def k4m0 : Method := { name := "<init>", desc := "()V", sig := { parameters := [], returnType := none }, accessFlags := 4, code := some k4c0 }
/-- java/lang/Record -/
def k4 : Class := { plain "java/lang/Record" (some 0) with
  accessFlags := 1057
  interfaces := #[]
  cf := some (fileOf pool4 7 #[] #[{ accessFlags := 4, nameIndex := 5, descriptorIndex := 6, attributes := #[] }] 1057 2 #[] #[])
  fields := #[]
  methods := #[k4m0]
  instanceTypes := #[]
  staticTypes := #[]
  resolved := Array.replicate 22 none
  statics := none }

def pool5 : Array CpInfo := pool [(1, .methodref 2 3), (0, .class_ 4), (0, .nameAndType 5 6), (0, u "java/lang/Record"), (0, u "<init>"), (0, u "()V"), (0, .fieldref 8 9), (0, .class_ 10), (0, .nameAndType 11 12), (0, u "com/example/retinue/retinue/RetainerModel$Pool"), (0, u "size"), (0, u "I"), (0, .fieldref 8 14), (0, .nameAndType 15 16), (0, u "emptyProbability"), (0, u "D"), (0, .fieldref 8 18), (0, .nameAndType 19 16), (0, u "meanWaitSeconds"), (0, .fieldref 8 21), (0, .nameAndType 22 16), (0, u "idleWorkers"), (0, .fieldref 8 24), (0, .nameAndType 25 16), (0, u "costPerMinute"), (12, u "(IDDDD)V"), (4, u "()I"), (1, u "()D"), (3, .class_ 50), (0, u "com/example/retinue/retinue/RetainerModel")] 23

def k5c0 : Code := { maxStack := 3, maxLocals := 10, code := prog_23_method_1_code, exceptionTable := #[], attributes := #[] }
def k5m0 : Method := { name := "<init>", desc := "(IDDDD)V", sig := { parameters := [.int, .double, .double, .double, .double], returnType := none }, accessFlags := 0, code := some k5c0 }
def k5c1 : Code := { maxStack := 1, maxLocals := 1, code := prog_23_method_5_code, exceptionTable := #[], attributes := #[] }
def k5m1 : Method := { name := "size", desc := "()I", sig := { parameters := [], returnType := some .int }, accessFlags := 1, code := some k5c1 }
def k5c2 : Code := { maxStack := 2, maxLocals := 1, code := prog_23_method_6_code, exceptionTable := #[], attributes := #[] }
def k5m2 : Method := { name := "emptyProbability", desc := "()D", sig := { parameters := [], returnType := some .double }, accessFlags := 1, code := some k5c2 }
def k5c3 : Code := { maxStack := 2, maxLocals := 1, code := prog_23_method_7_code, exceptionTable := #[], attributes := #[] }
def k5m3 : Method := { name := "meanWaitSeconds", desc := "()D", sig := { parameters := [], returnType := some .double }, accessFlags := 1, code := some k5c3 }
def k5c4 : Code := { maxStack := 2, maxLocals := 1, code := prog_23_method_8_code, exceptionTable := #[], attributes := #[] }
def k5m4 : Method := { name := "idleWorkers", desc := "()D", sig := { parameters := [], returnType := some .double }, accessFlags := 1, code := some k5c4 }
def k5c5 : Code := { maxStack := 2, maxLocals := 1, code := prog_23_method_9_code, exceptionTable := #[], attributes := #[] }
def k5m5 : Method := { name := "costPerMinute", desc := "()D", sig := { parameters := [], returnType := some .double }, accessFlags := 1, code := some k5c5 }
/-- com/example/retinue/retinue/RetainerModel$Pool -/
def k5 : Class := { plain "com/example/retinue/retinue/RetainerModel$Pool" (some 4) with
  accessFlags := 48
  interfaces := #[]
  cf := some (fileOf pool5 8 #[.nestHost 49] #[{ accessFlags := 0, nameIndex := 5, descriptorIndex := 38, attributes := #[] }, { accessFlags := 1, nameIndex := 11, descriptorIndex := 43, attributes := #[] }, { accessFlags := 1, nameIndex := 15, descriptorIndex := 45, attributes := #[] }, { accessFlags := 1, nameIndex := 19, descriptorIndex := 45, attributes := #[] }, { accessFlags := 1, nameIndex := 22, descriptorIndex := 45, attributes := #[] }, { accessFlags := 1, nameIndex := 25, descriptorIndex := 45, attributes := #[] }] 48 2 #[] #[{ accessFlags := 18, nameIndex := 11, descriptorIndex := 12, attributes := #[] }, { accessFlags := 18, nameIndex := 15, descriptorIndex := 16, attributes := #[] }, { accessFlags := 18, nameIndex := 19, descriptorIndex := 16, attributes := #[] }, { accessFlags := 18, nameIndex := 22, descriptorIndex := 16, attributes := #[] }, { accessFlags := 18, nameIndex := 25, descriptorIndex := 16, attributes := #[] }])
  fields := #[{ name := "size", type := .int, accessFlags := 18, slot := 0, constantValue := 0 }, { name := "emptyProbability", type := .double, accessFlags := 18, slot := 1, constantValue := 0 }, { name := "meanWaitSeconds", type := .double, accessFlags := 18, slot := 2, constantValue := 0 }, { name := "idleWorkers", type := .double, accessFlags := 18, slot := 3, constantValue := 0 }, { name := "costPerMinute", type := .double, accessFlags := 18, slot := 4, constantValue := 0 }]
  methods := #[k5m0, k5m1, k5m2, k5m3, k5m4, k5m5]
  instanceTypes := #[.int, .double, .double, .double, .double]
  staticTypes := #[]
  resolved := Array.replicate 74 none
  statics := none }

def pool6 : Array CpInfo := pool [(1, u "java/lang/Cloneable"), (0, .class_ 1), (0, u "java/lang/Object"), (0, .class_ 3)] 3

/-- java/lang/Cloneable -/
def k6 : Class := { plain "java/lang/Cloneable" (some 0) with
  accessFlags := 1537
  interfaces := #[]
  cf := some (fileOf pool6 2 #[] #[] 1537 4 #[] #[])
  fields := #[]
  methods := #[]
  instanceTypes := #[]
  staticTypes := #[]
  resolved := Array.replicate 8 none
  statics := none }

def pool7 : Array CpInfo := pool [(1, u "java/io/Serializable"), (0, .class_ 1), (0, u "java/lang/Object"), (0, .class_ 3)] 3

/-- java/io/Serializable -/
def k7 : Class := { plain "java/io/Serializable" (some 0) with
  accessFlags := 1537
  interfaces := #[]
  cf := some (fileOf pool7 2 #[] #[] 1537 4 #[] #[])
  fields := #[]
  methods := #[]
  instanceTypes := #[]
  staticTypes := #[]
  resolved := Array.replicate 8 none
  statics := none }

/-- the primitive byte -/
def k8 : Class := { plain "byte" none with kind := .primitive 'B', accessFlags := 0x411 }
/-- [B -/
def k9 : Class := { plain "[B" (some 0) with kind := .array 8 .byte, interfaces := #[6, 7], accessFlags := 1041 }

/-- the primitive int -/
def k10 : Class := { plain "int" none with kind := .primitive 'I', accessFlags := 0x411 }
/-- [I -/
def k11 : Class := { plain "[I" (some 0) with kind := .array 10 .int, interfaces := #[6, 7], accessFlags := 1041 }

def heap : Heap := #[]
def classes : Array Class := #[k0, k1, k2, k3, k4, k5, k6, k7, k8, k9, k10, k11]
def interned : List (Array UInt16 × Addr) := []
def slotsUsed : Nat := 0
def theMethod : MethodId := ⟨1, 2⟩
def args0 : Array Value := #[.int 5, .int 3, .int 1, .int 9, .int 4]
def aboutOver (below : List Frame) : State where
  vm := { classes := classes, interned := interned.toArray }
  heap := heap
  slotsUsed := slotsUsed
  threads := #[{ frames := .invoking theMethod args0 :: below }]
def below0 : List Frame := [.native { method := ⟨0, 0⟩, args := #[] }]
def about1 : State := aboutOver below0
def p0 : Program := .bare "" "" ""
def e0 : Env := launch0.env 0 0 0
theorem w_frames : about1.frames = Frame.invoking theMethod args0 :: below0 := rfl
set_option maxRecDepth 65536 in
theorem w_args : argsFit about1.vm theMethod args0 = true := by decide +kernel
set_option maxRecDepth 65536 in
theorem w_heap : heapFits about1 = true := by decide +kernel
set_option maxRecDepth 65536 in
theorem w_runnable : about1.curStatus? = some .runnable := by decide +kernel
set_option maxRecDepth 65536 in
theorem w_alone : about1.alone = true := by decide +kernel
set_option maxRecDepth 65536 in
theorem w_named : about1.methodNamed? x = some theMethod := by decide +kernel
set_option maxRecDepth 65536 in
theorem w_hears : about1.hears theMethod below0 = true := by decide +kernel
set_option maxRecDepth 65536 in
theorem w_ripe : about1.ripe theMethod args0 below0 = true := by decide +kernel
theorem w_running : about1.status = .running := rfl
set_option maxRecDepth 65536 in
theorem w_room : about1.hasRoom e0.platform room_1 = true :=
  launch0.hasRoom_least _ room_1 (by decide +kernel) (by decide +kernel) (by decide +kernel) (by decide +kernel) (by decide +kernel) (by decide +kernel)
theorem allAtoms_all (ts : List Jvm.Cond) (a : Array Jvm.Value) (st : Jvm.State) : (allAtoms ts).before a st = ts.all (fun c => c.before a st) := by
  induction ts with
  | nil => rfl
  | cons c t ih =>
    show (Jvm.Cond.and c (allAtoms t)).before a st = _
    rw [Jvm.Cond.before_and, ih, List.all_cons]
def words1 : List Jvm.Cond := Jvm.Cond.code x code maxLocals ret :: tables_1
/-- a 'code' word, met by the world's own term for the bytes: nothing is compared byte by byte -/
theorem code_word {y : MethodName} {bytes : ByteArray} {mx : Nat} {rt : Option FieldType} {a : Array Value} {s : State} {m : MethodId} {meth : Method} {c : Code} (h1 : s.methodNamed? y = some m) (h2 : s.vm.method? m = some meth) (h3 : meth.code = some c) (h4 : c.code = bytes)
    (h5 : (c.maxLocals == mx && c.exceptionTable.isEmpty && decide (c.maxStack ≤ mostOperands) && decide (meth.sig.returnType = rt) && !meth.locks && decide (parseMethodDescriptor y.desc = some meth.sig)) = true) : (Jvm.Cond.code y bytes mx rt).before a s = true := by
  simp only [Bool.and_eq_true, beq_iff_eq, Bool.not_eq_true', decide_eq_true_eq] at h5
  obtain ⟨⟨⟨⟨⟨g1, g2⟩, g3⟩, g4⟩, g5⟩, g6⟩ := h5
  simp [Cond.before, Cond.holds, Cond.value, h1, h2, h3, h4, g1, g2, g3, g4, g5, g6]
def isCode : Jvm.Cond → Bool
  | .code _ _ _ _ => true
  | _ => false
theorem all_split {L : List Jvm.Cond} {P : Jvm.Cond → Bool} (h1 : L.all (fun c => isCode c || P c) = true) (h2 : ∀ c ∈ L.filter isCode, P c = true) : L.all P = true := by
  refine List.all_eq_true.mpr fun c hc => ?_
  have h := List.all_eq_true.mp h1 c hc
  rcases Bool.eq_false_or_eq_true (isCode c) with hi | hi
  · exact h2 c (List.mem_filter.mpr ⟨hc, hi⟩)
  · simpa [hi] using h
set_option maxRecDepth 65536 in
theorem w_c0 : (Jvm.Cond.code x code maxLocals ret).before args0 about1 = true := code_word (m := ⟨1, 2⟩) (meth := k1m2) (c := k1c2) (by decide +kernel) rfl rfl rfl (by decide +kernel)
set_option maxRecDepth 65536 in
theorem w_c1 : (Jvm.Cond.code ({ cls := "com/example/retinue/retinue/RetainerModelPoolPinLaw", name := "erlang", desc := "(DI)D" } : Jvm.MethodName) method_2_code (7 : Nat) (Option.some Jvm.ClassFile.FieldType.double)).before args0 about1 = true := code_word (m := ⟨1, 1⟩) (meth := k1m1) (c := k1c1) (by decide +kernel) rfl rfl rfl (by decide +kernel)
set_option maxRecDepth 65536 in
theorem w_c2 : (Jvm.Cond.code ({ cls := "com/example/retinue/retinue/RetainerModel", name := "<init>", desc := "(DDD)V" } : Jvm.MethodName) prog_22_method_1_code (7 : Nat) (Option.none : Option Jvm.ClassFile.FieldType)).before args0 about1 = true := code_word (m := ⟨2, 0⟩) (meth := k2m0) (c := k2c0) (by decide +kernel) rfl rfl rfl (by decide +kernel)
set_option maxRecDepth 65536 in
theorem w_c3 : (Jvm.Cond.code ({ cls := "java/lang/Object", name := "<init>", desc := "()V" } : Jvm.MethodName) object_method_1_code (1 : Nat) (Option.none : Option Jvm.ClassFile.FieldType)).before args0 about1 = true := code_word (m := ⟨0, 0⟩) (meth := k0m0) (c := k0c0) (by decide +kernel) rfl rfl rfl (by decide +kernel)
set_option maxRecDepth 65536 in
theorem w_c4 : (Jvm.Cond.code ({ cls := "com/example/retinue/retinue/ErlangB", name := "<init>", desc := "(D)V" } : Jvm.MethodName) prog_6_method_1_code (3 : Nat) (Option.none : Option Jvm.ClassFile.FieldType)).before args0 about1 = true := code_word (m := ⟨3, 0⟩) (meth := k3m0) (c := k3c0) (by decide +kernel) rfl rfl rfl (by decide +kernel)
set_option maxRecDepth 65536 in
theorem w_c5 : (Jvm.Cond.code ({ cls := "com/example/retinue/retinue/RetainerModel", name := "pool", desc := "(I)Lcom/example/retinue/retinue/RetainerModel$Pool;" } : Jvm.MethodName) prog_22_method_2_code (6 : Nat) (Option.some (Jvm.ClassFile.FieldType.object "com/example/retinue/retinue/RetainerModel$Pool"))).before args0 about1 = true := code_word (m := ⟨2, 1⟩) (meth := k2m1) (c := k2c1) (by decide +kernel) rfl rfl rfl (by decide +kernel)
set_option maxRecDepth 65536 in
theorem w_c6 : (Jvm.Cond.code ({ cls := "com/example/retinue/retinue/ErlangB", name := "blocking", desc := "(I)D" } : Jvm.MethodName) prog_6_method_3_code (4 : Nat) (Option.some Jvm.ClassFile.FieldType.double)).before args0 about1 = true := code_word (m := ⟨3, 2⟩) (meth := k3m2) (c := k3c2) (by decide +kernel) rfl rfl rfl (by decide +kernel)
set_option maxRecDepth 65536 in
theorem w_c7 : (Jvm.Cond.code ({ cls := "com/example/retinue/retinue/ErlangB", name := "load", desc := "()D" } : Jvm.MethodName) prog_6_method_2_code (1 : Nat) (Option.some Jvm.ClassFile.FieldType.double)).before args0 about1 = true := code_word (m := ⟨3, 1⟩) (meth := k3m1) (c := k3c1) (by decide +kernel) rfl rfl rfl (by decide +kernel)
set_option maxRecDepth 65536 in
theorem w_c8 : (Jvm.Cond.code ({ cls := "com/example/retinue/retinue/RetainerModel$Pool", name := "<init>", desc := "(IDDDD)V" } : Jvm.MethodName) prog_23_method_1_code (10 : Nat) (Option.none : Option Jvm.ClassFile.FieldType)).before args0 about1 = true := code_word (m := ⟨5, 0⟩) (meth := k5m0) (c := k5c0) (by decide +kernel) rfl rfl rfl (by decide +kernel)
set_option maxRecDepth 65536 in
theorem w_c9 : (Jvm.Cond.code ({ cls := "java/lang/Record", name := "<init>", desc := "()V" } : Jvm.MethodName) jdk_30_method_1_code (1 : Nat) (Option.none : Option Jvm.ClassFile.FieldType)).before args0 about1 = true := code_word (m := ⟨4, 0⟩) (meth := k4m0) (c := k4c0) (by decide +kernel) rfl rfl rfl (by decide +kernel)
set_option maxRecDepth 65536 in
theorem w_c10 : (Jvm.Cond.code ({ cls := "com/example/retinue/retinue/RetainerModel$Pool", name := "size", desc := "()I" } : Jvm.MethodName) prog_23_method_5_code (1 : Nat) (Option.some Jvm.ClassFile.FieldType.int)).before args0 about1 = true := code_word (m := ⟨5, 1⟩) (meth := k5m1) (c := k5c1) (by decide +kernel) rfl rfl rfl (by decide +kernel)
set_option maxRecDepth 65536 in
theorem w_c11 : (Jvm.Cond.code ({ cls := "com/example/retinue/retinue/RetainerModel$Pool", name := "emptyProbability", desc := "()D" } : Jvm.MethodName) prog_23_method_6_code (1 : Nat) (Option.some Jvm.ClassFile.FieldType.double)).before args0 about1 = true := code_word (m := ⟨5, 2⟩) (meth := k5m2) (c := k5c2) (by decide +kernel) rfl rfl rfl (by decide +kernel)
set_option maxRecDepth 65536 in
theorem w_c12 : (Jvm.Cond.code ({ cls := "com/example/retinue/retinue/RetainerModel$Pool", name := "meanWaitSeconds", desc := "()D" } : Jvm.MethodName) prog_23_method_7_code (1 : Nat) (Option.some Jvm.ClassFile.FieldType.double)).before args0 about1 = true := code_word (m := ⟨5, 3⟩) (meth := k5m3) (c := k5c3) (by decide +kernel) rfl rfl rfl (by decide +kernel)
set_option maxRecDepth 65536 in
theorem w_c13 : (Jvm.Cond.code ({ cls := "com/example/retinue/retinue/RetainerModel$Pool", name := "idleWorkers", desc := "()D" } : Jvm.MethodName) prog_23_method_8_code (1 : Nat) (Option.some Jvm.ClassFile.FieldType.double)).before args0 about1 = true := code_word (m := ⟨5, 4⟩) (meth := k5m4) (c := k5c4) (by decide +kernel) rfl rfl rfl (by decide +kernel)
set_option maxRecDepth 65536 in
theorem w_c14 : (Jvm.Cond.code ({ cls := "com/example/retinue/retinue/RetainerModel$Pool", name := "costPerMinute", desc := "()D" } : Jvm.MethodName) prog_23_method_9_code (1 : Nat) (Option.some Jvm.ClassFile.FieldType.double)).before args0 about1 = true := code_word (m := ⟨5, 5⟩) (meth := k5m5) (c := k5c5) (by decide +kernel) rfl rfl rfl (by decide +kernel)
def codes1 : List Jvm.Cond := [Jvm.Cond.code x code maxLocals ret, Jvm.Cond.code ({ cls := "com/example/retinue/retinue/RetainerModelPoolPinLaw", name := "erlang", desc := "(DI)D" } : Jvm.MethodName) method_2_code (7 : Nat) (Option.some Jvm.ClassFile.FieldType.double), Jvm.Cond.code ({ cls := "com/example/retinue/retinue/RetainerModel", name := "<init>", desc := "(DDD)V" } : Jvm.MethodName) prog_22_method_1_code (7 : Nat) (Option.none : Option Jvm.ClassFile.FieldType), Jvm.Cond.code ({ cls := "java/lang/Object", name := "<init>", desc := "()V" } : Jvm.MethodName) object_method_1_code (1 : Nat) (Option.none : Option Jvm.ClassFile.FieldType), Jvm.Cond.code ({ cls := "com/example/retinue/retinue/ErlangB", name := "<init>", desc := "(D)V" } : Jvm.MethodName) prog_6_method_1_code (3 : Nat) (Option.none : Option Jvm.ClassFile.FieldType), Jvm.Cond.code ({ cls := "com/example/retinue/retinue/RetainerModel", name := "pool", desc := "(I)Lcom/example/retinue/retinue/RetainerModel$Pool;" } : Jvm.MethodName) prog_22_method_2_code (6 : Nat) (Option.some (Jvm.ClassFile.FieldType.object "com/example/retinue/retinue/RetainerModel$Pool")), Jvm.Cond.code ({ cls := "com/example/retinue/retinue/ErlangB", name := "blocking", desc := "(I)D" } : Jvm.MethodName) prog_6_method_3_code (4 : Nat) (Option.some Jvm.ClassFile.FieldType.double), Jvm.Cond.code ({ cls := "com/example/retinue/retinue/ErlangB", name := "load", desc := "()D" } : Jvm.MethodName) prog_6_method_2_code (1 : Nat) (Option.some Jvm.ClassFile.FieldType.double), Jvm.Cond.code ({ cls := "com/example/retinue/retinue/RetainerModel$Pool", name := "<init>", desc := "(IDDDD)V" } : Jvm.MethodName) prog_23_method_1_code (10 : Nat) (Option.none : Option Jvm.ClassFile.FieldType), Jvm.Cond.code ({ cls := "java/lang/Record", name := "<init>", desc := "()V" } : Jvm.MethodName) jdk_30_method_1_code (1 : Nat) (Option.none : Option Jvm.ClassFile.FieldType), Jvm.Cond.code ({ cls := "com/example/retinue/retinue/RetainerModel$Pool", name := "size", desc := "()I" } : Jvm.MethodName) prog_23_method_5_code (1 : Nat) (Option.some Jvm.ClassFile.FieldType.int), Jvm.Cond.code ({ cls := "com/example/retinue/retinue/RetainerModel$Pool", name := "emptyProbability", desc := "()D" } : Jvm.MethodName) prog_23_method_6_code (1 : Nat) (Option.some Jvm.ClassFile.FieldType.double), Jvm.Cond.code ({ cls := "com/example/retinue/retinue/RetainerModel$Pool", name := "meanWaitSeconds", desc := "()D" } : Jvm.MethodName) prog_23_method_7_code (1 : Nat) (Option.some Jvm.ClassFile.FieldType.double), Jvm.Cond.code ({ cls := "com/example/retinue/retinue/RetainerModel$Pool", name := "idleWorkers", desc := "()D" } : Jvm.MethodName) prog_23_method_8_code (1 : Nat) (Option.some Jvm.ClassFile.FieldType.double), Jvm.Cond.code ({ cls := "com/example/retinue/retinue/RetainerModel$Pool", name := "costPerMinute", desc := "()D" } : Jvm.MethodName) prog_23_method_9_code (1 : Nat) (Option.some Jvm.ClassFile.FieldType.double)]
set_option maxRecDepth 65536 in
theorem codes_eq : words1.filter isCode = codes1 := rfl
theorem w_codes : ∀ c ∈ words1.filter isCode, c.before args0 about1 = true := by
  rw [codes_eq]
  intro c hc
  simp only [codes1, List.mem_cons, List.not_mem_nil, or_false] at hc
  rcases hc with rfl | rfl | rfl | rfl | rfl | rfl | rfl | rfl | rfl | rfl | rfl | rfl | rfl | rfl | rfl
  · exact w_c0
  · exact w_c1
  · exact w_c2
  · exact w_c3
  · exact w_c4
  · exact w_c5
  · exact w_c6
  · exact w_c7
  · exact w_c8
  · exact w_c9
  · exact w_c10
  · exact w_c11
  · exact w_c12
  · exact w_c13
  · exact w_c14
set_option maxRecDepth 65536 in
theorem w_t1 : (words1.take 24).all (fun c => isCode c || c.before args0 about1) = true := by decide +kernel
set_option maxRecDepth 65536 in
theorem w_t2 : ((words1.drop 24).take 24).all (fun c => isCode c || c.before args0 about1) = true := by decide +kernel
set_option maxRecDepth 65536 in
theorem w_t3 : (((words1.drop 24).drop 24).take 24).all (fun c => isCode c || c.before args0 about1) = true := by decide +kernel
set_option maxRecDepth 65536 in
theorem w_t4 : ((((words1.drop 24).drop 24).drop 24).take 24).all (fun c => isCode c || c.before args0 about1) = true := by decide +kernel
set_option maxRecDepth 65536 in
theorem w_t5 : ((((words1.drop 24).drop 24).drop 24).drop 24).all (fun c => isCode c || c.before args0 about1) = true := by decide +kernel
theorem w_tables : (allAtoms (Jvm.Cond.code x code maxLocals ret :: tables_1)).before args0 about1 = true := by
  rw [allAtoms_all]
  show words1.all (fun c => c.before args0 about1) = true
  refine all_split ?_ w_codes
  rw [← List.take_append_drop 24 words1, List.all_append, w_t1, ← List.take_append_drop 24 (words1.drop 24), List.all_append, w_t2, ← List.take_append_drop 24 ((words1.drop 24).drop 24), List.all_append, w_t3, ← List.take_append_drop 24 (((words1.drop 24).drop 24).drop 24), List.all_append, w_t4, w_t5]
  rfl
set_option maxRecDepth 65536 in
theorem w_case : (Jvm.Cond.and given_1 narrow_1).before args0 about1 = true := by decide +kernel
theorem w_applies : (headSpec (Jvm.Cond.code x code maxLocals ret :: tables_1) room_1).applies x e0.platform about1 = true :=
  (Spec.applies_iff w_frames).mpr ⟨w_running, w_runnable, w_alone, w_named, w_hears, w_ripe, w_room, w_tables⟩
theorem atStart : AtStart classFile x code maxLocals ret World_1 tables_1 room_1 Calls_1 rest_1 Pre_1 launch0 p0 e0 about1 theMethod args0 below0 :=
  ⟨lists_1, trivial, launch0.admits_env _ _ _, launch0.least_env, fairChoices_fair.cas, fairChoices_fair.clock, w_frames, w_args, w_heap, w_applies, trivial, trivial, w_case⟩
end start1
theorem witness_1 : WitnessClaimed_1 := ⟨start1.p0, start1.e0, start1.about1, start1.theMethod, start1.args0, start1.below0, start1.atStart⟩
end Jvm.Pilot.@@N@@
