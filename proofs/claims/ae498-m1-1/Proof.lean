import JvmDerived
import JvmDerived.Pilot.@@N@@Statement
import JvmDerived.Pilot.@@N@@Code
set_option linter.unusedVariables false
set_option linter.unusedSimpArgs false
namespace Jvm.Pilot.@@N@@
open Jvm Jvm.ClassFile Sem Op Lib Jvm.Free Jvm.Free.Fl Jvm.Stand Jvm.LawKit Jvm.RoadKit Bundle Jvm.Pilot.@@N@@.Jvm.D
section own_go
/-- where the walk stands, with the two facts that every step asks -/
def Ax (p : Program) (l : Launch) (e : Env) (R : Room) (s : State) (m : MethodId) (args : Array Value) (below : List Frame) (meth : Method) (c : Code) (T : State) (locs : List Loc) (cells slots : Nat) (B : ByteArray) : Prop := Stand p l e R s m args below meth c T locs cells slots ∧ p.tables.exec = Jvm.exec ∧ c.code = B
/-- from this frame the run ends, and P holds of its end -/
def Go (p : Program) (e : Env) (below : List Frame) (P : State → Outcome → Prop) (T : State) (g : JFrame) : Prop := ∃ U o, Steps p.tables e below (T.setTop g) U ∧ U.status = .running ∧ Ended U below o ∧ P U o
variable {p : Program} {l : Launch} {e : Env} {R : Room} {s : State} {m : MethodId} {args : Array Value} {below : List Frame} {meth : Method} {c : Code} {T : State} {locs : List Loc} {cells slots : Nat} {P : State → Outcome → Prop} {B : ByteArray} {pc pc' : Nat} {ls ls' : Array Slot} {st : List Value}
theorem Go.of {T' : State} {g g' : JFrame} (k : ∀ t, Steps p.tables e below (T'.setTop g') t → Steps p.tables e below (T.setTop g) t) (h : Go p e below P T' g') : Go p e below P T g := by
  obtain ⟨U, o, h1, h2⟩ := h
  exact ⟨U, o, k _ h1, h2⟩
theorem Go.tr {T' : State} {g g' : JFrame} (k : Steps p.tables e below (T.setTop g) (T'.setTop g')) (h : Go p e below P T' g') : Go p e below P T g := Go.of (fun _ h => k.trans h) h
theorem Go.cast {g g' : JFrame} (q : g = g') (h : Go p e below P T g') : Go p e below P T g := q ▸ h

theorem g_iadd (A : Ax p l e R s m args below meth c T locs cells slots B) {x : Int32} {y : Int32} (hd : decode B pc = .ok (.iadd, 1)) (hp : pc + 1 = pc') (k : Go p e below P T (mkF m pc' ls (.int (x + y) :: st))) : Go p e below P T (mkF m pc ls (.int y :: .int x :: st)) := by
  subst hp; exact Go.of (fun _ k' => XS.iadd A.1.here A.2.1 rfl (hb A.2.2 hd) rfl k') k
theorem g_isub (A : Ax p l e R s m args below meth c T locs cells slots B) {x : Int32} {y : Int32} (hd : decode B pc = .ok (.isub, 1)) (hp : pc + 1 = pc') (k : Go p e below P T (mkF m pc' ls (.int (x - y) :: st))) : Go p e below P T (mkF m pc ls (.int y :: .int x :: st)) := by
  subst hp; exact Go.of (fun _ k' => XS.isub A.1.here A.2.1 rfl (hb A.2.2 hd) rfl k') k
theorem g_iand (A : Ax p l e R s m args below meth c T locs cells slots B) {x : Int32} {y : Int32} (hd : decode B pc = .ok (.iand, 1)) (hp : pc + 1 = pc') (k : Go p e below P T (mkF m pc' ls (.int (x &&& y) :: st))) : Go p e below P T (mkF m pc ls (.int y :: .int x :: st)) := by
  subst hp; exact Go.of (fun _ k' => XS.iand A.1.here A.2.1 rfl (hb A.2.2 hd) rfl k') k
theorem g_imul (A : Ax p l e R s m args below meth c T locs cells slots B) {x : Int32} {y : Int32} (hd : decode B pc = .ok (.imul, 1)) (hp : pc + 1 = pc') (k : Go p e below P T (mkF m pc' ls (.int (x * y) :: st))) : Go p e below P T (mkF m pc ls (.int y :: .int x :: st)) := by
  subst hp; exact Go.of (fun _ k' => XS.imul A.1.here A.2.1 rfl (hb A.2.2 hd) rfl k') k
theorem g_iaddL (A : Ax p l e R s m args below meth c T locs cells slots B) {x y z : Int32} (hd : decode B pc = .ok (.iadd, 1)) (hz : x + y = z) (hp : pc + 1 = pc') (k : Go p e below P T (mkF m pc' ls (.int z :: st))) : Go p e below P T (mkF m pc ls (.int y :: .int x :: st)) := g_iadd A hd hp (hz.symm ▸ k)
theorem g_isubL (A : Ax p l e R s m args below meth c T locs cells slots B) {x y z : Int32} (hd : decode B pc = .ok (.isub, 1)) (hz : x - y = z) (hp : pc + 1 = pc') (k : Go p e below P T (mkF m pc' ls (.int z :: st))) : Go p e below P T (mkF m pc ls (.int y :: .int x :: st)) := g_isub A hd hp (hz.symm ▸ k)
theorem g_imulL (A : Ax p l e R s m args below meth c T locs cells slots B) {x y z : Int32} (hd : decode B pc = .ok (.imul, 1)) (hz : x * y = z) (hp : pc + 1 = pc') (k : Go p e below P T (mkF m pc' ls (.int z :: st))) : Go p e below P T (mkF m pc ls (.int y :: .int x :: st)) := g_imul A hd hp (hz.symm ▸ k)
theorem g_iandL (A : Ax p l e R s m args below meth c T locs cells slots B) {x y z : Int32} (hd : decode B pc = .ok (.iand, 1)) (hz : x &&& y = z) (hp : pc + 1 = pc') (k : Go p e below P T (mkF m pc' ls (.int z :: st))) : Go p e below P T (mkF m pc ls (.int y :: .int x :: st)) := g_iand A hd hp (hz.symm ▸ k)
theorem g_ixor (A : Ax p l e R s m args below meth c T locs cells slots B) {x : Int32} {y : Int32} (hd : decode B pc = .ok (.ixor, 1)) (hp : pc + 1 = pc') (k : Go p e below P T (mkF m pc' ls (.int (x ^^^ y) :: st))) : Go p e below P T (mkF m pc ls (.int y :: .int x :: st)) := by
  subst hp; exact Go.of (fun _ k' => XT.ixor A.1.here A.2.1 rfl (hb A.2.2 hd) rfl k') k
theorem g_ior (A : Ax p l e R s m args below meth c T locs cells slots B) {x : Int32} {y : Int32} (hd : decode B pc = .ok (.ior, 1)) (hp : pc + 1 = pc') (k : Go p e below P T (mkF m pc' ls (.int (x ||| y) :: st))) : Go p e below P T (mkF m pc ls (.int y :: .int x :: st)) := by
  subst hp; exact Go.of (fun _ k' => XT.ior A.1.here A.2.1 rfl (hb A.2.2 hd) rfl k') k
theorem g_ishl (A : Ax p l e R s m args below meth c T locs cells slots B) {x : Int32} {y : Int32} (hd : decode B pc = .ok (.ishl, 1)) (hp : pc + 1 = pc') (k : Go p e below P T (mkF m pc' ls (.int (x <<< (y &&& 31)) :: st))) : Go p e below P T (mkF m pc ls (.int y :: .int x :: st)) := by
  subst hp; exact Go.of (fun _ k' => XT.ishl A.1.here A.2.1 rfl (hb A.2.2 hd) rfl k') k
theorem g_ishr (A : Ax p l e R s m args below meth c T locs cells slots B) {x : Int32} {y : Int32} (hd : decode B pc = .ok (.ishr, 1)) (hp : pc + 1 = pc') (k : Go p e below P T (mkF m pc' ls (.int (x >>> (y &&& 31)) :: st))) : Go p e below P T (mkF m pc ls (.int y :: .int x :: st)) := by
  subst hp; exact Go.of (fun _ k' => XT.ishr A.1.here A.2.1 rfl (hb A.2.2 hd) rfl k') k
theorem g_iushr (A : Ax p l e R s m args below meth c T locs cells slots B) {x : Int32} {y : Int32} (hd : decode B pc = .ok (.iushr, 1)) (hp : pc + 1 = pc') (k : Go p e below P T (mkF m pc' ls (.int (XT.ushr x y) :: st))) : Go p e below P T (mkF m pc ls (.int y :: .int x :: st)) := by
  subst hp; exact Go.of (fun _ k' => XT.iushr A.1.here A.2.1 rfl (hb A.2.2 hd) rfl k') k
theorem g_idiv (A : Ax p l e R s m args below meth c T locs cells slots B) {x : Int32} {y : Int32} (hd : decode B pc = .ok (.idiv, 1)) (hy : y ≠ 0) (hp : pc + 1 = pc') (k : Go p e below P T (mkF m pc' ls (.int (x / y) :: st))) : Go p e below P T (mkF m pc ls (.int y :: .int x :: st)) := by
  subst hp; exact Go.of (fun _ k' => XS.idiv A.1.here A.2.1 rfl (hb A.2.2 hd) rfl hy k') k
theorem g_ladd (A : Ax p l e R s m args below meth c T locs cells slots B) {x : Int64} {y : Int64} (hd : decode B pc = .ok (.ladd, 1)) (hp : pc + 1 = pc') (k : Go p e below P T (mkF m pc' ls (.long (x + y) :: st))) : Go p e below P T (mkF m pc ls (.long y :: .long x :: st)) := by
  subst hp; exact Go.of (fun _ k' => XT.ladd A.1.here A.2.1 rfl (hb A.2.2 hd) rfl k') k
theorem g_lsub (A : Ax p l e R s m args below meth c T locs cells slots B) {x : Int64} {y : Int64} (hd : decode B pc = .ok (.lsub, 1)) (hp : pc + 1 = pc') (k : Go p e below P T (mkF m pc' ls (.long (x - y) :: st))) : Go p e below P T (mkF m pc ls (.long y :: .long x :: st)) := by
  subst hp; exact Go.of (fun _ k' => XT.lsub A.1.here A.2.1 rfl (hb A.2.2 hd) rfl k') k
theorem g_lmul (A : Ax p l e R s m args below meth c T locs cells slots B) {x : Int64} {y : Int64} (hd : decode B pc = .ok (.lmul, 1)) (hp : pc + 1 = pc') (k : Go p e below P T (mkF m pc' ls (.long (x * y) :: st))) : Go p e below P T (mkF m pc ls (.long y :: .long x :: st)) := by
  subst hp; exact Go.of (fun _ k' => XT.lmul A.1.here A.2.1 rfl (hb A.2.2 hd) rfl k') k
theorem g_land (A : Ax p l e R s m args below meth c T locs cells slots B) {x : Int64} {y : Int64} (hd : decode B pc = .ok (.land, 1)) (hp : pc + 1 = pc') (k : Go p e below P T (mkF m pc' ls (.long (x &&& y) :: st))) : Go p e below P T (mkF m pc ls (.long y :: .long x :: st)) := by
  subst hp; exact Go.of (fun _ k' => XT.land A.1.here A.2.1 rfl (hb A.2.2 hd) rfl k') k
theorem g_lor (A : Ax p l e R s m args below meth c T locs cells slots B) {x : Int64} {y : Int64} (hd : decode B pc = .ok (.lor, 1)) (hp : pc + 1 = pc') (k : Go p e below P T (mkF m pc' ls (.long (x ||| y) :: st))) : Go p e below P T (mkF m pc ls (.long y :: .long x :: st)) := by
  subst hp; exact Go.of (fun _ k' => XT.lor A.1.here A.2.1 rfl (hb A.2.2 hd) rfl k') k
theorem g_lxor (A : Ax p l e R s m args below meth c T locs cells slots B) {x : Int64} {y : Int64} (hd : decode B pc = .ok (.lxor, 1)) (hp : pc + 1 = pc') (k : Go p e below P T (mkF m pc' ls (.long (x ^^^ y) :: st))) : Go p e below P T (mkF m pc ls (.long y :: .long x :: st)) := by
  subst hp; exact Go.of (fun _ k' => XT.lxor A.1.here A.2.1 rfl (hb A.2.2 hd) rfl k') k
theorem g_lshl (A : Ax p l e R s m args below meth c T locs cells slots B) {x : Int64} {y : Int32} (hd : decode B pc = .ok (.lshl, 1)) (hp : pc + 1 = pc') (k : Go p e below P T (mkF m pc' ls (.long (x <<< (y.toInt64 &&& 63)) :: st))) : Go p e below P T (mkF m pc ls (.int y :: .long x :: st)) := by
  subst hp; exact Go.of (fun _ k' => XT.lshl A.1.here A.2.1 rfl (hb A.2.2 hd) rfl k') k
theorem g_lshr (A : Ax p l e R s m args below meth c T locs cells slots B) {x : Int64} {y : Int32} (hd : decode B pc = .ok (.lshr, 1)) (hp : pc + 1 = pc') (k : Go p e below P T (mkF m pc' ls (.long (x >>> (y.toInt64 &&& 63)) :: st))) : Go p e below P T (mkF m pc ls (.int y :: .long x :: st)) := by
  subst hp; exact Go.of (fun _ k' => XT.lshr A.1.here A.2.1 rfl (hb A.2.2 hd) rfl k') k
theorem g_lushr (A : Ax p l e R s m args below meth c T locs cells slots B) {x : Int64} {y : Int32} (hd : decode B pc = .ok (.lushr, 1)) (hp : pc + 1 = pc') (k : Go p e below P T (mkF m pc' ls (.long (XT.ushrL x y) :: st))) : Go p e below P T (mkF m pc ls (.int y :: .long x :: st)) := by
  subst hp; exact Go.of (fun _ k' => XT.lushr A.1.here A.2.1 rfl (hb A.2.2 hd) rfl k') k
theorem g_ldiv (A : Ax p l e R s m args below meth c T locs cells slots B) {x : Int64} {y : Int64} (hd : decode B pc = .ok (.ldiv, 1)) (hy : y ≠ 0) (hp : pc + 1 = pc') (k : Go p e below P T (mkF m pc' ls (.long (x / y) :: st))) : Go p e below P T (mkF m pc ls (.long y :: .long x :: st)) := by
  subst hp; exact Go.of (fun _ k' => XT.ldiv A.1.here A.2.1 rfl (hb A.2.2 hd) rfl hy k') k
theorem g_lrem (A : Ax p l e R s m args below meth c T locs cells slots B) {x y : Int64} (hd : decode B pc = .ok (.lrem, 1)) (hy : y ≠ 0) (hp : pc + 1 = pc') (k : Go p e below P T (mkF m pc' ls (.long (x % y) :: st))) : Go p e below P T (mkF m pc ls (.long y :: .long x :: st)) := by
  subst hp; rw [← lrem_mod] at k; exact Go.of (fun _ k' => XT.lrem A.1.here A.2.1 rfl (hb A.2.2 hd) rfl hy k') k
theorem g_i2s (A : Ax p l e R s m args below meth c T locs cells slots B) {x : Int32} (hd : decode B pc = .ok (.i2s, 1)) (hp : pc + 1 = pc') (k : Go p e below P T (mkF m pc' ls (.int (x.toInt16.toInt32) :: st))) : Go p e below P T (mkF m pc ls (.int x :: st)) := by
  subst hp; exact Go.of (fun _ k' => XT.i2s A.1.here A.2.1 rfl (hb A.2.2 hd) rfl k') k
theorem g_i2b (A : Ax p l e R s m args below meth c T locs cells slots B) {x : Int32} (hd : decode B pc = .ok (.i2b, 1)) (hp : pc + 1 = pc') (k : Go p e below P T (mkF m pc' ls (.int (x.toInt8.toInt32) :: st))) : Go p e below P T (mkF m pc ls (.int x :: st)) := by
  subst hp; exact Go.of (fun _ k' => XT.i2b A.1.here A.2.1 rfl (hb A.2.2 hd) rfl k') k
theorem g_i2c (A : Ax p l e R s m args below meth c T locs cells slots B) {x : Int32} (hd : decode B pc = .ok (.i2c, 1)) (hp : pc + 1 = pc') (k : Go p e below P T (mkF m pc' ls (.int (x.toUInt32.toUInt16.toUInt32.toInt32) :: st))) : Go p e below P T (mkF m pc ls (.int x :: st)) := by
  subst hp; exact Go.of (fun _ k' => XT.i2c A.1.here A.2.1 rfl (hb A.2.2 hd) rfl k') k
theorem g_ineg (A : Ax p l e R s m args below meth c T locs cells slots B) {x : Int32} (hd : decode B pc = .ok (.ineg, 1)) (hp : pc + 1 = pc') (k : Go p e below P T (mkF m pc' ls (.int (-x) :: st))) : Go p e below P T (mkF m pc ls (.int x :: st)) := by
  subst hp; exact Go.of (fun _ k' => XS.ineg A.1.here A.2.1 rfl (hb A.2.2 hd) rfl k') k
theorem g_lneg (A : Ax p l e R s m args below meth c T locs cells slots B) {x : Int64} (hd : decode B pc = .ok (.lneg, 1)) (hp : pc + 1 = pc') (k : Go p e below P T (mkF m pc' ls (.long (-x) :: st))) : Go p e below P T (mkF m pc ls (.long x :: st)) := by
  subst hp; exact Go.of (fun _ k' => XT.lneg A.1.here A.2.1 rfl (hb A.2.2 hd) rfl k') k
theorem g_i2l (A : Ax p l e R s m args below meth c T locs cells slots B) {x : Int32} (hd : decode B pc = .ok (.i2l, 1)) (hp : pc + 1 = pc') (k : Go p e below P T (mkF m pc' ls (.long (x.toInt64) :: st))) : Go p e below P T (mkF m pc ls (.int x :: st)) := by
  subst hp; exact Go.of (fun _ k' => XT.i2l A.1.here A.2.1 rfl (hb A.2.2 hd) rfl k') k
theorem g_l2i (A : Ax p l e R s m args below meth c T locs cells slots B) {x : Int64} (hd : decode B pc = .ok (.l2i, 1)) (hp : pc + 1 = pc') (k : Go p e below P T (mkF m pc' ls (.int (x.toInt32) :: st))) : Go p e below P T (mkF m pc ls (.long x :: st)) := by
  subst hp; exact Go.of (fun _ k' => XT.l2i A.1.here A.2.1 rfl (hb A.2.2 hd) rfl k') k
theorem g_irem (A : Ax p l e R s m args below meth c T locs cells slots B) {x y : Int32} (hd : decode B pc = .ok (.irem, 1)) (hy : y ≠ 0) (hp : pc + 1 = pc') (k : Go p e below P T (mkF m pc' ls (.int (x % y) :: st))) : Go p e below P T (mkF m pc ls (.int y :: .int x :: st)) := by
  subst hp; exact Go.of (fun _ k' => iremM A.1 A.2.1 rfl (hb A.2.2 hd) rfl hy k') k
theorem g_iloadN (A : Ax p l e R s m args below meth c T locs cells slots B) {k : Fin 4} {v : Int32} (hd : decode B pc = .ok (.iload_n k, 1)) (hl : ls[k.val]? = some (.val (.int v))) (hp : pc + 1 = pc') (k : Go p e below P T (mkF m pc' ls (.int v :: st))) : Go p e below P T (mkF m pc ls st) := by
  subst hp; exact Go.of (fun _ k' => XS.iloadN A.1.here A.2.1 rfl (hb A.2.2 hd) hl k') k
theorem g_iload (A : Ax p l e R s m args below meth c T locs cells slots B) {k : Nat} {v : Int32} (hd : decode B pc = .ok (.iload k, 2)) (hl : ls[k]? = some (.val (.int v))) (hp : pc + 2 = pc') (k : Go p e below P T (mkF m pc' ls (.int v :: st))) : Go p e below P T (mkF m pc ls st) := by
  subst hp; exact Go.of (fun _ k' => XS.iload A.1.here A.2.1 rfl (hb A.2.2 hd) hl k') k
theorem g_lloadN (A : Ax p l e R s m args below meth c T locs cells slots B) {k : Fin 4} {v : Int64} (hd : decode B pc = .ok (.lload_n k, 1)) (hl : ls[k.val]? = some (.val (.long v))) (hp : pc + 1 = pc') (k : Go p e below P T (mkF m pc' ls (.long v :: st))) : Go p e below P T (mkF m pc ls st) := by
  subst hp; exact Go.of (fun _ k' => XT.lloadN A.1.here A.2.1 rfl (hb A.2.2 hd) hl k') k
theorem g_lload (A : Ax p l e R s m args below meth c T locs cells slots B) {k : Nat} {v : Int64} (hd : decode B pc = .ok (.lload k, 2)) (hl : ls[k]? = some (.val (.long v))) (hp : pc + 2 = pc') (k : Go p e below P T (mkF m pc' ls (.long v :: st))) : Go p e below P T (mkF m pc ls st) := by
  subst hp; exact Go.of (fun _ k' => XT.lload A.1.here A.2.1 rfl (hb A.2.2 hd) hl k') k
theorem g_aloadN (A : Ax p l e R s m args below meth c T locs cells slots B) {k : Fin 4} {v : Value} (hd : decode B pc = .ok (.aload_n k, 1)) (hl : ls[k.val]? = some (.val v)) (hv : v.isRef = true) (hp : pc + 1 = pc') (k : Go p e below P T (mkF m pc' ls (v :: st))) : Go p e below P T (mkF m pc ls st) := by
  subst hp; exact Go.of (fun _ k' => XS.aloadN A.1.here A.2.1 rfl (hb A.2.2 hd) hl hv k') k
theorem g_aload (A : Ax p l e R s m args below meth c T locs cells slots B) {k : Nat} {v : Value} (hd : decode B pc = .ok (.aload k, 2)) (hl : ls[k]? = some (.val v)) (hv : v.isRef = true) (hp : pc + 2 = pc') (k : Go p e below P T (mkF m pc' ls (v :: st))) : Go p e below P T (mkF m pc ls st) := by
  subst hp; exact Go.of (fun _ k' => XS.aload A.1.here A.2.1 rfl (hb A.2.2 hd) hl hv k') k
theorem g_dloadN (A : Ax p l e R s m args below meth c T locs cells slots B) {k : Fin 4} {v : UInt64} (hd : decode B pc = .ok (.dload_n k, 1)) (hl : ls[k.val]? = some (.val (.double v))) (hp : pc + 1 = pc') (k : Go p e below P T (mkF m pc' ls (.double v :: st))) : Go p e below P T (mkF m pc ls st) := by
  subst hp
  refine Go.of (fun t k' => ?_) k
  have h := A.1.here
  have hx := A.2.1
  have hd' := hb A.2.2 hd
  show Steps p.tables e below (T.setTop { method := m, pc := pc, locals := ls, stack := st, locked := none }) _
  jvm_step h [h.top, hx, hd', hl]
  exact k'
theorem g_dload (A : Ax p l e R s m args below meth c T locs cells slots B) {k : Nat} {v : UInt64} (hd : decode B pc = .ok (.dload k, 2)) (hl : ls[k]? = some (.val (.double v))) (hp : pc + 2 = pc') (k : Go p e below P T (mkF m pc' ls (.double v :: st))) : Go p e below P T (mkF m pc ls st) := by
  subst hp
  refine Go.of (fun t k' => ?_) k
  have h := A.1.here
  have hx := A.2.1
  have hd' := hb A.2.2 hd
  show Steps p.tables e below (T.setTop { method := m, pc := pc, locals := ls, stack := st, locked := none }) _
  jvm_step h [h.top, hx, hd', hl]
  exact k'
theorem g_istoreN (A : Ax p l e R s m args below meth c T locs cells slots B) {k : Fin 4} {x : Int32} (hd : decode B pc = .ok (.istore_n k, 1)) (hl : storeLocals ls k.val (.int x) = some ls') (hp : pc + 1 = pc') (k : Go p e below P T (mkF m pc' ls' st)) : Go p e below P T (mkF m pc ls (.int x :: st)) := by
  subst hp; exact Go.of (fun _ k' => XS.istoreN A.1.here A.2.1 rfl (hb A.2.2 hd) rfl hl k') k
theorem g_istore (A : Ax p l e R s m args below meth c T locs cells slots B) {k : Nat} {x : Int32} (hd : decode B pc = .ok (.istore k, 2)) (hl : storeLocals ls k (.int x) = some ls') (hp : pc + 2 = pc') (k : Go p e below P T (mkF m pc' ls' st)) : Go p e below P T (mkF m pc ls (.int x :: st)) := by
  subst hp; exact Go.of (fun _ k' => XS.istore A.1.here A.2.1 rfl (hb A.2.2 hd) rfl hl k') k
theorem g_lstoreN (A : Ax p l e R s m args below meth c T locs cells slots B) {k : Fin 4} {x : Int64} (hd : decode B pc = .ok (.lstore_n k, 1)) (hl : storeLocals ls k.val (.long x) = some ls') (hp : pc + 1 = pc') (k : Go p e below P T (mkF m pc' ls' st)) : Go p e below P T (mkF m pc ls (.long x :: st)) := by
  subst hp; exact Go.of (fun _ k' => XT.lstoreN A.1.here A.2.1 rfl (hb A.2.2 hd) rfl hl k') k
theorem g_lstore (A : Ax p l e R s m args below meth c T locs cells slots B) {k : Nat} {x : Int64} (hd : decode B pc = .ok (.lstore k, 2)) (hl : storeLocals ls k (.long x) = some ls') (hp : pc + 2 = pc') (k : Go p e below P T (mkF m pc' ls' st)) : Go p e below P T (mkF m pc ls (.long x :: st)) := by
  subst hp; exact Go.of (fun _ k' => XT.lstore A.1.here A.2.1 rfl (hb A.2.2 hd) rfl hl k') k
theorem g_astoreN (A : Ax p l e R s m args below meth c T locs cells slots B) {k : Fin 4} {x : Value} (hd : decode B pc = .ok (.astore_n k, 1)) (hv : x.isRef = true) (hl : storeLocals ls k.val x = some ls') (hp : pc + 1 = pc') (k : Go p e below P T (mkF m pc' ls' st)) : Go p e below P T (mkF m pc ls (x :: st)) := by
  subst hp; exact Go.of (fun _ k' => XS.astoreN A.1.here A.2.1 rfl (hb A.2.2 hd) rfl hv hl k') k
theorem g_astore (A : Ax p l e R s m args below meth c T locs cells slots B) {k : Nat} {x : Value} (hd : decode B pc = .ok (.astore k, 2)) (hv : x.isRef = true) (hl : storeLocals ls k x = some ls') (hp : pc + 2 = pc') (k : Go p e below P T (mkF m pc' ls' st)) : Go p e below P T (mkF m pc ls (x :: st)) := by
  subst hp; exact Go.of (fun _ k' => XS.astore A.1.here A.2.1 rfl (hb A.2.2 hd) rfl hv hl k') k
theorem g_dstoreN (A : Ax p l e R s m args below meth c T locs cells slots B) {k : Fin 4} {x : UInt64} (hd : decode B pc = .ok (.dstore_n k, 1)) (hl : storeLocals ls k.val (.double x) = some ls') (hp : pc + 1 = pc') (k : Go p e below P T (mkF m pc' ls' st)) : Go p e below P T (mkF m pc ls (.double x :: st)) := by
  subst hp
  refine Go.of (fun t k' => ?_) k
  have h := A.1.here
  have hx := A.2.1
  have hd' := hb A.2.2 hd
  show Steps p.tables e below (T.setTop { method := m, pc := pc, locals := ls, stack := .double x :: st, locked := none }) _
  jvm_step h [h.top, hx, hd']
  exact ⟨ls', hl, k'⟩
theorem g_dstore (A : Ax p l e R s m args below meth c T locs cells slots B) {k : Nat} {x : UInt64} (hd : decode B pc = .ok (.dstore k, 2)) (hl : storeLocals ls k (.double x) = some ls') (hp : pc + 2 = pc') (k : Go p e below P T (mkF m pc' ls' st)) : Go p e below P T (mkF m pc ls (.double x :: st)) := by
  subst hp
  refine Go.of (fun t k' => ?_) k
  have h := A.1.here
  have hx := A.2.1
  have hd' := hb A.2.2 hd
  show Steps p.tables e below (T.setTop { method := m, pc := pc, locals := ls, stack := .double x :: st, locked := none }) _
  jvm_step h [h.top, hx, hd']
  exact ⟨ls', hl, k'⟩
theorem g_iconst (A : Ax p l e R s m args below meth c T locs cells slots B) {i : Int} {v : Int32} (hd : decode B pc = .ok (.iconst i, 1)) (hv : Int32.ofInt i = v) (hp : pc + 1 = pc') (k : Go p e below P T (mkF m pc' ls (.int v :: st))) : Go p e below P T (mkF m pc ls st) := by
  subst hp hv; exact Go.of (fun _ k' => XS.iconst A.1.here A.2.1 rfl (hb A.2.2 hd) k') k
theorem g_bipush (A : Ax p l e R s m args below meth c T locs cells slots B) {i : Int} {v : Int32} (hd : decode B pc = .ok (.bipush i, 2)) (hv : (Int8.ofInt i).toInt32 = v) (hp : pc + 2 = pc') (k : Go p e below P T (mkF m pc' ls (.int v :: st))) : Go p e below P T (mkF m pc ls st) := by
  subst hp hv; exact Go.of (fun _ k' => XS.bipush A.1.here A.2.1 rfl (hb A.2.2 hd) k') k
theorem g_sipush (A : Ax p l e R s m args below meth c T locs cells slots B) {i : Int} {v : Int32} (hd : decode B pc = .ok (.sipush i, 3)) (hv : (Int16.ofInt i).toInt32 = v) (hp : pc + 3 = pc') (k : Go p e below P T (mkF m pc' ls (.int v :: st))) : Go p e below P T (mkF m pc ls st) := by
  subst hp hv; exact Go.of (fun _ k' => XS.sipush A.1.here A.2.1 rfl (hb A.2.2 hd) k') k
theorem g_aconst (A : Ax p l e R s m args below meth c T locs cells slots B) (hd : decode B pc = .ok (.aconst_null, 1)) (hp : pc + 1 = pc') (k : Go p e below P T (mkF m pc' ls (.null :: st))) : Go p e below P T (mkF m pc ls st) := by
  subst hp; exact Go.of (fun _ k' => XS.aconstNull A.1.here A.2.1 rfl (hb A.2.2 hd) k') k
theorem g_lconst (A : Ax p l e R s m args below meth c T locs cells slots B) {i : Fin 2} {v : Int64} (hd : decode B pc = .ok (.lconst i, 1)) (hv : Int64.ofNat i = v) (hp : pc + 1 = pc') (k : Go p e below P T (mkF m pc' ls (.long v :: st))) : Go p e below P T (mkF m pc ls st) := by
  subst hp hv; exact Go.of (fun _ k' => XT.lconst A.1.here A.2.1 rfl (hb A.2.2 hd) k') k
theorem g_dconst0 (A : Ax p l e R s m args below meth c T locs cells slots B) (hd : decode B pc = .ok (.dconst 0, 1)) (hp : pc + 1 = pc') (k : Go p e below P T (mkF m pc' ls (.double (0 : UInt64) :: st))) : Go p e below P T (mkF m pc ls st) := by
  subst hp
  refine Go.of (fun t k' => ?_) k
  have h := A.1.here
  have hx := A.2.1
  have hd' := hb A.2.2 hd
  show Steps p.tables e below (T.setTop { method := m, pc := pc, locals := ls, stack := st, locked := none }) _
  jvm_step h [h.top, hx, hd']
  exact k'
theorem g_dconst1 (A : Ax p l e R s m args below meth c T locs cells slots B) (hd : decode B pc = .ok (.dconst 1, 1)) (hp : pc + 1 = pc') (k : Go p e below P T (mkF m pc' ls (.double (4607182418800017408 : UInt64) :: st))) : Go p e below P T (mkF m pc ls st) := by
  subst hp
  refine Go.of (fun t k' => ?_) k
  have h := A.1.here
  have hx := A.2.1
  have hd' := hb A.2.2 hd
  show Steps p.tables e below (T.setTop { method := m, pc := pc, locals := ls, stack := st, locked := none }) _
  jvm_step h [h.top, hx, hd']
  exact k'
theorem g_dadd (A : Ax p l e R s m args below meth c T locs cells slots B) {x y : UInt64} (hd : decode B pc = .ok (.dadd, 1)) (hn : NoNaN64 (FP.dadd x y)) (hp : pc + 1 = pc') (k : Go p e below P T (mkF m pc' ls (.double (FP.dadd x y) :: st))) : Go p e below P T (mkF m pc ls (.double y :: .double x :: st)) := by
  subst hp
  refine Go.of (fun t k' => ?_) k
  have h := A.1.here
  have hx := A.2.1
  have hd' := hb A.2.2 hd
  show Steps p.tables e below (T.setTop { method := m, pc := pc, locals := ls, stack := .double y :: .double x :: st, locked := none }) _
  jvm_step h [h.top, hx, hd', Op.dadd.at_number h.top hn]
  exact k'
theorem g_dsub (A : Ax p l e R s m args below meth c T locs cells slots B) {x y : UInt64} (hd : decode B pc = .ok (.dsub, 1)) (hn : NoNaN64 (FP.dsub x y)) (hp : pc + 1 = pc') (k : Go p e below P T (mkF m pc' ls (.double (FP.dsub x y) :: st))) : Go p e below P T (mkF m pc ls (.double y :: .double x :: st)) := by
  subst hp
  refine Go.of (fun t k' => ?_) k
  have h := A.1.here
  have hx := A.2.1
  have hd' := hb A.2.2 hd
  show Steps p.tables e below (T.setTop { method := m, pc := pc, locals := ls, stack := .double y :: .double x :: st, locked := none }) _
  jvm_step h [h.top, hx, hd', Op.dsub.at_number h.top hn]
  exact k'
theorem g_dmul (A : Ax p l e R s m args below meth c T locs cells slots B) {x y : UInt64} (hd : decode B pc = .ok (.dmul, 1)) (hn : NoNaN64 (FP.dmul x y)) (hp : pc + 1 = pc') (k : Go p e below P T (mkF m pc' ls (.double (FP.dmul x y) :: st))) : Go p e below P T (mkF m pc ls (.double y :: .double x :: st)) := by
  subst hp
  refine Go.of (fun t k' => ?_) k
  have h := A.1.here
  have hx := A.2.1
  have hd' := hb A.2.2 hd
  show Steps p.tables e below (T.setTop { method := m, pc := pc, locals := ls, stack := .double y :: .double x :: st, locked := none }) _
  jvm_step h [h.top, hx, hd', Op.dmul.at_number h.top hn]
  exact k'
theorem g_ddiv (A : Ax p l e R s m args below meth c T locs cells slots B) {x y : UInt64} (hd : decode B pc = .ok (.ddiv, 1)) (hn : NoNaN64 (FP.ddiv x y)) (hp : pc + 1 = pc') (k : Go p e below P T (mkF m pc' ls (.double (FP.ddiv x y) :: st))) : Go p e below P T (mkF m pc ls (.double y :: .double x :: st)) := by
  subst hp
  refine Go.of (fun t k' => ?_) k
  have h := A.1.here
  have hx := A.2.1
  have hd' := hb A.2.2 hd
  show Steps p.tables e below (T.setTop { method := m, pc := pc, locals := ls, stack := .double y :: .double x :: st, locked := none }) _
  jvm_step h [h.top, hx, hd', Op.ddiv.at_number h.top hn]
  exact k'
theorem g_dneg (A : Ax p l e R s m args below meth c T locs cells slots B) {x : UInt64} (hd : decode B pc = .ok (.dneg, 1)) (hp : pc + 1 = pc') (k : Go p e below P T (mkF m pc' ls (.double (FP.dneg x) :: st))) : Go p e below P T (mkF m pc ls (.double x :: st)) := by
  subst hp
  refine Go.of (fun t k' => ?_) k
  have h := A.1.here
  have hx := A.2.1
  have hd' := hb A.2.2 hd
  show Steps p.tables e below (T.setTop { method := m, pc := pc, locals := ls, stack := .double x :: st, locked := none }) _
  jvm_step h [h.top, hx, hd']
  exact k'
theorem g_i2d (A : Ax p l e R s m args below meth c T locs cells slots B) {x : Int32} (hd : decode B pc = .ok (.i2d, 1)) (hp : pc + 1 = pc') (k : Go p e below P T (mkF m pc' ls (.double (FP.i2d x) :: st))) : Go p e below P T (mkF m pc ls (.int x :: st)) := by
  subst hp
  refine Go.of (fun t k' => ?_) k
  have h := A.1.here
  have hx := A.2.1
  have hd' := hb A.2.2 hd
  show Steps p.tables e below (T.setTop { method := m, pc := pc, locals := ls, stack := .int x :: st, locked := none }) _
  jvm_step h [h.top, hx, hd']
  exact k'
theorem g_l2d (A : Ax p l e R s m args below meth c T locs cells slots B) {x : Int64} (hd : decode B pc = .ok (.l2d, 1)) (hp : pc + 1 = pc') (k : Go p e below P T (mkF m pc' ls (.double (FP.l2d x) :: st))) : Go p e below P T (mkF m pc ls (.long x :: st)) := by
  subst hp
  refine Go.of (fun t k' => ?_) k
  have h := A.1.here
  have hx := A.2.1
  have hd' := hb A.2.2 hd
  show Steps p.tables e below (T.setTop { method := m, pc := pc, locals := ls, stack := .long x :: st, locked := none }) _
  jvm_step h [h.top, hx, hd']
  exact k'
theorem g_dcmp (A : Ax p l e R s m args below meth c T locs cells slots B) {x y : UInt64} {op : CmpOp} (hd : decode B pc = .ok (.dcmp op, 1)) (hp : pc + 1 = pc') (k : Go p e below P T (mkF m pc' ls (.int (cmpValue (FP.dcmp x y) op) :: st))) : Go p e below P T (mkF m pc ls (.double y :: .double x :: st)) := by
  subst hp
  refine Go.of (fun t k' => ?_) k
  have h := A.1.here
  have hx := A.2.1
  have hd' := hb A.2.2 hd
  show Steps p.tables e below (T.setTop { method := m, pc := pc, locals := ls, stack := .double y :: .double x :: st, locked := none }) _
  jvm_step h [h.top, hx, hd']
  exact k'
theorem g_lcmp (A : Ax p l e R s m args below meth c T locs cells slots B) {x y : Int64} (hd : decode B pc = .ok (.lcmp, 1)) (hp : pc + 1 = pc') (k : Go p e below P T (mkF m pc' ls (.int (XT.cmpL x y) :: st))) : Go p e below P T (mkF m pc ls (.long y :: .long x :: st)) := by
  subst hp; exact Go.of (fun _ k' => XT.lcmp A.1.here A.2.1 rfl (hb A.2.2 hd) rfl k') k
theorem g_dup (A : Ax p l e R s m args below meth c T locs cells slots B) {x : Value} (hd : decode B pc = .ok (.dup, 1)) (hc : x.category = 1) (hp : pc + 1 = pc') (k : Go p e below P T (mkF m pc' ls (x :: x :: st))) : Go p e below P T (mkF m pc ls (x :: st)) := by
  subst hp; exact Go.of (fun _ k' => XS.dup A.1.here A.2.1 rfl (hb A.2.2 hd) rfl hc k') k
theorem g_pop (A : Ax p l e R s m args below meth c T locs cells slots B) {x : Value} (hd : decode B pc = .ok (.pop, 1)) (hc : x.category = 1) (hp : pc + 1 = pc') (k : Go p e below P T (mkF m pc' ls st)) : Go p e below P T (mkF m pc ls (x :: st)) := by
  subst hp; exact Go.of (fun _ k' => XT.pop A.1.here A.2.1 rfl (hb A.2.2 hd) rfl hc k') k
theorem g_iinc (A : Ax p l e R s m args below meth c T locs cells slots B) {k : Nat} {i : Int} {x y : Int32} (hd : decode B pc = .ok (.iinc k i, 3)) (hl : ls[k]? = some (.val (.int x))) (hy : x + Int32.ofInt i = y) (hl' : storeLocals ls k (.int y) = some ls') (hp : pc + 3 = pc') (k : Go p e below P T (mkF m pc' ls' st)) : Go p e below P T (mkF m pc ls st) := by
  subst hp hy; exact Go.of (fun _ k' => XS.iinc A.1.here A.2.1 rfl (hb A.2.2 hd) hl hl' k') k
theorem own_off {pc pc' : Nat} {o : Int} (h : (pc : Int) + o = (pc' : Int)) : 0 ≤ (pc : Int) + o ∧ ((pc : Int) + o).toNat = pc' := by omega
theorem g_goto (A : Ax p l e R s m args below meth c T locs cells slots B) {o : Int} (hd : decode B pc = .ok (.goto o, 3)) (hp : (pc : Int) + o = (pc' : Int)) (k : Go p e below P T (mkF m pc' ls st)) : Go p e below P T (mkF m pc ls st) := Go.of (fun _ k' => XS.goto A.1.here A.2.1 rfl rfl (hb A.2.2 hd) (own_off hp).1 (own_off hp).2 k') k
theorem g_ifY (A : Ax p l e R s m args below meth c T locs cells slots B) {o : Int} {cd : ClassFile.Cond} {x : Int32} (hd : decode B pc = .ok (.ifCond cd o, 3)) (hc : ifCond.holds cd x = true) (hp : (pc : Int) + o = (pc' : Int)) (k : Go p e below P T (mkF m pc' ls st)) : Go p e below P T (mkF m pc ls (.int x :: st)) := Go.of (fun _ k' => XS.ifYes A.1.here A.2.1 rfl rfl (hb A.2.2 hd) rfl hc (own_off hp).1 (own_off hp).2 k') k
theorem g_ifN (A : Ax p l e R s m args below meth c T locs cells slots B) {o : Int} {cd : ClassFile.Cond} {x : Int32} (hd : decode B pc = .ok (.ifCond cd o, 3)) (hc : ifCond.holds cd x = false) (hp : pc + 3 = pc') (k : Go p e below P T (mkF m pc' ls st)) : Go p e below P T (mkF m pc ls (.int x :: st)) := by
  subst hp; exact Go.of (fun _ k' => XS.ifNo A.1.here A.2.1 rfl (hb A.2.2 hd) rfl hc k') k
theorem g_icY (A : Ax p l e R s m args below meth c T locs cells slots B) {o : Int} {cd : ClassFile.Cond} {x y : Int32} (hd : decode B pc = .ok (.if_icmp cd o, 3)) (hc : if_icmp.holds cd x y = true) (hp : (pc : Int) + o = (pc' : Int)) (k : Go p e below P T (mkF m pc' ls st)) : Go p e below P T (mkF m pc ls (.int y :: .int x :: st)) := Go.of (fun _ k' => XS.icmpYes A.1.here A.2.1 rfl rfl (hb A.2.2 hd) rfl hc (own_off hp).1 (own_off hp).2 k') k
theorem g_icN (A : Ax p l e R s m args below meth c T locs cells slots B) {o : Int} {cd : ClassFile.Cond} {x y : Int32} (hd : decode B pc = .ok (.if_icmp cd o, 3)) (hc : if_icmp.holds cd x y = false) (hp : pc + 3 = pc') (k : Go p e below P T (mkF m pc' ls st)) : Go p e below P T (mkF m pc ls (.int y :: .int x :: st)) := by
  subst hp; exact Go.of (fun _ k' => XS.icmpNo A.1.here A.2.1 rfl (hb A.2.2 hd) rfl hc k') k
theorem c0_eq_t {x : Int32} (h : x = 0) : ifCond.holds .eq x = true := (if0 _ _).trans (teq h).1
theorem c0_eq_f {x : Int32} (h : ¬ x = 0) : ifCond.holds .eq x = false := (if0 _ _).trans (feq h).1
theorem c0_ne_t {x : Int32} (h : ¬ x = 0) : ifCond.holds .ne x = true := (if0 _ _).trans (feq h).2
theorem c0_ne_f {x : Int32} (h : x = 0) : ifCond.holds .ne x = false := (if0 _ _).trans (teq h).2
theorem c0_lt_t {x : Int32} (h : x < 0) : ifCond.holds .lt x = true := (if0 _ _).trans (tlt h).1
theorem c0_lt_f {x : Int32} (h : ¬ x < 0) : ifCond.holds .lt x = false := (if0 _ _).trans (flt h).1
theorem c0_ge_t {x : Int32} (h : ¬ x < 0) : ifCond.holds .ge x = true := (if0 _ _).trans (flt h).2.1
theorem c0_ge_f {x : Int32} (h : x < 0) : ifCond.holds .ge x = false := (if0 _ _).trans (tlt h).2.1
theorem c0_gt_t {x : Int32} (h : 0 < x) : ifCond.holds .gt x = true := (if0 _ _).trans (tlt h).2.2.1
theorem c0_gt_f {x : Int32} (h : ¬ 0 < x) : ifCond.holds .gt x = false := (if0 _ _).trans (flt h).2.2.1
theorem c0_le_t {x : Int32} (h : ¬ 0 < x) : ifCond.holds .le x = true := (if0 _ _).trans (flt h).2.2.2
theorem c0_le_f {x : Int32} (h : 0 < x) : ifCond.holds .le x = false := (if0 _ _).trans (tlt h).2.2.2
theorem c2_eq_t {x y : Int32} (h : x = y) : if_icmp.holds .eq x y = true := (teq h).1
theorem c2_eq_f {x y : Int32} (h : ¬ x = y) : if_icmp.holds .eq x y = false := (feq h).1
theorem c2_ne_t {x y : Int32} (h : ¬ x = y) : if_icmp.holds .ne x y = true := (feq h).2
theorem c2_ne_f {x y : Int32} (h : x = y) : if_icmp.holds .ne x y = false := (teq h).2
theorem c2_lt_t {x y : Int32} (h : x < y) : if_icmp.holds .lt x y = true := (tlt h).1
theorem c2_lt_f {x y : Int32} (h : ¬ x < y) : if_icmp.holds .lt x y = false := (flt h).1
theorem c2_ge_t {x y : Int32} (h : ¬ x < y) : if_icmp.holds .ge x y = true := (flt h).2.1
theorem c2_ge_f {x y : Int32} (h : x < y) : if_icmp.holds .ge x y = false := (tlt h).2.1
theorem c2_gt_t {x y : Int32} (h : y < x) : if_icmp.holds .gt x y = true := (tlt h).2.2.1
theorem c2_gt_f {x y : Int32} (h : ¬ y < x) : if_icmp.holds .gt x y = false := (flt h).2.2.1
theorem c2_le_t {x y : Int32} (h : ¬ y < x) : if_icmp.holds .le x y = true := (flt h).2.2.2
theorem c2_le_f {x y : Int32} (h : y < x) : if_icmp.holds .le x y = false := (tlt h).2.2.2
theorem b0_eq_t {C : Prop} [Decidable C] {v : Int32} (e : v = if C then 1 else 0) (h : ¬ C) : ifCond.holds .eq v = true := c0_eq_t (by rw [e, if_neg h])
theorem b0_eq_f {C : Prop} [Decidable C] {v : Int32} (e : v = if C then 1 else 0) (h : C) : ifCond.holds .eq v = false := c0_eq_f (by rw [e, if_pos h]; decide)
theorem b0_ne_t {C : Prop} [Decidable C] {v : Int32} (e : v = if C then 1 else 0) (h : C) : ifCond.holds .ne v = true := c0_ne_t (by rw [e, if_pos h]; decide)
theorem b0_ne_f {C : Prop} [Decidable C] {v : Int32} (e : v = if C then 1 else 0) (h : ¬ C) : ifCond.holds .ne v = false := c0_ne_f (by rw [e, if_neg h])
theorem own_b01 {C : Prop} [Decidable C] {v : Int32} (e : v = if C then 1 else 0) : narrow .boolean (.int v) = .int v := by
  subst e; by_cases h : C
  · rw [if_pos h]; rfl
  · rw [if_neg h]; rfl
theorem own_fb {C : Prop} [Decidable C] {v : Int32} (e : v = if C then 1 else 0) : fits .boolean (.int v) = true := by
  subst e; by_cases h : C
  · rw [if_pos h]; rfl
  · rw [if_neg h]; rfl
theorem own_ndadd {x y : UInt64} (h1 : Fin64 x) (h2 : Fin64 y) : NoNaN64 (FP.dadd x y) := dadd_out h1.noNaN h2
theorem own_ndsub {x y : UInt64} (h1 : Fin64 x) (h2 : Fin64 y) : NoNaN64 (FP.dsub x y) := dsub_out h1.noNaN h2
theorem own_ndmul {x y : UInt64} (h1 : Fin64 x) (h2 : Fin64 y) : NoNaN64 (FP.dmul x y) := dmul_out h1 h2
theorem own_fin {x : UInt64} : Fin64 x ↔ FP.Core.DFin x := fin64_core
theorem own_fneg {x : UInt64} (h : Fin64 x) : Fin64 (FP.dneg x) := by
  obtain ⟨s, c, q, e⟩ := fin64_core.mp h
  exact fin64_core.mpr ⟨!s, c, q, (FP.val64_dneg x).trans (by rw [e]; rfl)⟩
theorem own_self {x : UInt64} (h : Fin64 x) : FP.dcmp x x = some .eq := FP.Core.dcmp_self (fin64_core.mp h).ne_nan
theorem own_sgt {x : UInt64} (h : Fin64 x) : ¬ FP.dcmp x x = some .gt := by rw [own_self h]; decide
theorem own_slt {x : UInt64} (h : Fin64 x) : ¬ FP.dcmp x x = some .lt := by rw [own_self h]; decide
theorem own_and {c d : Jvm.Cond} {a : Array Value} {s : State} (h1 : c.before a s = true) (h2 : d.before a s = true) : (Jvm.Cond.and c d).before a s = true := by rw [Cond.before_and, h1, h2]; rfl
theorem own_isfin {x : UInt64} (h : Fin64 x) : some (Value.int (if Jvm.Free.Fl.relLe (FP.dcmp (x &&& 0x7fffffffffffffff) Jvm.Free.Fl.maxD) = true then (1 : Int32) else 0)) = some (.int (1 : Int32)) := by rw [if_pos ((le_max_iff h.noNaN).mpr h)]
theorem own_isinf {x : UInt64} (h : Fin64 x) : some (Value.int (if Jvm.Free.Fl.relGt (FP.dcmp (x &&& 0x7fffffffffffffff) Jvm.Free.Fl.maxD) = true then (1 : Int32) else 0)) = some (.int (0 : Int32)) := by rw [if_neg (fun h4 => (gt_max_iff h.noNaN).mp h4 h)]
theorem own_dfin {i : Int} {x : UInt64} (h : FP.Core.DInt i x) : Fin64 x := by
  refine fin64_core.mpr ?_
  have q : FP.Core.Whole i (FP.Core.val64 x) := h
  cases e : FP.Core.val64 x with
  | nan => rw [e] at q; exact q.elim
  | inf s => rw [e] at q; exact q.elim
  | fin s c q => exact ⟨s, c, q, e⟩
theorem own_fn {v : Int32} (h : narrow .boolean (.int v) = .int v) : fits .boolean (.int v) = true := by
  have q : v &&& 1 = v := Value.int.inj h
  rcases and_one v with z | z <;> rw [z] at q <;> subst q <;> rfl
/-- a double less than, equal to .. another, as the code asks it -/
abbrev oGe (o : Option Ordering) : Prop := o = some .gt ∨ o = some .eq
abbrev oLe (o : Option Ordering) : Prop := o = some .lt ∨ o = some .eq
theorem d_l_eq_t {o : Option Ordering} (h : o = some .eq) : ifCond.holds .eq (cmpValue o .l) = true := by
  rcases o with _ | _ | _ | _ <;> first | rfl | decide | (exfalso; revert h; decide)
theorem d_l_eq_f {o : Option Ordering} (h : ¬ o = some .eq) : ifCond.holds .eq (cmpValue o .l) = false := by
  rcases o with _ | _ | _ | _ <;> first | rfl | decide | (exfalso; revert h; decide)
theorem d_l_ne_t {o : Option Ordering} (h : ¬ o = some .eq) : ifCond.holds .ne (cmpValue o .l) = true := by
  rcases o with _ | _ | _ | _ <;> first | rfl | decide | (exfalso; revert h; decide)
theorem d_l_ne_f {o : Option Ordering} (h : o = some .eq) : ifCond.holds .ne (cmpValue o .l) = false := by
  rcases o with _ | _ | _ | _ <;> first | rfl | decide | (exfalso; revert h; decide)
theorem d_g_eq_t {o : Option Ordering} (h : o = some .eq) : ifCond.holds .eq (cmpValue o .g) = true := by
  rcases o with _ | _ | _ | _ <;> first | rfl | decide | (exfalso; revert h; decide)
theorem d_g_eq_f {o : Option Ordering} (h : ¬ o = some .eq) : ifCond.holds .eq (cmpValue o .g) = false := by
  rcases o with _ | _ | _ | _ <;> first | rfl | decide | (exfalso; revert h; decide)
theorem d_g_ne_t {o : Option Ordering} (h : ¬ o = some .eq) : ifCond.holds .ne (cmpValue o .g) = true := by
  rcases o with _ | _ | _ | _ <;> first | rfl | decide | (exfalso; revert h; decide)
theorem d_g_ne_f {o : Option Ordering} (h : o = some .eq) : ifCond.holds .ne (cmpValue o .g) = false := by
  rcases o with _ | _ | _ | _ <;> first | rfl | decide | (exfalso; revert h; decide)
theorem d_l_lt_t {o : Option Ordering} (h : ¬ oGe o) : ifCond.holds .lt (cmpValue o .l) = true := by
  rcases o with _ | _ | _ | _ <;> first | rfl | decide | (exfalso; revert h; decide)
theorem d_l_lt_f {o : Option Ordering} (h : oGe o) : ifCond.holds .lt (cmpValue o .l) = false := by
  rcases o with _ | _ | _ | _ <;> first | rfl | decide | (exfalso; revert h; decide)
theorem d_l_ge_t {o : Option Ordering} (h : oGe o) : ifCond.holds .ge (cmpValue o .l) = true := by
  rcases o with _ | _ | _ | _ <;> first | rfl | decide | (exfalso; revert h; decide)
theorem d_l_ge_f {o : Option Ordering} (h : ¬ oGe o) : ifCond.holds .ge (cmpValue o .l) = false := by
  rcases o with _ | _ | _ | _ <;> first | rfl | decide | (exfalso; revert h; decide)
theorem d_l_gt_t {o : Option Ordering} (h : o = some .gt) : ifCond.holds .gt (cmpValue o .l) = true := by
  rcases o with _ | _ | _ | _ <;> first | rfl | decide | (exfalso; revert h; decide)
theorem d_l_gt_f {o : Option Ordering} (h : ¬ o = some .gt) : ifCond.holds .gt (cmpValue o .l) = false := by
  rcases o with _ | _ | _ | _ <;> first | rfl | decide | (exfalso; revert h; decide)
theorem d_l_le_t {o : Option Ordering} (h : ¬ o = some .gt) : ifCond.holds .le (cmpValue o .l) = true := by
  rcases o with _ | _ | _ | _ <;> first | rfl | decide | (exfalso; revert h; decide)
theorem d_l_le_f {o : Option Ordering} (h : o = some .gt) : ifCond.holds .le (cmpValue o .l) = false := by
  rcases o with _ | _ | _ | _ <;> first | rfl | decide | (exfalso; revert h; decide)
theorem d_g_lt_t {o : Option Ordering} (h : o = some .lt) : ifCond.holds .lt (cmpValue o .g) = true := by
  rcases o with _ | _ | _ | _ <;> first | rfl | decide | (exfalso; revert h; decide)
theorem d_g_lt_f {o : Option Ordering} (h : ¬ o = some .lt) : ifCond.holds .lt (cmpValue o .g) = false := by
  rcases o with _ | _ | _ | _ <;> first | rfl | decide | (exfalso; revert h; decide)
theorem d_g_ge_t {o : Option Ordering} (h : ¬ o = some .lt) : ifCond.holds .ge (cmpValue o .g) = true := by
  rcases o with _ | _ | _ | _ <;> first | rfl | decide | (exfalso; revert h; decide)
theorem d_g_ge_f {o : Option Ordering} (h : o = some .lt) : ifCond.holds .ge (cmpValue o .g) = false := by
  rcases o with _ | _ | _ | _ <;> first | rfl | decide | (exfalso; revert h; decide)
theorem d_g_gt_t {o : Option Ordering} (h : ¬ oLe o) : ifCond.holds .gt (cmpValue o .g) = true := by
  rcases o with _ | _ | _ | _ <;> first | rfl | decide | (exfalso; revert h; decide)
theorem d_g_gt_f {o : Option Ordering} (h : oLe o) : ifCond.holds .gt (cmpValue o .g) = false := by
  rcases o with _ | _ | _ | _ <;> first | rfl | decide | (exfalso; revert h; decide)
theorem d_g_le_t {o : Option Ordering} (h : oLe o) : ifCond.holds .le (cmpValue o .g) = true := by
  rcases o with _ | _ | _ | _ <;> first | rfl | decide | (exfalso; revert h; decide)
theorem d_g_le_f {o : Option Ordering} (h : ¬ oLe o) : ifCond.holds .le (cmpValue o .g) = false := by
  rcases o with _ | _ | _ | _ <;> first | rfl | decide | (exfalso; revert h; decide)
theorem l_eq (x y : Int64) : XT.cmpL x y = 0 ↔ x = y := lw_eq x y
theorem l_lt (x y : Int64) : XT.cmpL x y < 0 ↔ x < y := lw_lt x y
theorem l_gt (x y : Int64) : 0 < XT.cmpL x y ↔ y < x := lw_gt x y
theorem g_ret (A : Ax p l e R s m args below meth c T locs cells slots B) {w : Value} {t : FieldType} {i : Instr} {Q : Option Value → Heap → List Loc → Prop} {K S : Nat} (hd : decode B pc = .ok (i, 1)) (hlk : meth.locks = false) (hret : meth.sig.returnType = some t) (hn : narrow t w = w)
    (hi : (i = .ireturn ∧ (t = .int ∨ t = .boolean ∨ t = .byte ∨ t = .char ∨ t = .short) ∧ ∃ z, w = .int z) ∨ (i = .lreturn ∧ t = .long ∧ ∃ z, w = .long z) ∨ (i = .dreturn ∧ t = .double ∧ ∃ z, w = .double z) ∨ (i = .freturn ∧ t = .float ∧ ∃ z, w = .float z) ∨ (i = .areturn ∧ t.isReference = true ∧ w.isRef = true))
    (hK : cells ≤ K) (hS : slots ≤ S) (hQ : Q (some w) T.heap locs) : Go p e below (fun U o => ∃ v L, o = .returned v ∧ Q v U.heap L ∧ FrameEnd s o U L K S) T (mkF m pc ls (w :: st)) := by
  obtain ⟨fs, hr, hrun, hended, hW, hsame⟩ := A.1.leave (v := some w) (fun h => by rw [hret] at h; cases h) hlk
  exact ⟨_, _, retOut A.1 A.2.1 hret hn hi (hb A.2.2 hd) hr, hrun, hended, _, _, rfl, hQ, ⟨_, rfl⟩, hW, hsame.mono hK hS⟩
theorem g_retV (A : Ax p l e R s m args below meth c T locs cells slots B) {Q : Option Value → Heap → List Loc → Prop} {K S : Nat} (hd : decode B pc = .ok (.return_, 1)) (hlk : meth.locks = false) (hret : meth.sig.returnType = none)
    (hK : cells ≤ K) (hS : slots ≤ S) (hQ : Q none T.heap locs) : Go p e below (fun U o => ∃ v L, o = .returned v ∧ Q v U.heap L ∧ FrameEnd s o U L K S) T (mkF m pc ls []) := by
  obtain ⟨fs, hr, hrun, hended, hW, hsame⟩ := A.1.leave (v := none) (fun _ => rfl) hlk
  exact ⟨_, _, A.1.returnOut A.2.1 hret (hb A.2.2 hd) hr, hrun, hended, _, _, rfl, hQ, ⟨_, rfl⟩, hW, hsame.mono hK hS⟩
theorem g_ldcI (A : Ax p l e R s m args below meth c T locs cells slots B) {Z : State} {a0 : Array Value} {own : String} {i : Nat} {v : Int32} (hZ : Z.Warmed39 s.vm) (hown : s.vm.findClass own = some m.cls) (w : (Jvm.Cond.constant own i v).before a0 Z = true) (hd : decode B pc = .ok (.ldc i, 2)) (hp : pc + 2 = pc') (k : Go p e below P T (mkF m pc' ls (.int v :: st))) : Go p e below P T (mkF m pc ls st) := by
  subst hp; exact Go.of (A.1.ldcInt A.2.1 hown (mvT hZ w) (g := mkF m pc ls st) rfl (hb A.2.2 hd)) k
theorem g_ldcD (A : Ax p l e R s m args below meth c T locs cells slots B) {Z : State} {a0 : Array Value} {own : String} {i : Nat} {v : UInt64} (hZ : Z.Warmed39 s.vm) (hown : s.vm.findClass own = some m.cls) (w : (Jvm.Cond.constantDouble own i v).before a0 Z = true) (hd : decode B pc = .ok (.ldc2_w i, 3)) (hp : pc + 3 = pc') (k : Go p e below P T (mkF m pc' ls (.double v :: st))) : Go p e below P T (mkF m pc ls st) := by
  subst hp; exact Go.of (A.1.ldc2DoubleC A.2.1 hown (mvT hZ w) (g := mkF m pc ls st) rfl (hb A.2.2 hd)) k
theorem g_ldcL (A : Ax p l e R s m args below meth c T locs cells slots B) {Z : State} {a0 : Array Value} {own : String} {i : Nat} {v : Int64} (hZ : Z.Warmed39 s.vm) (hown : s.vm.findClass own = some m.cls) (w : (Jvm.Cond.constantLong own i v).before a0 Z = true) (hd : decode B pc = .ok (.ldc2_w i, 3)) (hp : pc + 3 = pc') (k : Go p e below P T (mkF m pc' ls (.long v :: st))) : Go p e below P T (mkF m pc ls st) := by
  subst hp; exact Go.of (A.1.ldc2Long A.2.1 hown (mvT hZ w) (g := mkF m pc ls st) rfl (hb A.2.2 hd)) k
theorem g_nnY (A : Ax p l e R s m args below meth c T locs cells slots B) {o : Int} {b : Addr} (hd : decode B pc = .ok (.ifnonnull o, 3)) (hp : (pc : Int) + o = (pc' : Int)) (k : Go p e below P T (mkF m pc' ls st)) : Go p e below P T (mkF m pc ls (.ref b :: st)) := Go.of (fun _ k' => XT.ifnonnullYes A.1.here A.2.1 rfl rfl (hb A.2.2 hd) rfl (own_off hp).1 (own_off hp).2 k') k
theorem g_nnN (A : Ax p l e R s m args below meth c T locs cells slots B) {o : Int} (hd : decode B pc = .ok (.ifnonnull o, 3)) (hp : pc + 3 = pc') (k : Go p e below P T (mkF m pc' ls st)) : Go p e below P T (mkF m pc ls (.null :: st)) := by
  subst hp; exact Go.of (fun _ k' => XT.ifnonnullNo A.1.here A.2.1 rfl (hb A.2.2 hd) rfl k') k
theorem g_nuY (A : Ax p l e R s m args below meth c T locs cells slots B) {o : Int} (hd : decode B pc = .ok (.ifnull o, 3)) (hp : (pc : Int) + o = (pc' : Int)) (k : Go p e below P T (mkF m pc' ls st)) : Go p e below P T (mkF m pc ls (.null :: st)) := Go.of (fun _ k' => XS.ifnullYes A.1.here A.2.1 rfl rfl (hb A.2.2 hd) rfl (own_off hp).1 (own_off hp).2 k') k
theorem g_nuN (A : Ax p l e R s m args below meth c T locs cells slots B) {o : Int} {b : Addr} (hd : decode B pc = .ok (.ifnull o, 3)) (hp : pc + 3 = pc') (k : Go p e below P T (mkF m pc' ls st)) : Go p e below P T (mkF m pc ls (.ref b :: st)) := by
  subst hp; exact Go.of (fun _ k' => XS.ifnullNo A.1.here A.2.1 rfl (hb A.2.2 hd) rfl k') k
theorem g_acY (A : Ax p l e R s m args below meth c T locs cells slots B) {o : Int} {cd : ClassFile.ACond} {x y : Value} (hd : decode B pc = .ok (.if_acmp cd o, 3)) (h1 : x.isRef = true) (h2 : y.isRef = true) (hc : XT.acmp cd x y = true) (hp : (pc : Int) + o = (pc' : Int)) (k : Go p e below P T (mkF m pc' ls st)) : Go p e below P T (mkF m pc ls (y :: x :: st)) := Go.of (fun _ k' => XT.acmpYes A.1.here A.2.1 rfl rfl (hb A.2.2 hd) rfl h1 h2 hc (own_off hp).1 (own_off hp).2 k') k
theorem g_acN (A : Ax p l e R s m args below meth c T locs cells slots B) {o : Int} {cd : ClassFile.ACond} {x y : Value} (hd : decode B pc = .ok (.if_acmp cd o, 3)) (h1 : x.isRef = true) (h2 : y.isRef = true) (hc : XT.acmp cd x y = false) (hp : pc + 3 = pc') (k : Go p e below P T (mkF m pc' ls st)) : Go p e below P T (mkF m pc ls (y :: x :: st)) := by
  subst hp; exact Go.of (fun _ k' => XT.acmpNo A.1.here A.2.1 rfl (hb A.2.2 hd) rfl h1 h2 hc k') k
/-- an array of n places: its i-th holds f i -/
def Dar (Z : State) (h : Heap) (a : Addr) (ty : FieldType) (n : Nat) (f : Nat → Value) : Prop := ∃ cl : Cell, RoadKit.Arr Z h a cl ty ∧ cl.slots.size = n ∧ n < 2147483648 ∧ ∀ i, i < n → cl.slots[i]? = some (f i)
variable {Z : State} {h h' : Heap} {a b : Addr} {ty : FieldType} {n : Nat} {f g : Nat → Value} {sl : Nat} {v : Value} {ws : List Addr}
theorem Dar.lt (F : Dar Z h a ty n f) : a < h.size := by obtain ⟨cl, A, -⟩ := F; exact A.lt
theorem Dar.ext (E : Ext h h') (F : Dar Z h a ty n f) : Dar Z h' a ty n f := by obtain ⟨cl, A, r⟩ := F; exact ⟨cl, A.ext E, r⟩
theorem Dar.other (W : Wr h h' b sl v) (F : Dar Z h a ty n f) (q : a ≠ b) : Dar Z h' a ty n f := by obtain ⟨cl, A, r⟩ := F; exact ⟨cl, A.other W q, r⟩
theorem Dar.keep (F : Dar Z h a ty n f) (K : Keep h h' ws) (q : a ∉ ws) : Dar Z h' a ty n f := by obtain ⟨cl, A, r⟩ := F; exact ⟨cl, ⟨K.2.1 a cl A.1 q, A.2⟩, r⟩
theorem Dar.congr (F : Dar Z h a ty n f) (q : ∀ i, i < n → f i = g i) : Dar Z h a ty n g := by obtain ⟨cl, A, r1, r2, r3⟩ := F; exact ⟨cl, A, r1, r2, fun i hi => by rw [← q i hi]; exact r3 i hi⟩
theorem Dar.new {cA : ClassId} {z : Int32} (A : RoadKit.Arr Z h a (newA cA ty z) ty) (hz : z.toNatClampNeg = n) : Dar Z h a ty n (fun _ => defaultValue ty) := by
  refine ⟨_, A, (sz_new _ _ _).trans hz, ?_, fun i hi => by subst hz; simp [newA, hi]⟩
  have := z.toInt_lt
  rw [← hz, Int32.toNatClampNeg]; omega
theorem Dar.ne_exa {a0 : Array Value} {k : Nat} {C : String} (F : Dar Z h a ty n f) (E : Exa Z h b C) (wi : (Jvm.Cond.instantiable C k).before a0 Z = true) : a ≠ b := by obtain ⟨cl, A, -⟩ := F; exact fun q => ne_arr E wi A q.symm
theorem own_ne {a b : Nat} {h : Heap} (g : a = h.size) (q : b < h.size) : b ≠ a := by rw [g]; exact Nat.ne_of_lt q
theorem own_clamp {i : Nat} (hi : i < 2147483648) : (Int32.ofNat i).toNatClampNeg = i ∧ ¬ Int32.ofNat i < 0 := by
  have e : (Int32.ofNat i).toInt = i := Int32.toInt_ofNat_of_lt hi
  refine ⟨by rw [Int32.toNatClampNeg, e]; omega, fun q => ?_⟩
  rw [Int32.lt_iff_toInt_lt, e] at q
  have : (0 : Int32).toInt = 0 := rfl
  omega
theorem Dar.set {i : Nat} (F : Dar Z h a ty n f) (W : Wr h h' a i v) (q : ∀ j, j < n → g j = if j = i then v else f j) : Dar Z h' a ty n g := by
  obtain ⟨cl, A, r1, r2, r3⟩ := F
  refine ⟨_, A.same W, (sz_set _ _ _).trans r1, r2, fun j hj => ?_⟩
  rw [q j hj]
  by_cases e : j = i
  · subst e; rw [if_pos rfl]; simp [Cell.setSlot, r1, hj]
  · rw [if_neg e]; exact (Array.getElem?_setIfInBounds_ne (Ne.symm e)).trans (r3 j hj)
theorem own_in {cl : Cell} {i : Nat} (S : cl.slots.size = n) (hn : n < 2147483648) (hi : i < n) : ¬ (Int32.ofNat i < 0 ∨ cl.slots.size ≤ (Int32.ofNat i).toNatClampNeg) := by
  obtain ⟨q1, q2⟩ := own_clamp (i := i) (by omega)
  rw [q1, S]; exact fun z => z.elim q2 (by omega)
theorem g_daload (A : Ax p l e R s m args below meth c T locs cells slots B) (hZ : Z.Warmed39 s.vm) (eT : T.heap = h) {j : Int32} {i : Nat} {x : UInt64} (F : Dar Z h a .double n f) (hi : i < n) (hj : j = Int32.ofNat i) (hv : f i = .double x) (hd : decode B pc = .ok (.daload, 1)) (hp : pc + 1 = pc') (k : Go p e below P T (mkF m pc' ls (.double x :: st))) : Go p e below P T (mkF m pc ls (.int j :: .ref a :: st)) := by
  subst hp hj
  obtain ⟨cl, A2, r1, r2, r3⟩ := F
  have q := (own_clamp (i := i) (by omega)).1
  exact Go.of (fun t k' => A.1.daload A.2.1 (j := Int32.ofNat i) (v := .double x) (by rw [eT]; exact A2.1) (State.isArrayOf_alike hZ.alike A2.2.1) A2.2.2 (own_in r1 r2 hi) (by rw [q, ← hv]; exact r3 i hi) (g := mkF m pc ls (.int (Int32.ofNat i) :: .ref a :: st)) rfl rfl (hb A.2.2 hd) t k') k
theorem g_iaload (A : Ax p l e R s m args below meth c T locs cells slots B) (hZ : Z.Warmed39 s.vm) (eT : T.heap = h) {j : Int32} {i : Nat} {x : Int32} (F : Dar Z h a .int n f) (hi : i < n) (hj : j = Int32.ofNat i) (hv : f i = .int x) (hd : decode B pc = .ok (.iaload, 1)) (hp : pc + 1 = pc') (k : Go p e below P T (mkF m pc' ls (.int x :: st))) : Go p e below P T (mkF m pc ls (.int j :: .ref a :: st)) := by
  subst hp hj
  obtain ⟨cl, A2, r1, r2, r3⟩ := F
  have q := (own_clamp (i := i) (by omega)).1
  exact Go.of (fun t k' => A.1.iaload A.2.1 (j := Int32.ofNat i) (v := .int x) (by rw [eT]; exact A2.1) (State.isArrayOf_alike hZ.alike A2.2.1) A2.2.2 (own_in r1 r2 hi) (by rw [q, ← hv]; exact r3 i hi) (g := mkF m pc ls (.int (Int32.ofNat i) :: .ref a :: st)) rfl rfl (hb A.2.2 hd) t k') k
theorem g_baload (A : Ax p l e R s m args below meth c T locs cells slots B) (hZ : Z.Warmed39 s.vm) (eT : T.heap = h) {j : Int32} {i : Nat} {x : Int32} (F : Dar Z h a .boolean n f) (hi : i < n) (hj : j = Int32.ofNat i) (hv : f i = .int x) (hd : decode B pc = .ok (.baload, 1)) (hp : pc + 1 = pc') (k : Go p e below P T (mkF m pc' ls (.int x :: st))) : Go p e below P T (mkF m pc ls (.int j :: .ref a :: st)) := by
  subst hp hj
  obtain ⟨cl, A2, r1, r2, r3⟩ := F
  have q := (own_clamp (i := i) (by omega)).1
  exact Go.of (fun t k' => A.1.baloadBooleans A.2.1 (j := Int32.ofNat i) (v := .int x) (by rw [eT]; exact A2.1) (State.isArrayOf_alike hZ.alike A2.2.1) A2.2.2 (own_in r1 r2 hi) (by rw [q, ← hv]; exact r3 i hi) (g := mkF m pc ls (.int (Int32.ofNat i) :: .ref a :: st)) rfl rfl (hb A.2.2 hd) t k') k
theorem g_alen (A : Ax p l e R s m args below meth c T locs cells slots B) (hZ : Z.Warmed39 s.vm) (eT : T.heap = h) (F : Dar Z h a ty n f) (hd : decode B pc = .ok (.arraylength, 1)) {z : Int32} (hz : Int32.ofNat n = z) (hp : pc + 1 = pc') (k : Go p e below P T (mkF m pc' ls (.int z :: st))) : Go p e below P T (mkF m pc ls (.ref a :: st)) := by
  subst hp hz
  obtain ⟨cl, A2, r1, r2, r3⟩ := F
  exact Go.of (fun t k' => A.1.arraylength A.2.1 (cell := cl) (by rw [eT]; exact A2.1) (State.isArrayOf_alike hZ.alike A2.2.1) (g := mkF m pc ls (.ref a :: st)) rfl (rest := st) rfl (hb A.2.2 hd) t (by rw [r1]; exact k')) k
theorem s_dastore (A : Ax p l e R s m args below meth c T locs cells slots B) (hZ : Z.Warmed39 s.vm) (eT : T.heap = h) {j : Int32} {i : Nat} {x : UInt64} (F : Dar Z h a .double n f) (hi : i < n) (hj : j = Int32.ofNat i) (hd : decode B pc = .ok (.dastore, 1)) (hp : pc + 1 = pc') :
    ∃ T' h', Ax p l e R s m args below meth c T' (locs ++ [⟨a, i⟩]) cells slots B ∧ T'.heap = h' ∧ Wr h h' a i (.double x) ∧ ∀ {P : State → Outcome → Prop}, Go p e below P T' (mkF m pc' ls st) → Go p e below P T (mkF m pc ls (.double x :: .int j :: .ref a :: st)) := by
  subst hp hj
  obtain ⟨cl, A2, r1, r2, r3⟩ := F
  have q := (own_clamp (i := i) (by omega)).1
  obtain ⟨X', st'⟩ := A.1.dastore A.2.1 (by rw [eT]; exact A2.1) (State.isArrayOf_alike hZ.alike A2.2.1) A2.2.2 (own_in r1 r2 hi) (x := x) (g := mkF m pc ls (.double x :: .int (Int32.ofNat i) :: .ref a :: st)) rfl rfl (hb A.2.2 hd)
  rw [q] at X' st'
  exact ⟨_, _, ⟨X', A.2⟩, rfl, ⟨cl, A2.1, A2.plain, by rw [r1]; exact hi, by rw [← eT]; rfl⟩, fun k => Go.of st' k⟩
theorem s_iastore (A : Ax p l e R s m args below meth c T locs cells slots B) (hZ : Z.Warmed39 s.vm) (eT : T.heap = h) {j : Int32} {i : Nat} {x : Int32} (F : Dar Z h a .int n f) (hi : i < n) (hj : j = Int32.ofNat i) (hd : decode B pc = .ok (.iastore, 1)) (hp : pc + 1 = pc') :
    ∃ T' h', Ax p l e R s m args below meth c T' (locs ++ [⟨a, i⟩]) cells slots B ∧ T'.heap = h' ∧ Wr h h' a i (.int x) ∧ ∀ {P : State → Outcome → Prop}, Go p e below P T' (mkF m pc' ls st) → Go p e below P T (mkF m pc ls (.int x :: .int j :: .ref a :: st)) := by
  subst hp hj
  obtain ⟨cl, A2, r1, r2, r3⟩ := F
  have q := (own_clamp (i := i) (by omega)).1
  obtain ⟨T', h', X', e', W, st'⟩ := stI A.1 A.2.1 hZ eT A2 (own_in r1 r2 hi) (x := x) (g := mkF m pc ls (.int x :: .int (Int32.ofNat i) :: .ref a :: st)) rfl rfl (hb A.2.2 hd)
  rw [q] at X' W
  exact ⟨_, _, ⟨X', A.2⟩, e', W, fun k => Go.of st' k⟩
theorem s_zastore (A : Ax p l e R s m args below meth c T locs cells slots B) (hZ : Z.Warmed39 s.vm) (eT : T.heap = h) {j : Int32} {i : Nat} {x : Int32} (F : Dar Z h a .boolean n f) (hi : i < n) (hj : j = Int32.ofNat i) (hx1 : narrow .boolean (.int x) = .int x) (hd : decode B pc = .ok (.bastore, 1)) (hp : pc + 1 = pc') :
    ∃ T' h', Ax p l e R s m args below meth c T' (locs ++ [⟨a, i⟩]) cells slots B ∧ T'.heap = h' ∧ Wr h h' a i (.int x) ∧ ∀ {P : State → Outcome → Prop}, Go p e below P T' (mkF m pc' ls st) → Go p e below P T (mkF m pc ls (.int x :: .int j :: .ref a :: st)) := by
  subst hp hj
  obtain ⟨cl, A2, r1, r2, r3⟩ := F
  have q := (own_clamp (i := i) (by omega)).1
  obtain ⟨T', h', X', e', W, st'⟩ := stZ A.1 A.2.1 hZ eT A2 (own_in r1 r2 hi) (x := x) (g := mkF m pc ls (.int x :: .int (Int32.ofNat i) :: .ref a :: st)) rfl rfl (hb A.2.2 hd)
  have q2 : nar .boolean x = x := Value.int.inj hx1
  rw [q] at X' W; rw [q2] at W
  exact ⟨_, _, ⟨X', A.2⟩, e', W, fun k => Go.of st' k⟩
end own_go
def own_r_rm1 (q0 : Int64) (q1 : Int32) : Int32 := (((XT.ushrL q0 ((16 : Int32) * q1)).toInt32).toInt16.toInt32)
theorem d1_0 : decode method_2_code 0 = .ok (.lload_n 0, 1) := by decide +kernel
theorem d1_1 : decode method_2_code 1 = .ok (.bipush 16, 2) := by decide +kernel
theorem d1_3 : decode method_2_code 3 = .ok (.iload_n 2, 1) := by decide +kernel
theorem d1_4 : decode method_2_code 4 = .ok (.imul, 1) := by decide +kernel
theorem d1_5 : decode method_2_code 5 = .ok (.lushr, 1) := by decide +kernel
theorem d1_6 : decode method_2_code 6 = .ok (.l2i, 1) := by decide +kernel
theorem d1_7 : decode method_2_code 7 = .ok (.i2s, 1) := by decide +kernel
theorem d1_8 : decode method_2_code 8 = .ok (.ireturn, 1) := by decide +kernel
theorem pn_0 : plainName "com/example/orientry/orientry/MatricesProductPinLaw" = true := by first | (simp [plainName, overriddenIn]; done) | decide +kernel
theorem ef1 (m : MethodId) (q0 : Int64) (q1 : Int32) : entryFrame m #[(.long q0), (.int q1)] 3 = mkF m 0 #[.val (.long q0), .second, .val (.int q1)] [] := by first | (simp [entryFrame, mkF, argsToLocals, Value.category]; done) | rfl
def Q1 (Z : State) (q0 : Int64) (q1 : Int32) (h0 : Heap) (n0 : Nat) (v : Option Value) (h : Heap) (L : List Loc) : Prop := v = some (.int (own_r_rm1 q0 q1)) ∧ Fr n0 L ∧ h = h0
set_option maxRecDepth 65536 in
set_option maxHeartbeats 40000000 in
theorem rm1 (l : Launch) (Z : State) (a0 : Array Value) (hw : ∀ d ∈ tables_1, d.before a0 Z = true) (ws : List Jvm.Cond) (q0 : Int64) (q1 : Int32) (h0 : Heap) (n0 : Nat) (Z0 : n0 ≤ h0.size)  :
    MetFree l (⟨"com/example/orientry/orientry/MatricesProductPinLaw", "sh", "(JI)I"⟩ : MethodName) (head1 (Jvm.Cond.code (⟨"com/example/orientry/orientry/MatricesProductPinLaw", "sh", "(JI)I"⟩ : MethodName) method_2_code 3 (some .int) :: ws) ({ frames := 0, cells := 0, slots := 0, locals := 0 } : Room)) (fun a U => a = #[(.long q0), (.int q1)] ∧ Z.Warmed39 U.vm ∧ U.heap = h0) (fun _ _ _ _ _ => True) (fun _ U o U' => ∃ v L, o = .returned v ∧ Q1 Z q0 q1 h0 n0 v U'.heap L ∧ FrameEnd U o U' L 0 0) := by
  refine MetFree.of_bodySF (plainFor_of_name pn_0) hisR ?_
  intro p e s m args below meth c s₁ Bd hml0 hP hK
  obtain ⟨rfl, hZ, hh⟩ := hP
  have hx := Bd.exec
  have hby := Bd.bytes
  have hml : c.maxLocals = 3 := hml0
  have hown : s.vm.findClass "com/example/orientry/orientry/MatricesProductPinLaw" = some m.cls := findClass_of_methodNamed Bd.named
  have hnm := (name_of_methodNamed Bd.named Bd.method).1
  have X0 : Stand p l e ({ frames := 0, cells := 0, slots := 0, locals := 0 } : Room) s m #[(.long q0), (.int q1)] below meth c s₁ [] 0 0 := Stand.of_body Bd
  have e0 : s₁.heap = h0 := by rw [← hh, Bd.state]; rfl
  have N0 := Fr.nil n0
  have A0 := (⟨X0, hx, hby⟩ : Ax _ _ _ _ _ _ _ _ _ _ _ _ _ _ _)
  show Go p e below (fun U o => ∃ v L, o = .returned v ∧ Q1 Z q0 q1 h0 n0 v U.heap L ∧ FrameEnd s o U L 0 0) s₁ (entryFrame m #[(.long q0), (.int q1)] 3)
  refine Go.cast (ef1 m q0 q1) ?_
  refine g_lloadN A0 d1_0 rfl (pc' := 1) rfl ?_
  refine g_bipush A0 d1_1 (v := (16 : Int32)) rfl (pc' := 3) rfl ?_
  refine g_iloadN A0 d1_3 rfl (pc' := 4) rfl ?_
  refine g_imul A0 d1_4 (pc' := 5) rfl ?_
  refine g_lushr A0 d1_5 (pc' := 6) rfl ?_
  refine g_l2i A0 d1_6 (pc' := 7) rfl ?_
  refine g_i2s A0 d1_7 (pc' := 8) rfl ?_
  exact g_ret (Q := Q1 Z q0 q1 h0 n0) A0 d1_8 Bd.notSynchronized Bd.returns rfl (Or.inl ⟨rfl, by simp, _, rfl⟩) (by decide) (by decide) (by rw [e0]; exact ⟨(congrArg (fun z => some (Value.int z)) (by rw [own_r_rm1])), N0, rfl⟩)
def own_v9 (e0 e1 e2 e3 e4 e5 e6 e7 e8 : UInt64) : Nat → UInt64
  | 0 => e0 | 1 => e1 | 2 => e2 | 3 => e3 | 4 => e4 | 5 => e5 | 6 => e6 | 7 => e7 | _ => e8
def own_dot (a b c d e f : UInt64) : UInt64 := FP.dadd (FP.dadd (FP.dmul a d) (FP.dmul b e)) (FP.dmul c f)
def own_S (x : UInt64) : Prop := ∃ n : Int, FP.Core.DInt n x ∧ n.natAbs ≤ 32768
theorem own_sf {x : UInt64} (h : own_S x) : Fin64 x := by obtain ⟨n, h1, _⟩ := h; exact own_dfin h1
theorem own_mb {a b : Int} (ha : a.natAbs ≤ 32768) (hb : b.natAbs ≤ 32768) : (a * b).natAbs ≤ 1073741824 := by rw [Int.natAbs_mul]; exact Nat.mul_le_mul ha hb
theorem own_d3 {a b c d e f : UInt64} {i j k l m n : Int} (ha : FP.Core.DInt i a) (hb : FP.Core.DInt j b) (hc : FP.Core.DInt k c) (hd : FP.Core.DInt l d) (he : FP.Core.DInt m e) (hf : FP.Core.DInt n f) (ba : i.natAbs ≤ 32768) (bb : j.natAbs ≤ 32768) (bc : k.natAbs ≤ 32768) (bd : l.natAbs ≤ 32768) (be : m.natAbs ≤ 32768) (bf : n.natAbs ≤ 32768) :
    FP.Core.DInt (i * l + j * m) (FP.dadd (FP.dmul a d) (FP.dmul b e)) ∧ FP.Core.DInt (i * l + j * m + k * n) (own_dot a b c d e f) := by
  have m1 := own_mb ba bd
  have m2 := own_mb bb be
  have m3 := own_mb bc bf
  have q := FP.Core.dadd_int (FP.Core.dmul_int ha hd (by omega)) (FP.Core.dmul_int hb he (by omega)) (by omega)
  exact ⟨q, FP.Core.dadd_int q (FP.Core.dmul_int hc hf (by omega)) (by omega)⟩
theorem own_n1 {a b d e : UInt64} (ha : own_S a) (hb : own_S b) (hd : own_S d) (he : own_S e) : NoNaN64 (FP.dadd (FP.dmul a d) (FP.dmul b e)) := by
  obtain ⟨i, ha, ba⟩ := ha; obtain ⟨j, hb, bb⟩ := hb; obtain ⟨l, hd, bd⟩ := hd; obtain ⟨m, he, be⟩ := he
  exact (own_dfin (own_d3 ha hb ha hd he hd ba bb ba bd be bd).1).noNaN
theorem own_n2 {a b c d e f : UInt64} (ha : own_S a) (hb : own_S b) (hc : own_S c) (hd : own_S d) (he : own_S e) (hf : own_S f) : NoNaN64 (FP.dadd (FP.dadd (FP.dmul a d) (FP.dmul b e)) (FP.dmul c f)) := by
  obtain ⟨i, ha, ba⟩ := ha; obtain ⟨j, hb, bb⟩ := hb; obtain ⟨l, hd, bd⟩ := hd; obtain ⟨m, he, be⟩ := he; obtain ⟨k, hc, bc⟩ := hc; obtain ⟨n, hf, bf⟩ := hf
  exact (own_dfin (own_d3 ha hb hc hd he hf ba bb bc bd be bf).2).noNaN
theorem own_end {a b c d e f : Int32} (ba : a.toInt.natAbs ≤ 32768) (bb : b.toInt.natAbs ≤ 32768) (bc : c.toInt.natAbs ≤ 32768) (bd : d.toInt.natAbs ≤ 32768) (be : e.toInt.natAbs ≤ 32768) (bf : f.toInt.natAbs ≤ 32768) :
    FP.dcmp (own_dot (FP.i2d a) (FP.i2d b) (FP.i2d c) (FP.i2d d) (FP.i2d e) (FP.i2d f)) (FP.l2d (((a.toInt64 * d.toInt64) + (b.toInt64 * e.toInt64)) + (c.toInt64 * f.toInt64))) = some .eq := by
  have m1 := own_mb ba bd
  have m2 := own_mb bb be
  have m3 := own_mb bc bf
  have w (x : Int32) : x.toInt64.toInt = x.toInt := c_i2l x
  have pm {x y : Int32} (h : (x.toInt * y.toInt).natAbs ≤ 1073741824) : (x.toInt64 * y.toInt64).toInt = x.toInt * y.toInt := by rw [← w x, ← w y]; exact FP.Core.int64_mul (by rw [w x, w y]; omega) (by rw [w x, w y]; omega)
  have e1 := pm m1
  have e2 := pm m2
  have e3 := pm m3
  have s1 : (a.toInt64 * d.toInt64 + b.toInt64 * e.toInt64).toInt = a.toInt * d.toInt + b.toInt * e.toInt := by rw [← e1, ← e2]; exact FP.Core.int64_add (by rw [e1, e2]; omega) (by rw [e1, e2]; omega)
  have s2 : (a.toInt64 * d.toInt64 + b.toInt64 * e.toInt64 + c.toInt64 * f.toInt64).toInt = a.toInt * d.toInt + b.toInt * e.toInt + c.toInt * f.toInt := by rw [← s1, ← e3]; exact FP.Core.int64_add (by rw [s1, e3]; omega) (by rw [s1, e3]; omega)
  have q := (own_d3 (FP.Core.i2d_int a) (FP.Core.i2d_int b) (FP.Core.i2d_int c) (FP.Core.i2d_int d) (FP.Core.i2d_int e) (FP.Core.i2d_int f) ba bb bc bd be bf).2
  have r : FP.Core.DInt (a.toInt * d.toInt + b.toInt * e.toInt + c.toInt * f.toInt) (FP.l2d (a.toInt64 * d.toInt64 + b.toInt64 * e.toInt64 + c.toInt64 * f.toInt64)) := by rw [← s2]; exact FP.Core.l2d_int (by rw [s2]; omega)
  exact (FP.Core.dcmp_int q r).trans (congrArg some ((FP.Core.compare_eq_iff _ _).mpr rfl))
theorem own_shb (q : Int64) (k : Int32) : (own_r_rm1 q k).toInt.natAbs ≤ 32768 := by
  have := c_i2s ((XT.ushrL q ((16 : Int32) * k)).toInt32)
  show ((XT.ushrL q ((16 : Int32) * k)).toInt32.toInt16.toInt32).toInt.natAbs ≤ 32768
  omega
theorem d2_0 : decode prog_7_method_3_code 0 = .ok (.bipush 9, 2) := by decide +kernel
theorem d2_2 : decode prog_7_method_3_code 2 = .ok (.newarray .double, 2) := by decide +kernel
theorem d2_4 : decode prog_7_method_3_code 4 = .ok (.astore_n 2, 1) := by decide +kernel
theorem d2_5 : decode prog_7_method_3_code 5 = .ok (.iconst 0, 1) := by decide +kernel
theorem d2_6 : decode prog_7_method_3_code 6 = .ok (.istore_n 3, 1) := by decide +kernel
theorem d2_7 : decode prog_7_method_3_code 7 = .ok (.iload_n 3, 1) := by decide +kernel
theorem d2_8 : decode prog_7_method_3_code 8 = .ok (.iconst 3, 1) := by decide +kernel
theorem d2_9 : decode prog_7_method_3_code 9 = .ok (.if_icmp .ge 73, 3) := by decide +kernel
theorem d2_12 : decode prog_7_method_3_code 12 = .ok (.iconst 0, 1) := by decide +kernel
theorem d2_13 : decode prog_7_method_3_code 13 = .ok (.istore 4, 2) := by decide +kernel
theorem d2_15 : decode prog_7_method_3_code 15 = .ok (.iload 4, 2) := by decide +kernel
theorem d2_17 : decode prog_7_method_3_code 17 = .ok (.iconst 3, 1) := by decide +kernel
theorem d2_18 : decode prog_7_method_3_code 18 = .ok (.if_icmp .ge 58, 3) := by decide +kernel
theorem d2_21 : decode prog_7_method_3_code 21 = .ok (.aload_n 2, 1) := by decide +kernel
theorem d2_22 : decode prog_7_method_3_code 22 = .ok (.iconst 3, 1) := by decide +kernel
theorem d2_23 : decode prog_7_method_3_code 23 = .ok (.iload_n 3, 1) := by decide +kernel
theorem d2_24 : decode prog_7_method_3_code 24 = .ok (.imul, 1) := by decide +kernel
theorem d2_25 : decode prog_7_method_3_code 25 = .ok (.iload 4, 2) := by decide +kernel
theorem d2_27 : decode prog_7_method_3_code 27 = .ok (.iadd, 1) := by decide +kernel
theorem d2_28 : decode prog_7_method_3_code 28 = .ok (.aload_n 0, 1) := by decide +kernel
theorem d2_29 : decode prog_7_method_3_code 29 = .ok (.iconst 3, 1) := by decide +kernel
theorem d2_30 : decode prog_7_method_3_code 30 = .ok (.iload_n 3, 1) := by decide +kernel
theorem d2_31 : decode prog_7_method_3_code 31 = .ok (.imul, 1) := by decide +kernel
theorem d2_32 : decode prog_7_method_3_code 32 = .ok (.daload, 1) := by decide +kernel
theorem d2_33 : decode prog_7_method_3_code 33 = .ok (.aload_n 1, 1) := by decide +kernel
theorem d2_34 : decode prog_7_method_3_code 34 = .ok (.iload 4, 2) := by decide +kernel
theorem d2_36 : decode prog_7_method_3_code 36 = .ok (.daload, 1) := by decide +kernel
theorem d2_37 : decode prog_7_method_3_code 37 = .ok (.dmul, 1) := by decide +kernel
theorem d2_38 : decode prog_7_method_3_code 38 = .ok (.aload_n 0, 1) := by decide +kernel
theorem d2_39 : decode prog_7_method_3_code 39 = .ok (.iconst 3, 1) := by decide +kernel
theorem d2_40 : decode prog_7_method_3_code 40 = .ok (.iload_n 3, 1) := by decide +kernel
theorem d2_41 : decode prog_7_method_3_code 41 = .ok (.imul, 1) := by decide +kernel
theorem d2_42 : decode prog_7_method_3_code 42 = .ok (.iconst 1, 1) := by decide +kernel
theorem d2_43 : decode prog_7_method_3_code 43 = .ok (.iadd, 1) := by decide +kernel
theorem d2_44 : decode prog_7_method_3_code 44 = .ok (.daload, 1) := by decide +kernel
theorem d2_45 : decode prog_7_method_3_code 45 = .ok (.aload_n 1, 1) := by decide +kernel
theorem d2_46 : decode prog_7_method_3_code 46 = .ok (.iconst 3, 1) := by decide +kernel
theorem d2_47 : decode prog_7_method_3_code 47 = .ok (.iload 4, 2) := by decide +kernel
theorem d2_49 : decode prog_7_method_3_code 49 = .ok (.iadd, 1) := by decide +kernel
theorem d2_50 : decode prog_7_method_3_code 50 = .ok (.daload, 1) := by decide +kernel
theorem d2_51 : decode prog_7_method_3_code 51 = .ok (.dmul, 1) := by decide +kernel
theorem d2_52 : decode prog_7_method_3_code 52 = .ok (.dadd, 1) := by decide +kernel
theorem d2_53 : decode prog_7_method_3_code 53 = .ok (.aload_n 0, 1) := by decide +kernel
theorem d2_54 : decode prog_7_method_3_code 54 = .ok (.iconst 3, 1) := by decide +kernel
theorem d2_55 : decode prog_7_method_3_code 55 = .ok (.iload_n 3, 1) := by decide +kernel
theorem d2_56 : decode prog_7_method_3_code 56 = .ok (.imul, 1) := by decide +kernel
theorem d2_57 : decode prog_7_method_3_code 57 = .ok (.iconst 2, 1) := by decide +kernel
theorem d2_58 : decode prog_7_method_3_code 58 = .ok (.iadd, 1) := by decide +kernel
theorem d2_59 : decode prog_7_method_3_code 59 = .ok (.daload, 1) := by decide +kernel
theorem d2_60 : decode prog_7_method_3_code 60 = .ok (.aload_n 1, 1) := by decide +kernel
theorem d2_61 : decode prog_7_method_3_code 61 = .ok (.bipush 6, 2) := by decide +kernel
theorem d2_63 : decode prog_7_method_3_code 63 = .ok (.iload 4, 2) := by decide +kernel
theorem d2_65 : decode prog_7_method_3_code 65 = .ok (.iadd, 1) := by decide +kernel
theorem d2_66 : decode prog_7_method_3_code 66 = .ok (.daload, 1) := by decide +kernel
theorem d2_67 : decode prog_7_method_3_code 67 = .ok (.dmul, 1) := by decide +kernel
theorem d2_68 : decode prog_7_method_3_code 68 = .ok (.dadd, 1) := by decide +kernel
theorem d2_69 : decode prog_7_method_3_code 69 = .ok (.dastore, 1) := by decide +kernel
theorem d2_70 : decode prog_7_method_3_code 70 = .ok (.iinc 4 1, 3) := by decide +kernel
theorem d2_73 : decode prog_7_method_3_code 73 = .ok (.goto (-58), 3) := by decide +kernel
theorem d2_76 : decode prog_7_method_3_code 76 = .ok (.iinc 3 1, 3) := by decide +kernel
theorem d2_79 : decode prog_7_method_3_code 79 = .ok (.goto (-72), 3) := by decide +kernel
theorem d2_82 : decode prog_7_method_3_code 82 = .ok (.aload_n 2, 1) := by decide +kernel
theorem d2_83 : decode prog_7_method_3_code 83 = .ok (.areturn, 1) := by decide +kernel
theorem pn_1 : plainName "com/example/orientry/orientry/Matrices" = true := by first | (simp [plainName, overriddenIn]; done) | decide +kernel
theorem ef2 (m : MethodId) (a1 : Addr) (a2 : Addr) (f : Nat → Value) (g : Nat → Value) (x0 : UInt64) (x1 : UInt64) (x2 : UInt64) (x3 : UInt64) (x4 : UInt64) (x5 : UInt64) (x6 : UInt64) (x7 : UInt64) (x8 : UInt64) (y0 : UInt64) (y1 : UInt64) (y2 : UInt64) (y3 : UInt64) (y4 : UInt64) (y5 : UInt64) (y6 : UInt64) (y7 : UInt64) (y8 : UInt64) : entryFrame m #[(.ref a1), (.ref a2)] 5 = mkF m 0 #[.val (.ref a1), .val (.ref a2), .unset, .unset, .unset] [] := by first | (simp [entryFrame, mkF, argsToLocals, Value.category]; done) | rfl
def Q2 (Z : State) (a1 : Addr) (a2 : Addr) (f : Nat → Value) (g : Nat → Value) (x0 : UInt64) (x1 : UInt64) (x2 : UInt64) (x3 : UInt64) (x4 : UInt64) (x5 : UInt64) (x6 : UInt64) (x7 : UInt64) (x8 : UInt64) (y0 : UInt64) (y1 : UInt64) (y2 : UInt64) (y3 : UInt64) (y4 : UInt64) (y5 : UInt64) (y6 : UInt64) (y7 : UInt64) (y8 : UInt64) (h0 : Heap) (n0 : Nat) (v : Option Value) (h : Heap) (L : List Loc) : Prop := ∃ r : Addr, v = some (.ref r) ∧ Fr n0 L ∧ Keep h0 h [] ∧ h0.size ≤ r ∧ Dar Z h r .double 9 (fun i => .double (own_v9 (own_dot x0 x1 x2 y0 y3 y6) (own_dot x0 x1 x2 y1 y4 y7) (own_dot x0 x1 x2 y2 y5 y8) (own_dot x3 x4 x5 y0 y3 y6) (own_dot x3 x4 x5 y1 y4 y7) (own_dot x3 x4 x5 y2 y5 y8) (own_dot x6 x7 x8 y0 y3 y6) (own_dot x6 x7 x8 y1 y4 y7) (own_dot x6 x7 x8 y2 y5 y8) i))
set_option maxRecDepth 65536 in
set_option maxHeartbeats 40000000 in
theorem rm2 (l : Launch) (Z : State) (a0 : Array Value) (hw : ∀ d ∈ tables_1, d.before a0 Z = true) (ws : List Jvm.Cond) (a1 : Addr) (a2 : Addr) (f : Nat → Value) (g : Nat → Value) (x0 : UInt64) (x1 : UInt64) (x2 : UInt64) (x3 : UInt64) (x4 : UInt64) (x5 : UInt64) (x6 : UInt64) (x7 : UInt64) (x8 : UInt64) (y0 : UInt64) (y1 : UInt64) (y2 : UInt64) (y3 : UInt64) (y4 : UInt64) (y5 : UInt64) (y6 : UInt64) (y7 : UInt64) (y8 : UInt64) (h0 : Heap) (n0 : Nat) (Z0 : n0 ≤ h0.size) (V3 : Dar Z h0 a1 .double 9 f) (V4 : Dar Z h0 a2 .double 9 g) (hf0 : f 0 = .double x0) (hf1 : f 1 = .double x1) (hf2 : f 2 = .double x2) (hf3 : f 3 = .double x3) (hf4 : f 4 = .double x4) (hf5 : f 5 = .double x5) (hf6 : f 6 = .double x6) (hf7 : f 7 = .double x7) (hf8 : f 8 = .double x8) (hg0 : g 0 = .double y0) (hg1 : g 1 = .double y1) (hg2 : g 2 = .double y2) (hg3 : g 3 = .double y3) (hg4 : g 4 = .double y4) (hg5 : g 5 = .double y5) (hg6 : g 6 = .double y6) (hg7 : g 7 = .double y7) (hg8 : g 8 = .double y8) (hx0 : own_S x0) (hx1 : own_S x1) (hx2 : own_S x2) (hx3 : own_S x3) (hx4 : own_S x4) (hx5 : own_S x5) (hx6 : own_S x6) (hx7 : own_S x7) (hx8 : own_S x8) (hy0 : own_S y0) (hy1 : own_S y1) (hy2 : own_S y2) (hy3 : own_S y3) (hy4 : own_S y4) (hy5 : own_S y5) (hy6 : own_S y6) (hy7 : own_S y7) (hy8 : own_S y8) :
    MetFree l (⟨"com/example/orientry/orientry/Matrices", "product", "([D[D)[D"⟩ : MethodName) (head1 (Jvm.Cond.code (⟨"com/example/orientry/orientry/Matrices", "product", "([D[D)[D"⟩ : MethodName) prog_7_method_3_code 5 (some (.array .double)) :: ws) ({ frames := 0, cells := 1, slots := 9, locals := 0 } : Room)) (fun a U => a = #[(.ref a1), (.ref a2)] ∧ Z.Warmed39 U.vm ∧ U.heap = h0) (fun _ _ _ _ _ => True) (fun _ U o U' => ∃ v L, o = .returned v ∧ Q2 Z a1 a2 f g x0 x1 x2 x3 x4 x5 x6 x7 x8 y0 y1 y2 y3 y4 y5 y6 y7 y8 h0 n0 v U'.heap L ∧ FrameEnd U o U' L 1 9) := by
  refine MetFree.of_bodySF (plainFor_of_name pn_1) hisR ?_
  intro p e s m args below meth c s₁ Bd hml0 hP hK
  obtain ⟨rfl, hZ, hh⟩ := hP
  have hx := Bd.exec
  have hby := Bd.bytes
  have hml : c.maxLocals = 5 := hml0
  have hown : s.vm.findClass "com/example/orientry/orientry/Matrices" = some m.cls := findClass_of_methodNamed Bd.named
  have hnm := (name_of_methodNamed Bd.named Bd.method).1
  have X0 : Stand p l e ({ frames := 0, cells := 1, slots := 9, locals := 0 } : Room) s m #[(.ref a1), (.ref a2)] below meth c s₁ [] 0 0 := Stand.of_body Bd
  have e0 : s₁.heap = h0 := by rw [← hh, Bd.state]; rfl
  have N0 := Fr.nil n0
  have A0 := (⟨X0, hx, hby⟩ : Ax _ _ _ _ _ _ _ _ _ _ _ _ _ _ _)
  show Go p e below (fun U o => ∃ v L, o = .returned v ∧ Q2 Z a1 a2 f g x0 x1 x2 x3 x4 x5 x6 x7 x8 y0 y1 y2 y3 y4 y5 y6 y7 y8 h0 n0 v U.heap L ∧ FrameEnd s o U L 1 9) s₁ (entryFrame m #[(.ref a1), (.ref a2)] 5)
  refine Go.cast (ef2 m a1 a2 f g x0 x1 x2 x3 x4 x5 x6 x7 x8 y0 y1 y2 y3 y4 y5 y6 y7 y8) ?_
  refine g_bipush A0 d2_0 (v := (9 : Int32)) rfl (pc' := 2) rfl ?_
  obtain ⟨T5, h5, k5, X5, e5, E5, Ar5, st5⟩ := newP X0 hx hZ (hw _ (List.mem_of_getElem? (i := 4) rfl)) e0 (g := (mkF m 2 #[.val (.ref a1), .val (.ref a2), .unset, .unset, .unset] [(.int (9 : Int32))])) rfl (hb hby d2_2) rfl (by decide) (cap := 9) (by decide) (by decide) (by decide) (by decide)
  obtain ⟨b6, eb6⟩ : ∃ z, z = h0.size := ⟨_, rfl⟩
  rw [← eb6] at Ar5 st5
  have ne7 : a1 ≠ b6 := own_ne eb6 V3.lt
  have ne8 : a2 ≠ b6 := own_ne eb6 V4.lt
  have g9 : n0 ≤ b6 := by rw [eb6]; exact Z0
  have gh10 : h0.size ≤ b6 := by rw [eb6]; exact (Keep.refl h0 []).1
  have K11 : Keep h0 h5 [] := (Keep.refl h0 []).ext E5
  have V12 : Dar Z h5 a1 .double 9 f := Dar.ext E5 V3
  have V13 : Dar Z h5 a2 .double 9 g := Dar.ext E5 V4
  have Z14 : n0 ≤ h5.size := Nat.le_trans Z0 E5.1
  have V15 : Dar Z h5 b6 .double 9 (fun _ => .double (0 : UInt64)) := Dar.new Ar5 (by decide)
  refine Go.of (g' := (mkF m 4 #[.val (.ref a1), .val (.ref a2), .unset, .unset, .unset] [(.ref b6)])) st5 ?_
  have A16 := (⟨X5, hx, hby⟩ : Ax _ _ _ _ _ _ _ _ _ _ _ _ _ _ _)
  refine g_astoreN A16 d2_4 rfl (ls' := #[.val (.ref a1), .val (.ref a2), .val (.ref b6), .unset, .unset]) rfl (pc' := 5) rfl ?_
  refine g_iconst A16 d2_5 (v := (0 : Int32)) rfl (pc' := 6) rfl ?_
  refine g_istoreN A16 d2_6 (ls' := #[.val (.ref a1), .val (.ref a2), .val (.ref b6), .val (.int (0 : Int32)), .unset]) rfl (pc' := 7) rfl ?_
  refine g_iloadN A16 d2_7 rfl (pc' := 8) rfl ?_
  refine g_iconst A16 d2_8 (v := (3 : Int32)) rfl (pc' := 9) rfl ?_
  refine g_icN A16 d2_9 (c2_ge_f (by decide)) (pc' := 12) rfl ?_
  refine g_iconst A16 d2_12 (v := (0 : Int32)) rfl (pc' := 13) rfl ?_
  refine g_istore A16 d2_13 (ls' := #[.val (.ref a1), .val (.ref a2), .val (.ref b6), .val (.int (0 : Int32)), .val (.int (0 : Int32))]) rfl (pc' := 15) rfl ?_
  refine g_iload A16 d2_15 rfl (pc' := 17) rfl ?_
  refine g_iconst A16 d2_17 (v := (3 : Int32)) rfl (pc' := 18) rfl ?_
  refine g_icN A16 d2_18 (c2_ge_f (by decide)) (pc' := 21) rfl ?_
  refine g_aloadN A16 d2_21 rfl rfl (pc' := 22) rfl ?_
  refine g_iconst A16 d2_22 (v := (3 : Int32)) rfl (pc' := 23) rfl ?_
  refine g_iloadN A16 d2_23 rfl (pc' := 24) rfl ?_
  refine g_imulL A16 d2_24 (z := (0 : Int32)) (by decide) (pc' := 25) rfl ?_
  refine g_iload A16 d2_25 rfl (pc' := 27) rfl ?_
  refine g_iaddL A16 d2_27 (z := (0 : Int32)) (by decide) (pc' := 28) rfl ?_
  refine g_aloadN A16 d2_28 rfl rfl (pc' := 29) rfl ?_
  refine g_iconst A16 d2_29 (v := (3 : Int32)) rfl (pc' := 30) rfl ?_
  refine g_iloadN A16 d2_30 rfl (pc' := 31) rfl ?_
  refine g_imulL A16 d2_31 (z := (0 : Int32)) (by decide) (pc' := 32) rfl ?_
  refine g_daload A16 hZ e5 V12 (i := 0) (by decide) rfl (x := x0) hf0 d2_32 (pc' := 33) rfl ?_
  refine g_aloadN A16 d2_33 rfl rfl (pc' := 34) rfl ?_
  refine g_iload A16 d2_34 rfl (pc' := 36) rfl ?_
  refine g_daload A16 hZ e5 V13 (i := 0) (by decide) rfl (x := y0) hg0 d2_36 (pc' := 37) rfl ?_
  refine g_dmul A16 d2_37 (own_ndmul (own_sf hx0) (own_sf hy0)) (pc' := 38) rfl ?_
  refine g_aloadN A16 d2_38 rfl rfl (pc' := 39) rfl ?_
  refine g_iconst A16 d2_39 (v := (3 : Int32)) rfl (pc' := 40) rfl ?_
  refine g_iloadN A16 d2_40 rfl (pc' := 41) rfl ?_
  refine g_imulL A16 d2_41 (z := (0 : Int32)) (by decide) (pc' := 42) rfl ?_
  refine g_iconst A16 d2_42 (v := (1 : Int32)) rfl (pc' := 43) rfl ?_
  refine g_iaddL A16 d2_43 (z := (1 : Int32)) (by decide) (pc' := 44) rfl ?_
  refine g_daload A16 hZ e5 V12 (i := 1) (by decide) rfl (x := x1) hf1 d2_44 (pc' := 45) rfl ?_
  refine g_aloadN A16 d2_45 rfl rfl (pc' := 46) rfl ?_
  refine g_iconst A16 d2_46 (v := (3 : Int32)) rfl (pc' := 47) rfl ?_
  refine g_iload A16 d2_47 rfl (pc' := 49) rfl ?_
  refine g_iaddL A16 d2_49 (z := (3 : Int32)) (by decide) (pc' := 50) rfl ?_
  refine g_daload A16 hZ e5 V13 (i := 3) (by decide) rfl (x := y3) hg3 d2_50 (pc' := 51) rfl ?_
  refine g_dmul A16 d2_51 (own_ndmul (own_sf hx1) (own_sf hy3)) (pc' := 52) rfl ?_
  refine g_dadd A16 d2_52 (own_n1 hx0 hx1 hy0 hy3) (pc' := 53) rfl ?_
  refine g_aloadN A16 d2_53 rfl rfl (pc' := 54) rfl ?_
  refine g_iconst A16 d2_54 (v := (3 : Int32)) rfl (pc' := 55) rfl ?_
  refine g_iloadN A16 d2_55 rfl (pc' := 56) rfl ?_
  refine g_imulL A16 d2_56 (z := (0 : Int32)) (by decide) (pc' := 57) rfl ?_
  refine g_iconst A16 d2_57 (v := (2 : Int32)) rfl (pc' := 58) rfl ?_
  refine g_iaddL A16 d2_58 (z := (2 : Int32)) (by decide) (pc' := 59) rfl ?_
  refine g_daload A16 hZ e5 V12 (i := 2) (by decide) rfl (x := x2) hf2 d2_59 (pc' := 60) rfl ?_
  refine g_aloadN A16 d2_60 rfl rfl (pc' := 61) rfl ?_
  refine g_bipush A16 d2_61 (v := (6 : Int32)) rfl (pc' := 63) rfl ?_
  refine g_iload A16 d2_63 rfl (pc' := 65) rfl ?_
  refine g_iaddL A16 d2_65 (z := (6 : Int32)) (by decide) (pc' := 66) rfl ?_
  refine g_daload A16 hZ e5 V13 (i := 6) (by decide) rfl (x := y6) hg6 d2_66 (pc' := 67) rfl ?_
  refine g_dmul A16 d2_67 (own_ndmul (own_sf hx2) (own_sf hy6)) (pc' := 68) rfl ?_
  refine g_dadd A16 d2_68 (own_n2 hx0 hx1 hx2 hy0 hy3 hy6) (pc' := 69) rfl ?_
  obtain ⟨T17, h17, A17, e17, W17, st17⟩ := s_dastore A16 hZ e5 (ls := #[.val (.ref a1), .val (.ref a2), .val (.ref b6), .val (.int (0 : Int32)), .val (.int (0 : Int32))]) (st := []) (x := (FP.dadd (FP.dadd (FP.dmul x0 y0) (FP.dmul x1 y3)) (FP.dmul x2 y6))) V15 (i := 0) (by decide) (j := (0 : Int32)) rfl d2_69 (pc' := 70) rfl
  have N18 := Fr.snoc A17.1 N0 g9
  have K19 : Keep h0 h17 [] := K11.wr W17 (Or.inr gh10)
  have V20 : Dar Z h17 a1 .double 9 f := Dar.other W17 V12 ne7
  have V21 : Dar Z h17 a2 .double 9 g := Dar.other W17 V13 ne8
  have V22 : Dar Z h17 b6 .double 9 (fun j => if j = 0 then .double (FP.dadd (FP.dadd (FP.dmul x0 y0) (FP.dmul x1 y3)) (FP.dmul x2 y6)) else (fun _ => .double (0 : UInt64)) j) := Dar.set V15 W17 (fun _ _ => rfl)
  have Z23 : n0 ≤ h17.size := by rw [W17.size]; exact Z14
  refine st17 ?_
  refine g_iinc A17 d2_70 rfl (y := (1 : Int32)) (by decide) (ls' := #[.val (.ref a1), .val (.ref a2), .val (.ref b6), .val (.int (0 : Int32)), .val (.int (1 : Int32))]) rfl (pc' := 73) rfl ?_
  refine g_goto A17 d2_73 (pc' := 15) rfl ?_
  refine g_iload A17 d2_15 rfl (pc' := 17) rfl ?_
  refine g_iconst A17 d2_17 (v := (3 : Int32)) rfl (pc' := 18) rfl ?_
  refine g_icN A17 d2_18 (c2_ge_f (by decide)) (pc' := 21) rfl ?_
  refine g_aloadN A17 d2_21 rfl rfl (pc' := 22) rfl ?_
  refine g_iconst A17 d2_22 (v := (3 : Int32)) rfl (pc' := 23) rfl ?_
  refine g_iloadN A17 d2_23 rfl (pc' := 24) rfl ?_
  refine g_imulL A17 d2_24 (z := (0 : Int32)) (by decide) (pc' := 25) rfl ?_
  refine g_iload A17 d2_25 rfl (pc' := 27) rfl ?_
  refine g_iaddL A17 d2_27 (z := (1 : Int32)) (by decide) (pc' := 28) rfl ?_
  refine g_aloadN A17 d2_28 rfl rfl (pc' := 29) rfl ?_
  refine g_iconst A17 d2_29 (v := (3 : Int32)) rfl (pc' := 30) rfl ?_
  refine g_iloadN A17 d2_30 rfl (pc' := 31) rfl ?_
  refine g_imulL A17 d2_31 (z := (0 : Int32)) (by decide) (pc' := 32) rfl ?_
  refine g_daload A17 hZ e17 V20 (i := 0) (by decide) rfl (x := x0) hf0 d2_32 (pc' := 33) rfl ?_
  refine g_aloadN A17 d2_33 rfl rfl (pc' := 34) rfl ?_
  refine g_iload A17 d2_34 rfl (pc' := 36) rfl ?_
  refine g_daload A17 hZ e17 V21 (i := 1) (by decide) rfl (x := y1) hg1 d2_36 (pc' := 37) rfl ?_
  refine g_dmul A17 d2_37 (own_ndmul (own_sf hx0) (own_sf hy1)) (pc' := 38) rfl ?_
  refine g_aloadN A17 d2_38 rfl rfl (pc' := 39) rfl ?_
  refine g_iconst A17 d2_39 (v := (3 : Int32)) rfl (pc' := 40) rfl ?_
  refine g_iloadN A17 d2_40 rfl (pc' := 41) rfl ?_
  refine g_imulL A17 d2_41 (z := (0 : Int32)) (by decide) (pc' := 42) rfl ?_
  refine g_iconst A17 d2_42 (v := (1 : Int32)) rfl (pc' := 43) rfl ?_
  refine g_iaddL A17 d2_43 (z := (1 : Int32)) (by decide) (pc' := 44) rfl ?_
  refine g_daload A17 hZ e17 V20 (i := 1) (by decide) rfl (x := x1) hf1 d2_44 (pc' := 45) rfl ?_
  refine g_aloadN A17 d2_45 rfl rfl (pc' := 46) rfl ?_
  refine g_iconst A17 d2_46 (v := (3 : Int32)) rfl (pc' := 47) rfl ?_
  refine g_iload A17 d2_47 rfl (pc' := 49) rfl ?_
  refine g_iaddL A17 d2_49 (z := (4 : Int32)) (by decide) (pc' := 50) rfl ?_
  refine g_daload A17 hZ e17 V21 (i := 4) (by decide) rfl (x := y4) hg4 d2_50 (pc' := 51) rfl ?_
  refine g_dmul A17 d2_51 (own_ndmul (own_sf hx1) (own_sf hy4)) (pc' := 52) rfl ?_
  refine g_dadd A17 d2_52 (own_n1 hx0 hx1 hy1 hy4) (pc' := 53) rfl ?_
  refine g_aloadN A17 d2_53 rfl rfl (pc' := 54) rfl ?_
  refine g_iconst A17 d2_54 (v := (3 : Int32)) rfl (pc' := 55) rfl ?_
  refine g_iloadN A17 d2_55 rfl (pc' := 56) rfl ?_
  refine g_imulL A17 d2_56 (z := (0 : Int32)) (by decide) (pc' := 57) rfl ?_
  refine g_iconst A17 d2_57 (v := (2 : Int32)) rfl (pc' := 58) rfl ?_
  refine g_iaddL A17 d2_58 (z := (2 : Int32)) (by decide) (pc' := 59) rfl ?_
  refine g_daload A17 hZ e17 V20 (i := 2) (by decide) rfl (x := x2) hf2 d2_59 (pc' := 60) rfl ?_
  refine g_aloadN A17 d2_60 rfl rfl (pc' := 61) rfl ?_
  refine g_bipush A17 d2_61 (v := (6 : Int32)) rfl (pc' := 63) rfl ?_
  refine g_iload A17 d2_63 rfl (pc' := 65) rfl ?_
  refine g_iaddL A17 d2_65 (z := (7 : Int32)) (by decide) (pc' := 66) rfl ?_
  refine g_daload A17 hZ e17 V21 (i := 7) (by decide) rfl (x := y7) hg7 d2_66 (pc' := 67) rfl ?_
  refine g_dmul A17 d2_67 (own_ndmul (own_sf hx2) (own_sf hy7)) (pc' := 68) rfl ?_
  refine g_dadd A17 d2_68 (own_n2 hx0 hx1 hx2 hy1 hy4 hy7) (pc' := 69) rfl ?_
  obtain ⟨T24, h24, A24, e24, W24, st24⟩ := s_dastore A17 hZ e17 (ls := #[.val (.ref a1), .val (.ref a2), .val (.ref b6), .val (.int (0 : Int32)), .val (.int (1 : Int32))]) (st := []) (x := (FP.dadd (FP.dadd (FP.dmul x0 y1) (FP.dmul x1 y4)) (FP.dmul x2 y7))) V22 (i := 1) (by decide) (j := (1 : Int32)) rfl d2_69 (pc' := 70) rfl
  have N25 := Fr.snoc A24.1 N18 g9
  have K26 : Keep h0 h24 [] := K19.wr W24 (Or.inr gh10)
  have V27 : Dar Z h24 a1 .double 9 f := Dar.other W24 V20 ne7
  have V28 : Dar Z h24 a2 .double 9 g := Dar.other W24 V21 ne8
  have V29 : Dar Z h24 b6 .double 9 (fun j => if j = 1 then .double (FP.dadd (FP.dadd (FP.dmul x0 y1) (FP.dmul x1 y4)) (FP.dmul x2 y7)) else (fun j => if j = 0 then .double (FP.dadd (FP.dadd (FP.dmul x0 y0) (FP.dmul x1 y3)) (FP.dmul x2 y6)) else (fun _ => .double (0 : UInt64)) j) j) := Dar.set V22 W24 (fun _ _ => rfl)
  have Z30 : n0 ≤ h24.size := by rw [W24.size]; exact Z23
  refine st24 ?_
  refine g_iinc A24 d2_70 rfl (y := (2 : Int32)) (by decide) (ls' := #[.val (.ref a1), .val (.ref a2), .val (.ref b6), .val (.int (0 : Int32)), .val (.int (2 : Int32))]) rfl (pc' := 73) rfl ?_
  refine g_goto A24 d2_73 (pc' := 15) rfl ?_
  refine g_iload A24 d2_15 rfl (pc' := 17) rfl ?_
  refine g_iconst A24 d2_17 (v := (3 : Int32)) rfl (pc' := 18) rfl ?_
  refine g_icN A24 d2_18 (c2_ge_f (by decide)) (pc' := 21) rfl ?_
  refine g_aloadN A24 d2_21 rfl rfl (pc' := 22) rfl ?_
  refine g_iconst A24 d2_22 (v := (3 : Int32)) rfl (pc' := 23) rfl ?_
  refine g_iloadN A24 d2_23 rfl (pc' := 24) rfl ?_
  refine g_imulL A24 d2_24 (z := (0 : Int32)) (by decide) (pc' := 25) rfl ?_
  refine g_iload A24 d2_25 rfl (pc' := 27) rfl ?_
  refine g_iaddL A24 d2_27 (z := (2 : Int32)) (by decide) (pc' := 28) rfl ?_
  refine g_aloadN A24 d2_28 rfl rfl (pc' := 29) rfl ?_
  refine g_iconst A24 d2_29 (v := (3 : Int32)) rfl (pc' := 30) rfl ?_
  refine g_iloadN A24 d2_30 rfl (pc' := 31) rfl ?_
  refine g_imulL A24 d2_31 (z := (0 : Int32)) (by decide) (pc' := 32) rfl ?_
  refine g_daload A24 hZ e24 V27 (i := 0) (by decide) rfl (x := x0) hf0 d2_32 (pc' := 33) rfl ?_
  refine g_aloadN A24 d2_33 rfl rfl (pc' := 34) rfl ?_
  refine g_iload A24 d2_34 rfl (pc' := 36) rfl ?_
  refine g_daload A24 hZ e24 V28 (i := 2) (by decide) rfl (x := y2) hg2 d2_36 (pc' := 37) rfl ?_
  refine g_dmul A24 d2_37 (own_ndmul (own_sf hx0) (own_sf hy2)) (pc' := 38) rfl ?_
  refine g_aloadN A24 d2_38 rfl rfl (pc' := 39) rfl ?_
  refine g_iconst A24 d2_39 (v := (3 : Int32)) rfl (pc' := 40) rfl ?_
  refine g_iloadN A24 d2_40 rfl (pc' := 41) rfl ?_
  refine g_imulL A24 d2_41 (z := (0 : Int32)) (by decide) (pc' := 42) rfl ?_
  refine g_iconst A24 d2_42 (v := (1 : Int32)) rfl (pc' := 43) rfl ?_
  refine g_iaddL A24 d2_43 (z := (1 : Int32)) (by decide) (pc' := 44) rfl ?_
  refine g_daload A24 hZ e24 V27 (i := 1) (by decide) rfl (x := x1) hf1 d2_44 (pc' := 45) rfl ?_
  refine g_aloadN A24 d2_45 rfl rfl (pc' := 46) rfl ?_
  refine g_iconst A24 d2_46 (v := (3 : Int32)) rfl (pc' := 47) rfl ?_
  refine g_iload A24 d2_47 rfl (pc' := 49) rfl ?_
  refine g_iaddL A24 d2_49 (z := (5 : Int32)) (by decide) (pc' := 50) rfl ?_
  refine g_daload A24 hZ e24 V28 (i := 5) (by decide) rfl (x := y5) hg5 d2_50 (pc' := 51) rfl ?_
  refine g_dmul A24 d2_51 (own_ndmul (own_sf hx1) (own_sf hy5)) (pc' := 52) rfl ?_
  refine g_dadd A24 d2_52 (own_n1 hx0 hx1 hy2 hy5) (pc' := 53) rfl ?_
  refine g_aloadN A24 d2_53 rfl rfl (pc' := 54) rfl ?_
  refine g_iconst A24 d2_54 (v := (3 : Int32)) rfl (pc' := 55) rfl ?_
  refine g_iloadN A24 d2_55 rfl (pc' := 56) rfl ?_
  refine g_imulL A24 d2_56 (z := (0 : Int32)) (by decide) (pc' := 57) rfl ?_
  refine g_iconst A24 d2_57 (v := (2 : Int32)) rfl (pc' := 58) rfl ?_
  refine g_iaddL A24 d2_58 (z := (2 : Int32)) (by decide) (pc' := 59) rfl ?_
  refine g_daload A24 hZ e24 V27 (i := 2) (by decide) rfl (x := x2) hf2 d2_59 (pc' := 60) rfl ?_
  refine g_aloadN A24 d2_60 rfl rfl (pc' := 61) rfl ?_
  refine g_bipush A24 d2_61 (v := (6 : Int32)) rfl (pc' := 63) rfl ?_
  refine g_iload A24 d2_63 rfl (pc' := 65) rfl ?_
  refine g_iaddL A24 d2_65 (z := (8 : Int32)) (by decide) (pc' := 66) rfl ?_
  refine g_daload A24 hZ e24 V28 (i := 8) (by decide) rfl (x := y8) hg8 d2_66 (pc' := 67) rfl ?_
  refine g_dmul A24 d2_67 (own_ndmul (own_sf hx2) (own_sf hy8)) (pc' := 68) rfl ?_
  refine g_dadd A24 d2_68 (own_n2 hx0 hx1 hx2 hy2 hy5 hy8) (pc' := 69) rfl ?_
  obtain ⟨T31, h31, A31, e31, W31, st31⟩ := s_dastore A24 hZ e24 (ls := #[.val (.ref a1), .val (.ref a2), .val (.ref b6), .val (.int (0 : Int32)), .val (.int (2 : Int32))]) (st := []) (x := (FP.dadd (FP.dadd (FP.dmul x0 y2) (FP.dmul x1 y5)) (FP.dmul x2 y8))) V29 (i := 2) (by decide) (j := (2 : Int32)) rfl d2_69 (pc' := 70) rfl
  have N32 := Fr.snoc A31.1 N25 g9
  have K33 : Keep h0 h31 [] := K26.wr W31 (Or.inr gh10)
  have V34 : Dar Z h31 a1 .double 9 f := Dar.other W31 V27 ne7
  have V35 : Dar Z h31 a2 .double 9 g := Dar.other W31 V28 ne8
  have V36 : Dar Z h31 b6 .double 9 (fun j => if j = 2 then .double (FP.dadd (FP.dadd (FP.dmul x0 y2) (FP.dmul x1 y5)) (FP.dmul x2 y8)) else (fun j => if j = 1 then .double (FP.dadd (FP.dadd (FP.dmul x0 y1) (FP.dmul x1 y4)) (FP.dmul x2 y7)) else (fun j => if j = 0 then .double (FP.dadd (FP.dadd (FP.dmul x0 y0) (FP.dmul x1 y3)) (FP.dmul x2 y6)) else (fun _ => .double (0 : UInt64)) j) j) j) := Dar.set V29 W31 (fun _ _ => rfl)
  have Z37 : n0 ≤ h31.size := by rw [W31.size]; exact Z30
  refine st31 ?_
  refine g_iinc A31 d2_70 rfl (y := (3 : Int32)) (by decide) (ls' := #[.val (.ref a1), .val (.ref a2), .val (.ref b6), .val (.int (0 : Int32)), .val (.int (3 : Int32))]) rfl (pc' := 73) rfl ?_
  refine g_goto A31 d2_73 (pc' := 15) rfl ?_
  refine g_iload A31 d2_15 rfl (pc' := 17) rfl ?_
  refine g_iconst A31 d2_17 (v := (3 : Int32)) rfl (pc' := 18) rfl ?_
  refine g_icY A31 d2_18 (c2_ge_t (by decide)) (pc' := 76) rfl ?_
  refine g_iinc A31 d2_76 rfl (y := (1 : Int32)) (by decide) (ls' := #[.val (.ref a1), .val (.ref a2), .val (.ref b6), .val (.int (1 : Int32)), .val (.int (3 : Int32))]) rfl (pc' := 79) rfl ?_
  refine g_goto A31 d2_79 (pc' := 7) rfl ?_
  refine g_iloadN A31 d2_7 rfl (pc' := 8) rfl ?_
  refine g_iconst A31 d2_8 (v := (3 : Int32)) rfl (pc' := 9) rfl ?_
  refine g_icN A31 d2_9 (c2_ge_f (by decide)) (pc' := 12) rfl ?_
  refine g_iconst A31 d2_12 (v := (0 : Int32)) rfl (pc' := 13) rfl ?_
  refine g_istore A31 d2_13 (ls' := #[.val (.ref a1), .val (.ref a2), .val (.ref b6), .val (.int (1 : Int32)), .val (.int (0 : Int32))]) rfl (pc' := 15) rfl ?_
  refine g_iload A31 d2_15 rfl (pc' := 17) rfl ?_
  refine g_iconst A31 d2_17 (v := (3 : Int32)) rfl (pc' := 18) rfl ?_
  refine g_icN A31 d2_18 (c2_ge_f (by decide)) (pc' := 21) rfl ?_
  refine g_aloadN A31 d2_21 rfl rfl (pc' := 22) rfl ?_
  refine g_iconst A31 d2_22 (v := (3 : Int32)) rfl (pc' := 23) rfl ?_
  refine g_iloadN A31 d2_23 rfl (pc' := 24) rfl ?_
  refine g_imulL A31 d2_24 (z := (3 : Int32)) (by decide) (pc' := 25) rfl ?_
  refine g_iload A31 d2_25 rfl (pc' := 27) rfl ?_
  refine g_iaddL A31 d2_27 (z := (3 : Int32)) (by decide) (pc' := 28) rfl ?_
  refine g_aloadN A31 d2_28 rfl rfl (pc' := 29) rfl ?_
  refine g_iconst A31 d2_29 (v := (3 : Int32)) rfl (pc' := 30) rfl ?_
  refine g_iloadN A31 d2_30 rfl (pc' := 31) rfl ?_
  refine g_imulL A31 d2_31 (z := (3 : Int32)) (by decide) (pc' := 32) rfl ?_
  refine g_daload A31 hZ e31 V34 (i := 3) (by decide) rfl (x := x3) hf3 d2_32 (pc' := 33) rfl ?_
  refine g_aloadN A31 d2_33 rfl rfl (pc' := 34) rfl ?_
  refine g_iload A31 d2_34 rfl (pc' := 36) rfl ?_
  refine g_daload A31 hZ e31 V35 (i := 0) (by decide) rfl (x := y0) hg0 d2_36 (pc' := 37) rfl ?_
  refine g_dmul A31 d2_37 (own_ndmul (own_sf hx3) (own_sf hy0)) (pc' := 38) rfl ?_
  refine g_aloadN A31 d2_38 rfl rfl (pc' := 39) rfl ?_
  refine g_iconst A31 d2_39 (v := (3 : Int32)) rfl (pc' := 40) rfl ?_
  refine g_iloadN A31 d2_40 rfl (pc' := 41) rfl ?_
  refine g_imulL A31 d2_41 (z := (3 : Int32)) (by decide) (pc' := 42) rfl ?_
  refine g_iconst A31 d2_42 (v := (1 : Int32)) rfl (pc' := 43) rfl ?_
  refine g_iaddL A31 d2_43 (z := (4 : Int32)) (by decide) (pc' := 44) rfl ?_
  refine g_daload A31 hZ e31 V34 (i := 4) (by decide) rfl (x := x4) hf4 d2_44 (pc' := 45) rfl ?_
  refine g_aloadN A31 d2_45 rfl rfl (pc' := 46) rfl ?_
  refine g_iconst A31 d2_46 (v := (3 : Int32)) rfl (pc' := 47) rfl ?_
  refine g_iload A31 d2_47 rfl (pc' := 49) rfl ?_
  refine g_iaddL A31 d2_49 (z := (3 : Int32)) (by decide) (pc' := 50) rfl ?_
  refine g_daload A31 hZ e31 V35 (i := 3) (by decide) rfl (x := y3) hg3 d2_50 (pc' := 51) rfl ?_
  refine g_dmul A31 d2_51 (own_ndmul (own_sf hx4) (own_sf hy3)) (pc' := 52) rfl ?_
  refine g_dadd A31 d2_52 (own_n1 hx3 hx4 hy0 hy3) (pc' := 53) rfl ?_
  refine g_aloadN A31 d2_53 rfl rfl (pc' := 54) rfl ?_
  refine g_iconst A31 d2_54 (v := (3 : Int32)) rfl (pc' := 55) rfl ?_
  refine g_iloadN A31 d2_55 rfl (pc' := 56) rfl ?_
  refine g_imulL A31 d2_56 (z := (3 : Int32)) (by decide) (pc' := 57) rfl ?_
  refine g_iconst A31 d2_57 (v := (2 : Int32)) rfl (pc' := 58) rfl ?_
  refine g_iaddL A31 d2_58 (z := (5 : Int32)) (by decide) (pc' := 59) rfl ?_
  refine g_daload A31 hZ e31 V34 (i := 5) (by decide) rfl (x := x5) hf5 d2_59 (pc' := 60) rfl ?_
  refine g_aloadN A31 d2_60 rfl rfl (pc' := 61) rfl ?_
  refine g_bipush A31 d2_61 (v := (6 : Int32)) rfl (pc' := 63) rfl ?_
  refine g_iload A31 d2_63 rfl (pc' := 65) rfl ?_
  refine g_iaddL A31 d2_65 (z := (6 : Int32)) (by decide) (pc' := 66) rfl ?_
  refine g_daload A31 hZ e31 V35 (i := 6) (by decide) rfl (x := y6) hg6 d2_66 (pc' := 67) rfl ?_
  refine g_dmul A31 d2_67 (own_ndmul (own_sf hx5) (own_sf hy6)) (pc' := 68) rfl ?_
  refine g_dadd A31 d2_68 (own_n2 hx3 hx4 hx5 hy0 hy3 hy6) (pc' := 69) rfl ?_
  obtain ⟨T38, h38, A38, e38, W38, st38⟩ := s_dastore A31 hZ e31 (ls := #[.val (.ref a1), .val (.ref a2), .val (.ref b6), .val (.int (1 : Int32)), .val (.int (0 : Int32))]) (st := []) (x := (FP.dadd (FP.dadd (FP.dmul x3 y0) (FP.dmul x4 y3)) (FP.dmul x5 y6))) V36 (i := 3) (by decide) (j := (3 : Int32)) rfl d2_69 (pc' := 70) rfl
  have N39 := Fr.snoc A38.1 N32 g9
  have K40 : Keep h0 h38 [] := K33.wr W38 (Or.inr gh10)
  have V41 : Dar Z h38 a1 .double 9 f := Dar.other W38 V34 ne7
  have V42 : Dar Z h38 a2 .double 9 g := Dar.other W38 V35 ne8
  have V43 : Dar Z h38 b6 .double 9 (fun j => if j = 3 then .double (FP.dadd (FP.dadd (FP.dmul x3 y0) (FP.dmul x4 y3)) (FP.dmul x5 y6)) else (fun j => if j = 2 then .double (FP.dadd (FP.dadd (FP.dmul x0 y2) (FP.dmul x1 y5)) (FP.dmul x2 y8)) else (fun j => if j = 1 then .double (FP.dadd (FP.dadd (FP.dmul x0 y1) (FP.dmul x1 y4)) (FP.dmul x2 y7)) else (fun j => if j = 0 then .double (FP.dadd (FP.dadd (FP.dmul x0 y0) (FP.dmul x1 y3)) (FP.dmul x2 y6)) else (fun _ => .double (0 : UInt64)) j) j) j) j) := Dar.set V36 W38 (fun _ _ => rfl)
  have Z44 : n0 ≤ h38.size := by rw [W38.size]; exact Z37
  refine st38 ?_
  refine g_iinc A38 d2_70 rfl (y := (1 : Int32)) (by decide) (ls' := #[.val (.ref a1), .val (.ref a2), .val (.ref b6), .val (.int (1 : Int32)), .val (.int (1 : Int32))]) rfl (pc' := 73) rfl ?_
  refine g_goto A38 d2_73 (pc' := 15) rfl ?_
  refine g_iload A38 d2_15 rfl (pc' := 17) rfl ?_
  refine g_iconst A38 d2_17 (v := (3 : Int32)) rfl (pc' := 18) rfl ?_
  refine g_icN A38 d2_18 (c2_ge_f (by decide)) (pc' := 21) rfl ?_
  refine g_aloadN A38 d2_21 rfl rfl (pc' := 22) rfl ?_
  refine g_iconst A38 d2_22 (v := (3 : Int32)) rfl (pc' := 23) rfl ?_
  refine g_iloadN A38 d2_23 rfl (pc' := 24) rfl ?_
  refine g_imulL A38 d2_24 (z := (3 : Int32)) (by decide) (pc' := 25) rfl ?_
  refine g_iload A38 d2_25 rfl (pc' := 27) rfl ?_
  refine g_iaddL A38 d2_27 (z := (4 : Int32)) (by decide) (pc' := 28) rfl ?_
  refine g_aloadN A38 d2_28 rfl rfl (pc' := 29) rfl ?_
  refine g_iconst A38 d2_29 (v := (3 : Int32)) rfl (pc' := 30) rfl ?_
  refine g_iloadN A38 d2_30 rfl (pc' := 31) rfl ?_
  refine g_imulL A38 d2_31 (z := (3 : Int32)) (by decide) (pc' := 32) rfl ?_
  refine g_daload A38 hZ e38 V41 (i := 3) (by decide) rfl (x := x3) hf3 d2_32 (pc' := 33) rfl ?_
  refine g_aloadN A38 d2_33 rfl rfl (pc' := 34) rfl ?_
  refine g_iload A38 d2_34 rfl (pc' := 36) rfl ?_
  refine g_daload A38 hZ e38 V42 (i := 1) (by decide) rfl (x := y1) hg1 d2_36 (pc' := 37) rfl ?_
  refine g_dmul A38 d2_37 (own_ndmul (own_sf hx3) (own_sf hy1)) (pc' := 38) rfl ?_
  refine g_aloadN A38 d2_38 rfl rfl (pc' := 39) rfl ?_
  refine g_iconst A38 d2_39 (v := (3 : Int32)) rfl (pc' := 40) rfl ?_
  refine g_iloadN A38 d2_40 rfl (pc' := 41) rfl ?_
  refine g_imulL A38 d2_41 (z := (3 : Int32)) (by decide) (pc' := 42) rfl ?_
  refine g_iconst A38 d2_42 (v := (1 : Int32)) rfl (pc' := 43) rfl ?_
  refine g_iaddL A38 d2_43 (z := (4 : Int32)) (by decide) (pc' := 44) rfl ?_
  refine g_daload A38 hZ e38 V41 (i := 4) (by decide) rfl (x := x4) hf4 d2_44 (pc' := 45) rfl ?_
  refine g_aloadN A38 d2_45 rfl rfl (pc' := 46) rfl ?_
  refine g_iconst A38 d2_46 (v := (3 : Int32)) rfl (pc' := 47) rfl ?_
  refine g_iload A38 d2_47 rfl (pc' := 49) rfl ?_
  refine g_iaddL A38 d2_49 (z := (4 : Int32)) (by decide) (pc' := 50) rfl ?_
  refine g_daload A38 hZ e38 V42 (i := 4) (by decide) rfl (x := y4) hg4 d2_50 (pc' := 51) rfl ?_
  refine g_dmul A38 d2_51 (own_ndmul (own_sf hx4) (own_sf hy4)) (pc' := 52) rfl ?_
  refine g_dadd A38 d2_52 (own_n1 hx3 hx4 hy1 hy4) (pc' := 53) rfl ?_
  refine g_aloadN A38 d2_53 rfl rfl (pc' := 54) rfl ?_
  refine g_iconst A38 d2_54 (v := (3 : Int32)) rfl (pc' := 55) rfl ?_
  refine g_iloadN A38 d2_55 rfl (pc' := 56) rfl ?_
  refine g_imulL A38 d2_56 (z := (3 : Int32)) (by decide) (pc' := 57) rfl ?_
  refine g_iconst A38 d2_57 (v := (2 : Int32)) rfl (pc' := 58) rfl ?_
  refine g_iaddL A38 d2_58 (z := (5 : Int32)) (by decide) (pc' := 59) rfl ?_
  refine g_daload A38 hZ e38 V41 (i := 5) (by decide) rfl (x := x5) hf5 d2_59 (pc' := 60) rfl ?_
  refine g_aloadN A38 d2_60 rfl rfl (pc' := 61) rfl ?_
  refine g_bipush A38 d2_61 (v := (6 : Int32)) rfl (pc' := 63) rfl ?_
  refine g_iload A38 d2_63 rfl (pc' := 65) rfl ?_
  refine g_iaddL A38 d2_65 (z := (7 : Int32)) (by decide) (pc' := 66) rfl ?_
  refine g_daload A38 hZ e38 V42 (i := 7) (by decide) rfl (x := y7) hg7 d2_66 (pc' := 67) rfl ?_
  refine g_dmul A38 d2_67 (own_ndmul (own_sf hx5) (own_sf hy7)) (pc' := 68) rfl ?_
  refine g_dadd A38 d2_68 (own_n2 hx3 hx4 hx5 hy1 hy4 hy7) (pc' := 69) rfl ?_
  obtain ⟨T45, h45, A45, e45, W45, st45⟩ := s_dastore A38 hZ e38 (ls := #[.val (.ref a1), .val (.ref a2), .val (.ref b6), .val (.int (1 : Int32)), .val (.int (1 : Int32))]) (st := []) (x := (FP.dadd (FP.dadd (FP.dmul x3 y1) (FP.dmul x4 y4)) (FP.dmul x5 y7))) V43 (i := 4) (by decide) (j := (4 : Int32)) rfl d2_69 (pc' := 70) rfl
  have N46 := Fr.snoc A45.1 N39 g9
  have K47 : Keep h0 h45 [] := K40.wr W45 (Or.inr gh10)
  have V48 : Dar Z h45 a1 .double 9 f := Dar.other W45 V41 ne7
  have V49 : Dar Z h45 a2 .double 9 g := Dar.other W45 V42 ne8
  have V50 : Dar Z h45 b6 .double 9 (fun j => if j = 4 then .double (FP.dadd (FP.dadd (FP.dmul x3 y1) (FP.dmul x4 y4)) (FP.dmul x5 y7)) else (fun j => if j = 3 then .double (FP.dadd (FP.dadd (FP.dmul x3 y0) (FP.dmul x4 y3)) (FP.dmul x5 y6)) else (fun j => if j = 2 then .double (FP.dadd (FP.dadd (FP.dmul x0 y2) (FP.dmul x1 y5)) (FP.dmul x2 y8)) else (fun j => if j = 1 then .double (FP.dadd (FP.dadd (FP.dmul x0 y1) (FP.dmul x1 y4)) (FP.dmul x2 y7)) else (fun j => if j = 0 then .double (FP.dadd (FP.dadd (FP.dmul x0 y0) (FP.dmul x1 y3)) (FP.dmul x2 y6)) else (fun _ => .double (0 : UInt64)) j) j) j) j) j) := Dar.set V43 W45 (fun _ _ => rfl)
  have Z51 : n0 ≤ h45.size := by rw [W45.size]; exact Z44
  refine st45 ?_
  refine g_iinc A45 d2_70 rfl (y := (2 : Int32)) (by decide) (ls' := #[.val (.ref a1), .val (.ref a2), .val (.ref b6), .val (.int (1 : Int32)), .val (.int (2 : Int32))]) rfl (pc' := 73) rfl ?_
  refine g_goto A45 d2_73 (pc' := 15) rfl ?_
  refine g_iload A45 d2_15 rfl (pc' := 17) rfl ?_
  refine g_iconst A45 d2_17 (v := (3 : Int32)) rfl (pc' := 18) rfl ?_
  refine g_icN A45 d2_18 (c2_ge_f (by decide)) (pc' := 21) rfl ?_
  refine g_aloadN A45 d2_21 rfl rfl (pc' := 22) rfl ?_
  refine g_iconst A45 d2_22 (v := (3 : Int32)) rfl (pc' := 23) rfl ?_
  refine g_iloadN A45 d2_23 rfl (pc' := 24) rfl ?_
  refine g_imulL A45 d2_24 (z := (3 : Int32)) (by decide) (pc' := 25) rfl ?_
  refine g_iload A45 d2_25 rfl (pc' := 27) rfl ?_
  refine g_iaddL A45 d2_27 (z := (5 : Int32)) (by decide) (pc' := 28) rfl ?_
  refine g_aloadN A45 d2_28 rfl rfl (pc' := 29) rfl ?_
  refine g_iconst A45 d2_29 (v := (3 : Int32)) rfl (pc' := 30) rfl ?_
  refine g_iloadN A45 d2_30 rfl (pc' := 31) rfl ?_
  refine g_imulL A45 d2_31 (z := (3 : Int32)) (by decide) (pc' := 32) rfl ?_
  refine g_daload A45 hZ e45 V48 (i := 3) (by decide) rfl (x := x3) hf3 d2_32 (pc' := 33) rfl ?_
  refine g_aloadN A45 d2_33 rfl rfl (pc' := 34) rfl ?_
  refine g_iload A45 d2_34 rfl (pc' := 36) rfl ?_
  refine g_daload A45 hZ e45 V49 (i := 2) (by decide) rfl (x := y2) hg2 d2_36 (pc' := 37) rfl ?_
  refine g_dmul A45 d2_37 (own_ndmul (own_sf hx3) (own_sf hy2)) (pc' := 38) rfl ?_
  refine g_aloadN A45 d2_38 rfl rfl (pc' := 39) rfl ?_
  refine g_iconst A45 d2_39 (v := (3 : Int32)) rfl (pc' := 40) rfl ?_
  refine g_iloadN A45 d2_40 rfl (pc' := 41) rfl ?_
  refine g_imulL A45 d2_41 (z := (3 : Int32)) (by decide) (pc' := 42) rfl ?_
  refine g_iconst A45 d2_42 (v := (1 : Int32)) rfl (pc' := 43) rfl ?_
  refine g_iaddL A45 d2_43 (z := (4 : Int32)) (by decide) (pc' := 44) rfl ?_
  refine g_daload A45 hZ e45 V48 (i := 4) (by decide) rfl (x := x4) hf4 d2_44 (pc' := 45) rfl ?_
  refine g_aloadN A45 d2_45 rfl rfl (pc' := 46) rfl ?_
  refine g_iconst A45 d2_46 (v := (3 : Int32)) rfl (pc' := 47) rfl ?_
  refine g_iload A45 d2_47 rfl (pc' := 49) rfl ?_
  refine g_iaddL A45 d2_49 (z := (5 : Int32)) (by decide) (pc' := 50) rfl ?_
  refine g_daload A45 hZ e45 V49 (i := 5) (by decide) rfl (x := y5) hg5 d2_50 (pc' := 51) rfl ?_
  refine g_dmul A45 d2_51 (own_ndmul (own_sf hx4) (own_sf hy5)) (pc' := 52) rfl ?_
  refine g_dadd A45 d2_52 (own_n1 hx3 hx4 hy2 hy5) (pc' := 53) rfl ?_
  refine g_aloadN A45 d2_53 rfl rfl (pc' := 54) rfl ?_
  refine g_iconst A45 d2_54 (v := (3 : Int32)) rfl (pc' := 55) rfl ?_
  refine g_iloadN A45 d2_55 rfl (pc' := 56) rfl ?_
  refine g_imulL A45 d2_56 (z := (3 : Int32)) (by decide) (pc' := 57) rfl ?_
  refine g_iconst A45 d2_57 (v := (2 : Int32)) rfl (pc' := 58) rfl ?_
  refine g_iaddL A45 d2_58 (z := (5 : Int32)) (by decide) (pc' := 59) rfl ?_
  refine g_daload A45 hZ e45 V48 (i := 5) (by decide) rfl (x := x5) hf5 d2_59 (pc' := 60) rfl ?_
  refine g_aloadN A45 d2_60 rfl rfl (pc' := 61) rfl ?_
  refine g_bipush A45 d2_61 (v := (6 : Int32)) rfl (pc' := 63) rfl ?_
  refine g_iload A45 d2_63 rfl (pc' := 65) rfl ?_
  refine g_iaddL A45 d2_65 (z := (8 : Int32)) (by decide) (pc' := 66) rfl ?_
  refine g_daload A45 hZ e45 V49 (i := 8) (by decide) rfl (x := y8) hg8 d2_66 (pc' := 67) rfl ?_
  refine g_dmul A45 d2_67 (own_ndmul (own_sf hx5) (own_sf hy8)) (pc' := 68) rfl ?_
  refine g_dadd A45 d2_68 (own_n2 hx3 hx4 hx5 hy2 hy5 hy8) (pc' := 69) rfl ?_
  obtain ⟨T52, h52, A52, e52, W52, st52⟩ := s_dastore A45 hZ e45 (ls := #[.val (.ref a1), .val (.ref a2), .val (.ref b6), .val (.int (1 : Int32)), .val (.int (2 : Int32))]) (st := []) (x := (FP.dadd (FP.dadd (FP.dmul x3 y2) (FP.dmul x4 y5)) (FP.dmul x5 y8))) V50 (i := 5) (by decide) (j := (5 : Int32)) rfl d2_69 (pc' := 70) rfl
  have N53 := Fr.snoc A52.1 N46 g9
  have K54 : Keep h0 h52 [] := K47.wr W52 (Or.inr gh10)
  have V55 : Dar Z h52 a1 .double 9 f := Dar.other W52 V48 ne7
  have V56 : Dar Z h52 a2 .double 9 g := Dar.other W52 V49 ne8
  have V57 : Dar Z h52 b6 .double 9 (fun j => if j = 5 then .double (FP.dadd (FP.dadd (FP.dmul x3 y2) (FP.dmul x4 y5)) (FP.dmul x5 y8)) else (fun j => if j = 4 then .double (FP.dadd (FP.dadd (FP.dmul x3 y1) (FP.dmul x4 y4)) (FP.dmul x5 y7)) else (fun j => if j = 3 then .double (FP.dadd (FP.dadd (FP.dmul x3 y0) (FP.dmul x4 y3)) (FP.dmul x5 y6)) else (fun j => if j = 2 then .double (FP.dadd (FP.dadd (FP.dmul x0 y2) (FP.dmul x1 y5)) (FP.dmul x2 y8)) else (fun j => if j = 1 then .double (FP.dadd (FP.dadd (FP.dmul x0 y1) (FP.dmul x1 y4)) (FP.dmul x2 y7)) else (fun j => if j = 0 then .double (FP.dadd (FP.dadd (FP.dmul x0 y0) (FP.dmul x1 y3)) (FP.dmul x2 y6)) else (fun _ => .double (0 : UInt64)) j) j) j) j) j) j) := Dar.set V50 W52 (fun _ _ => rfl)
  have Z58 : n0 ≤ h52.size := by rw [W52.size]; exact Z51
  refine st52 ?_
  refine g_iinc A52 d2_70 rfl (y := (3 : Int32)) (by decide) (ls' := #[.val (.ref a1), .val (.ref a2), .val (.ref b6), .val (.int (1 : Int32)), .val (.int (3 : Int32))]) rfl (pc' := 73) rfl ?_
  refine g_goto A52 d2_73 (pc' := 15) rfl ?_
  refine g_iload A52 d2_15 rfl (pc' := 17) rfl ?_
  refine g_iconst A52 d2_17 (v := (3 : Int32)) rfl (pc' := 18) rfl ?_
  refine g_icY A52 d2_18 (c2_ge_t (by decide)) (pc' := 76) rfl ?_
  refine g_iinc A52 d2_76 rfl (y := (2 : Int32)) (by decide) (ls' := #[.val (.ref a1), .val (.ref a2), .val (.ref b6), .val (.int (2 : Int32)), .val (.int (3 : Int32))]) rfl (pc' := 79) rfl ?_
  refine g_goto A52 d2_79 (pc' := 7) rfl ?_
  refine g_iloadN A52 d2_7 rfl (pc' := 8) rfl ?_
  refine g_iconst A52 d2_8 (v := (3 : Int32)) rfl (pc' := 9) rfl ?_
  refine g_icN A52 d2_9 (c2_ge_f (by decide)) (pc' := 12) rfl ?_
  refine g_iconst A52 d2_12 (v := (0 : Int32)) rfl (pc' := 13) rfl ?_
  refine g_istore A52 d2_13 (ls' := #[.val (.ref a1), .val (.ref a2), .val (.ref b6), .val (.int (2 : Int32)), .val (.int (0 : Int32))]) rfl (pc' := 15) rfl ?_
  refine g_iload A52 d2_15 rfl (pc' := 17) rfl ?_
  refine g_iconst A52 d2_17 (v := (3 : Int32)) rfl (pc' := 18) rfl ?_
  refine g_icN A52 d2_18 (c2_ge_f (by decide)) (pc' := 21) rfl ?_
  refine g_aloadN A52 d2_21 rfl rfl (pc' := 22) rfl ?_
  refine g_iconst A52 d2_22 (v := (3 : Int32)) rfl (pc' := 23) rfl ?_
  refine g_iloadN A52 d2_23 rfl (pc' := 24) rfl ?_
  refine g_imulL A52 d2_24 (z := (6 : Int32)) (by decide) (pc' := 25) rfl ?_
  refine g_iload A52 d2_25 rfl (pc' := 27) rfl ?_
  refine g_iaddL A52 d2_27 (z := (6 : Int32)) (by decide) (pc' := 28) rfl ?_
  refine g_aloadN A52 d2_28 rfl rfl (pc' := 29) rfl ?_
  refine g_iconst A52 d2_29 (v := (3 : Int32)) rfl (pc' := 30) rfl ?_
  refine g_iloadN A52 d2_30 rfl (pc' := 31) rfl ?_
  refine g_imulL A52 d2_31 (z := (6 : Int32)) (by decide) (pc' := 32) rfl ?_
  refine g_daload A52 hZ e52 V55 (i := 6) (by decide) rfl (x := x6) hf6 d2_32 (pc' := 33) rfl ?_
  refine g_aloadN A52 d2_33 rfl rfl (pc' := 34) rfl ?_
  refine g_iload A52 d2_34 rfl (pc' := 36) rfl ?_
  refine g_daload A52 hZ e52 V56 (i := 0) (by decide) rfl (x := y0) hg0 d2_36 (pc' := 37) rfl ?_
  refine g_dmul A52 d2_37 (own_ndmul (own_sf hx6) (own_sf hy0)) (pc' := 38) rfl ?_
  refine g_aloadN A52 d2_38 rfl rfl (pc' := 39) rfl ?_
  refine g_iconst A52 d2_39 (v := (3 : Int32)) rfl (pc' := 40) rfl ?_
  refine g_iloadN A52 d2_40 rfl (pc' := 41) rfl ?_
  refine g_imulL A52 d2_41 (z := (6 : Int32)) (by decide) (pc' := 42) rfl ?_
  refine g_iconst A52 d2_42 (v := (1 : Int32)) rfl (pc' := 43) rfl ?_
  refine g_iaddL A52 d2_43 (z := (7 : Int32)) (by decide) (pc' := 44) rfl ?_
  refine g_daload A52 hZ e52 V55 (i := 7) (by decide) rfl (x := x7) hf7 d2_44 (pc' := 45) rfl ?_
  refine g_aloadN A52 d2_45 rfl rfl (pc' := 46) rfl ?_
  refine g_iconst A52 d2_46 (v := (3 : Int32)) rfl (pc' := 47) rfl ?_
  refine g_iload A52 d2_47 rfl (pc' := 49) rfl ?_
  refine g_iaddL A52 d2_49 (z := (3 : Int32)) (by decide) (pc' := 50) rfl ?_
  refine g_daload A52 hZ e52 V56 (i := 3) (by decide) rfl (x := y3) hg3 d2_50 (pc' := 51) rfl ?_
  refine g_dmul A52 d2_51 (own_ndmul (own_sf hx7) (own_sf hy3)) (pc' := 52) rfl ?_
  refine g_dadd A52 d2_52 (own_n1 hx6 hx7 hy0 hy3) (pc' := 53) rfl ?_
  refine g_aloadN A52 d2_53 rfl rfl (pc' := 54) rfl ?_
  refine g_iconst A52 d2_54 (v := (3 : Int32)) rfl (pc' := 55) rfl ?_
  refine g_iloadN A52 d2_55 rfl (pc' := 56) rfl ?_
  refine g_imulL A52 d2_56 (z := (6 : Int32)) (by decide) (pc' := 57) rfl ?_
  refine g_iconst A52 d2_57 (v := (2 : Int32)) rfl (pc' := 58) rfl ?_
  refine g_iaddL A52 d2_58 (z := (8 : Int32)) (by decide) (pc' := 59) rfl ?_
  refine g_daload A52 hZ e52 V55 (i := 8) (by decide) rfl (x := x8) hf8 d2_59 (pc' := 60) rfl ?_
  refine g_aloadN A52 d2_60 rfl rfl (pc' := 61) rfl ?_
  refine g_bipush A52 d2_61 (v := (6 : Int32)) rfl (pc' := 63) rfl ?_
  refine g_iload A52 d2_63 rfl (pc' := 65) rfl ?_
  refine g_iaddL A52 d2_65 (z := (6 : Int32)) (by decide) (pc' := 66) rfl ?_
  refine g_daload A52 hZ e52 V56 (i := 6) (by decide) rfl (x := y6) hg6 d2_66 (pc' := 67) rfl ?_
  refine g_dmul A52 d2_67 (own_ndmul (own_sf hx8) (own_sf hy6)) (pc' := 68) rfl ?_
  refine g_dadd A52 d2_68 (own_n2 hx6 hx7 hx8 hy0 hy3 hy6) (pc' := 69) rfl ?_
  obtain ⟨T59, h59, A59, e59, W59, st59⟩ := s_dastore A52 hZ e52 (ls := #[.val (.ref a1), .val (.ref a2), .val (.ref b6), .val (.int (2 : Int32)), .val (.int (0 : Int32))]) (st := []) (x := (FP.dadd (FP.dadd (FP.dmul x6 y0) (FP.dmul x7 y3)) (FP.dmul x8 y6))) V57 (i := 6) (by decide) (j := (6 : Int32)) rfl d2_69 (pc' := 70) rfl
  have N60 := Fr.snoc A59.1 N53 g9
  have K61 : Keep h0 h59 [] := K54.wr W59 (Or.inr gh10)
  have V62 : Dar Z h59 a1 .double 9 f := Dar.other W59 V55 ne7
  have V63 : Dar Z h59 a2 .double 9 g := Dar.other W59 V56 ne8
  have V64 : Dar Z h59 b6 .double 9 (fun j => if j = 6 then .double (FP.dadd (FP.dadd (FP.dmul x6 y0) (FP.dmul x7 y3)) (FP.dmul x8 y6)) else (fun j => if j = 5 then .double (FP.dadd (FP.dadd (FP.dmul x3 y2) (FP.dmul x4 y5)) (FP.dmul x5 y8)) else (fun j => if j = 4 then .double (FP.dadd (FP.dadd (FP.dmul x3 y1) (FP.dmul x4 y4)) (FP.dmul x5 y7)) else (fun j => if j = 3 then .double (FP.dadd (FP.dadd (FP.dmul x3 y0) (FP.dmul x4 y3)) (FP.dmul x5 y6)) else (fun j => if j = 2 then .double (FP.dadd (FP.dadd (FP.dmul x0 y2) (FP.dmul x1 y5)) (FP.dmul x2 y8)) else (fun j => if j = 1 then .double (FP.dadd (FP.dadd (FP.dmul x0 y1) (FP.dmul x1 y4)) (FP.dmul x2 y7)) else (fun j => if j = 0 then .double (FP.dadd (FP.dadd (FP.dmul x0 y0) (FP.dmul x1 y3)) (FP.dmul x2 y6)) else (fun _ => .double (0 : UInt64)) j) j) j) j) j) j) j) := Dar.set V57 W59 (fun _ _ => rfl)
  have Z65 : n0 ≤ h59.size := by rw [W59.size]; exact Z58
  refine st59 ?_
  refine g_iinc A59 d2_70 rfl (y := (1 : Int32)) (by decide) (ls' := #[.val (.ref a1), .val (.ref a2), .val (.ref b6), .val (.int (2 : Int32)), .val (.int (1 : Int32))]) rfl (pc' := 73) rfl ?_
  refine g_goto A59 d2_73 (pc' := 15) rfl ?_
  refine g_iload A59 d2_15 rfl (pc' := 17) rfl ?_
  refine g_iconst A59 d2_17 (v := (3 : Int32)) rfl (pc' := 18) rfl ?_
  refine g_icN A59 d2_18 (c2_ge_f (by decide)) (pc' := 21) rfl ?_
  refine g_aloadN A59 d2_21 rfl rfl (pc' := 22) rfl ?_
  refine g_iconst A59 d2_22 (v := (3 : Int32)) rfl (pc' := 23) rfl ?_
  refine g_iloadN A59 d2_23 rfl (pc' := 24) rfl ?_
  refine g_imulL A59 d2_24 (z := (6 : Int32)) (by decide) (pc' := 25) rfl ?_
  refine g_iload A59 d2_25 rfl (pc' := 27) rfl ?_
  refine g_iaddL A59 d2_27 (z := (7 : Int32)) (by decide) (pc' := 28) rfl ?_
  refine g_aloadN A59 d2_28 rfl rfl (pc' := 29) rfl ?_
  refine g_iconst A59 d2_29 (v := (3 : Int32)) rfl (pc' := 30) rfl ?_
  refine g_iloadN A59 d2_30 rfl (pc' := 31) rfl ?_
  refine g_imulL A59 d2_31 (z := (6 : Int32)) (by decide) (pc' := 32) rfl ?_
  refine g_daload A59 hZ e59 V62 (i := 6) (by decide) rfl (x := x6) hf6 d2_32 (pc' := 33) rfl ?_
  refine g_aloadN A59 d2_33 rfl rfl (pc' := 34) rfl ?_
  refine g_iload A59 d2_34 rfl (pc' := 36) rfl ?_
  refine g_daload A59 hZ e59 V63 (i := 1) (by decide) rfl (x := y1) hg1 d2_36 (pc' := 37) rfl ?_
  refine g_dmul A59 d2_37 (own_ndmul (own_sf hx6) (own_sf hy1)) (pc' := 38) rfl ?_
  refine g_aloadN A59 d2_38 rfl rfl (pc' := 39) rfl ?_
  refine g_iconst A59 d2_39 (v := (3 : Int32)) rfl (pc' := 40) rfl ?_
  refine g_iloadN A59 d2_40 rfl (pc' := 41) rfl ?_
  refine g_imulL A59 d2_41 (z := (6 : Int32)) (by decide) (pc' := 42) rfl ?_
  refine g_iconst A59 d2_42 (v := (1 : Int32)) rfl (pc' := 43) rfl ?_
  refine g_iaddL A59 d2_43 (z := (7 : Int32)) (by decide) (pc' := 44) rfl ?_
  refine g_daload A59 hZ e59 V62 (i := 7) (by decide) rfl (x := x7) hf7 d2_44 (pc' := 45) rfl ?_
  refine g_aloadN A59 d2_45 rfl rfl (pc' := 46) rfl ?_
  refine g_iconst A59 d2_46 (v := (3 : Int32)) rfl (pc' := 47) rfl ?_
  refine g_iload A59 d2_47 rfl (pc' := 49) rfl ?_
  refine g_iaddL A59 d2_49 (z := (4 : Int32)) (by decide) (pc' := 50) rfl ?_
  refine g_daload A59 hZ e59 V63 (i := 4) (by decide) rfl (x := y4) hg4 d2_50 (pc' := 51) rfl ?_
  refine g_dmul A59 d2_51 (own_ndmul (own_sf hx7) (own_sf hy4)) (pc' := 52) rfl ?_
  refine g_dadd A59 d2_52 (own_n1 hx6 hx7 hy1 hy4) (pc' := 53) rfl ?_
  refine g_aloadN A59 d2_53 rfl rfl (pc' := 54) rfl ?_
  refine g_iconst A59 d2_54 (v := (3 : Int32)) rfl (pc' := 55) rfl ?_
  refine g_iloadN A59 d2_55 rfl (pc' := 56) rfl ?_
  refine g_imulL A59 d2_56 (z := (6 : Int32)) (by decide) (pc' := 57) rfl ?_
  refine g_iconst A59 d2_57 (v := (2 : Int32)) rfl (pc' := 58) rfl ?_
  refine g_iaddL A59 d2_58 (z := (8 : Int32)) (by decide) (pc' := 59) rfl ?_
  refine g_daload A59 hZ e59 V62 (i := 8) (by decide) rfl (x := x8) hf8 d2_59 (pc' := 60) rfl ?_
  refine g_aloadN A59 d2_60 rfl rfl (pc' := 61) rfl ?_
  refine g_bipush A59 d2_61 (v := (6 : Int32)) rfl (pc' := 63) rfl ?_
  refine g_iload A59 d2_63 rfl (pc' := 65) rfl ?_
  refine g_iaddL A59 d2_65 (z := (7 : Int32)) (by decide) (pc' := 66) rfl ?_
  refine g_daload A59 hZ e59 V63 (i := 7) (by decide) rfl (x := y7) hg7 d2_66 (pc' := 67) rfl ?_
  refine g_dmul A59 d2_67 (own_ndmul (own_sf hx8) (own_sf hy7)) (pc' := 68) rfl ?_
  refine g_dadd A59 d2_68 (own_n2 hx6 hx7 hx8 hy1 hy4 hy7) (pc' := 69) rfl ?_
  obtain ⟨T66, h66, A66, e66, W66, st66⟩ := s_dastore A59 hZ e59 (ls := #[.val (.ref a1), .val (.ref a2), .val (.ref b6), .val (.int (2 : Int32)), .val (.int (1 : Int32))]) (st := []) (x := (FP.dadd (FP.dadd (FP.dmul x6 y1) (FP.dmul x7 y4)) (FP.dmul x8 y7))) V64 (i := 7) (by decide) (j := (7 : Int32)) rfl d2_69 (pc' := 70) rfl
  have N67 := Fr.snoc A66.1 N60 g9
  have K68 : Keep h0 h66 [] := K61.wr W66 (Or.inr gh10)
  have V69 : Dar Z h66 a1 .double 9 f := Dar.other W66 V62 ne7
  have V70 : Dar Z h66 a2 .double 9 g := Dar.other W66 V63 ne8
  have V71 : Dar Z h66 b6 .double 9 (fun j => if j = 7 then .double (FP.dadd (FP.dadd (FP.dmul x6 y1) (FP.dmul x7 y4)) (FP.dmul x8 y7)) else (fun j => if j = 6 then .double (FP.dadd (FP.dadd (FP.dmul x6 y0) (FP.dmul x7 y3)) (FP.dmul x8 y6)) else (fun j => if j = 5 then .double (FP.dadd (FP.dadd (FP.dmul x3 y2) (FP.dmul x4 y5)) (FP.dmul x5 y8)) else (fun j => if j = 4 then .double (FP.dadd (FP.dadd (FP.dmul x3 y1) (FP.dmul x4 y4)) (FP.dmul x5 y7)) else (fun j => if j = 3 then .double (FP.dadd (FP.dadd (FP.dmul x3 y0) (FP.dmul x4 y3)) (FP.dmul x5 y6)) else (fun j => if j = 2 then .double (FP.dadd (FP.dadd (FP.dmul x0 y2) (FP.dmul x1 y5)) (FP.dmul x2 y8)) else (fun j => if j = 1 then .double (FP.dadd (FP.dadd (FP.dmul x0 y1) (FP.dmul x1 y4)) (FP.dmul x2 y7)) else (fun j => if j = 0 then .double (FP.dadd (FP.dadd (FP.dmul x0 y0) (FP.dmul x1 y3)) (FP.dmul x2 y6)) else (fun _ => .double (0 : UInt64)) j) j) j) j) j) j) j) j) := Dar.set V64 W66 (fun _ _ => rfl)
  have Z72 : n0 ≤ h66.size := by rw [W66.size]; exact Z65
  refine st66 ?_
  refine g_iinc A66 d2_70 rfl (y := (2 : Int32)) (by decide) (ls' := #[.val (.ref a1), .val (.ref a2), .val (.ref b6), .val (.int (2 : Int32)), .val (.int (2 : Int32))]) rfl (pc' := 73) rfl ?_
  refine g_goto A66 d2_73 (pc' := 15) rfl ?_
  refine g_iload A66 d2_15 rfl (pc' := 17) rfl ?_
  refine g_iconst A66 d2_17 (v := (3 : Int32)) rfl (pc' := 18) rfl ?_
  refine g_icN A66 d2_18 (c2_ge_f (by decide)) (pc' := 21) rfl ?_
  refine g_aloadN A66 d2_21 rfl rfl (pc' := 22) rfl ?_
  refine g_iconst A66 d2_22 (v := (3 : Int32)) rfl (pc' := 23) rfl ?_
  refine g_iloadN A66 d2_23 rfl (pc' := 24) rfl ?_
  refine g_imulL A66 d2_24 (z := (6 : Int32)) (by decide) (pc' := 25) rfl ?_
  refine g_iload A66 d2_25 rfl (pc' := 27) rfl ?_
  refine g_iaddL A66 d2_27 (z := (8 : Int32)) (by decide) (pc' := 28) rfl ?_
  refine g_aloadN A66 d2_28 rfl rfl (pc' := 29) rfl ?_
  refine g_iconst A66 d2_29 (v := (3 : Int32)) rfl (pc' := 30) rfl ?_
  refine g_iloadN A66 d2_30 rfl (pc' := 31) rfl ?_
  refine g_imulL A66 d2_31 (z := (6 : Int32)) (by decide) (pc' := 32) rfl ?_
  refine g_daload A66 hZ e66 V69 (i := 6) (by decide) rfl (x := x6) hf6 d2_32 (pc' := 33) rfl ?_
  refine g_aloadN A66 d2_33 rfl rfl (pc' := 34) rfl ?_
  refine g_iload A66 d2_34 rfl (pc' := 36) rfl ?_
  refine g_daload A66 hZ e66 V70 (i := 2) (by decide) rfl (x := y2) hg2 d2_36 (pc' := 37) rfl ?_
  refine g_dmul A66 d2_37 (own_ndmul (own_sf hx6) (own_sf hy2)) (pc' := 38) rfl ?_
  refine g_aloadN A66 d2_38 rfl rfl (pc' := 39) rfl ?_
  refine g_iconst A66 d2_39 (v := (3 : Int32)) rfl (pc' := 40) rfl ?_
  refine g_iloadN A66 d2_40 rfl (pc' := 41) rfl ?_
  refine g_imulL A66 d2_41 (z := (6 : Int32)) (by decide) (pc' := 42) rfl ?_
  refine g_iconst A66 d2_42 (v := (1 : Int32)) rfl (pc' := 43) rfl ?_
  refine g_iaddL A66 d2_43 (z := (7 : Int32)) (by decide) (pc' := 44) rfl ?_
  refine g_daload A66 hZ e66 V69 (i := 7) (by decide) rfl (x := x7) hf7 d2_44 (pc' := 45) rfl ?_
  refine g_aloadN A66 d2_45 rfl rfl (pc' := 46) rfl ?_
  refine g_iconst A66 d2_46 (v := (3 : Int32)) rfl (pc' := 47) rfl ?_
  refine g_iload A66 d2_47 rfl (pc' := 49) rfl ?_
  refine g_iaddL A66 d2_49 (z := (5 : Int32)) (by decide) (pc' := 50) rfl ?_
  refine g_daload A66 hZ e66 V70 (i := 5) (by decide) rfl (x := y5) hg5 d2_50 (pc' := 51) rfl ?_
  refine g_dmul A66 d2_51 (own_ndmul (own_sf hx7) (own_sf hy5)) (pc' := 52) rfl ?_
  refine g_dadd A66 d2_52 (own_n1 hx6 hx7 hy2 hy5) (pc' := 53) rfl ?_
  refine g_aloadN A66 d2_53 rfl rfl (pc' := 54) rfl ?_
  refine g_iconst A66 d2_54 (v := (3 : Int32)) rfl (pc' := 55) rfl ?_
  refine g_iloadN A66 d2_55 rfl (pc' := 56) rfl ?_
  refine g_imulL A66 d2_56 (z := (6 : Int32)) (by decide) (pc' := 57) rfl ?_
  refine g_iconst A66 d2_57 (v := (2 : Int32)) rfl (pc' := 58) rfl ?_
  refine g_iaddL A66 d2_58 (z := (8 : Int32)) (by decide) (pc' := 59) rfl ?_
  refine g_daload A66 hZ e66 V69 (i := 8) (by decide) rfl (x := x8) hf8 d2_59 (pc' := 60) rfl ?_
  refine g_aloadN A66 d2_60 rfl rfl (pc' := 61) rfl ?_
  refine g_bipush A66 d2_61 (v := (6 : Int32)) rfl (pc' := 63) rfl ?_
  refine g_iload A66 d2_63 rfl (pc' := 65) rfl ?_
  refine g_iaddL A66 d2_65 (z := (8 : Int32)) (by decide) (pc' := 66) rfl ?_
  refine g_daload A66 hZ e66 V70 (i := 8) (by decide) rfl (x := y8) hg8 d2_66 (pc' := 67) rfl ?_
  refine g_dmul A66 d2_67 (own_ndmul (own_sf hx8) (own_sf hy8)) (pc' := 68) rfl ?_
  refine g_dadd A66 d2_68 (own_n2 hx6 hx7 hx8 hy2 hy5 hy8) (pc' := 69) rfl ?_
  obtain ⟨T73, h73, A73, e73, W73, st73⟩ := s_dastore A66 hZ e66 (ls := #[.val (.ref a1), .val (.ref a2), .val (.ref b6), .val (.int (2 : Int32)), .val (.int (2 : Int32))]) (st := []) (x := (FP.dadd (FP.dadd (FP.dmul x6 y2) (FP.dmul x7 y5)) (FP.dmul x8 y8))) V71 (i := 8) (by decide) (j := (8 : Int32)) rfl d2_69 (pc' := 70) rfl
  have N74 := Fr.snoc A73.1 N67 g9
  have K75 : Keep h0 h73 [] := K68.wr W73 (Or.inr gh10)
  have V76 : Dar Z h73 a1 .double 9 f := Dar.other W73 V69 ne7
  have V77 : Dar Z h73 a2 .double 9 g := Dar.other W73 V70 ne8
  have V78 : Dar Z h73 b6 .double 9 (fun j => if j = 8 then .double (FP.dadd (FP.dadd (FP.dmul x6 y2) (FP.dmul x7 y5)) (FP.dmul x8 y8)) else (fun j => if j = 7 then .double (FP.dadd (FP.dadd (FP.dmul x6 y1) (FP.dmul x7 y4)) (FP.dmul x8 y7)) else (fun j => if j = 6 then .double (FP.dadd (FP.dadd (FP.dmul x6 y0) (FP.dmul x7 y3)) (FP.dmul x8 y6)) else (fun j => if j = 5 then .double (FP.dadd (FP.dadd (FP.dmul x3 y2) (FP.dmul x4 y5)) (FP.dmul x5 y8)) else (fun j => if j = 4 then .double (FP.dadd (FP.dadd (FP.dmul x3 y1) (FP.dmul x4 y4)) (FP.dmul x5 y7)) else (fun j => if j = 3 then .double (FP.dadd (FP.dadd (FP.dmul x3 y0) (FP.dmul x4 y3)) (FP.dmul x5 y6)) else (fun j => if j = 2 then .double (FP.dadd (FP.dadd (FP.dmul x0 y2) (FP.dmul x1 y5)) (FP.dmul x2 y8)) else (fun j => if j = 1 then .double (FP.dadd (FP.dadd (FP.dmul x0 y1) (FP.dmul x1 y4)) (FP.dmul x2 y7)) else (fun j => if j = 0 then .double (FP.dadd (FP.dadd (FP.dmul x0 y0) (FP.dmul x1 y3)) (FP.dmul x2 y6)) else (fun _ => .double (0 : UInt64)) j) j) j) j) j) j) j) j) j) := Dar.set V71 W73 (fun _ _ => rfl)
  have Z79 : n0 ≤ h73.size := by rw [W73.size]; exact Z72
  refine st73 ?_
  refine g_iinc A73 d2_70 rfl (y := (3 : Int32)) (by decide) (ls' := #[.val (.ref a1), .val (.ref a2), .val (.ref b6), .val (.int (2 : Int32)), .val (.int (3 : Int32))]) rfl (pc' := 73) rfl ?_
  refine g_goto A73 d2_73 (pc' := 15) rfl ?_
  refine g_iload A73 d2_15 rfl (pc' := 17) rfl ?_
  refine g_iconst A73 d2_17 (v := (3 : Int32)) rfl (pc' := 18) rfl ?_
  refine g_icY A73 d2_18 (c2_ge_t (by decide)) (pc' := 76) rfl ?_
  refine g_iinc A73 d2_76 rfl (y := (3 : Int32)) (by decide) (ls' := #[.val (.ref a1), .val (.ref a2), .val (.ref b6), .val (.int (3 : Int32)), .val (.int (3 : Int32))]) rfl (pc' := 79) rfl ?_
  refine g_goto A73 d2_79 (pc' := 7) rfl ?_
  refine g_iloadN A73 d2_7 rfl (pc' := 8) rfl ?_
  refine g_iconst A73 d2_8 (v := (3 : Int32)) rfl (pc' := 9) rfl ?_
  refine g_icY A73 d2_9 (c2_ge_t (by decide)) (pc' := 82) rfl ?_
  refine g_aloadN A73 d2_82 rfl rfl (pc' := 83) rfl ?_
  have V80 : Dar Z h73 b6 .double 9 (fun i => .double (own_v9 (own_dot x0 x1 x2 y0 y3 y6) (own_dot x0 x1 x2 y1 y4 y7) (own_dot x0 x1 x2 y2 y5 y8) (own_dot x3 x4 x5 y0 y3 y6) (own_dot x3 x4 x5 y1 y4 y7) (own_dot x3 x4 x5 y2 y5 y8) (own_dot x6 x7 x8 y0 y3 y6) (own_dot x6 x7 x8 y1 y4 y7) (own_dot x6 x7 x8 y2 y5 y8) i)) := Dar.congr V78 (fun i hi => by
      match i, hi with
      | 0, _ => rfl
      | 1, _ => rfl
      | 2, _ => rfl
      | 3, _ => rfl
      | 4, _ => rfl
      | 5, _ => rfl
      | 6, _ => rfl
      | 7, _ => rfl
      | 8, _ => rfl)
  exact g_ret (Q := Q2 Z a1 a2 f g x0 x1 x2 x3 x4 x5 x6 x7 x8 y0 y1 y2 y3 y4 y5 y6 y7 y8 h0 n0) A73 d2_83 Bd.notSynchronized Bd.returns rfl (Or.inr (Or.inr (Or.inr (Or.inr ⟨rfl, rfl, rfl⟩)))) (by decide) (by decide) (by rw [e73]; exact ⟨b6, rfl, N74, K75, gh10, V80⟩)
theorem ef81 (m : MethodId) (p0 : Int64) (p1 : Int64) (p2 : Int64) (p3 : Int64) (p4 : Int64) : entryFrame m #[(.long p0), (.long p1), (.long p2), (.long p3), (.long p4)] maxLocals = mkF m 0 #[.val (.long p0), .second, .val (.long p1), .second, .val (.long p2), .second, .val (.long p3), .second, .val (.long p4), .second, .unset, .unset, .unset, .unset, .unset, .unset, .unset, .unset, .unset, .unset, .unset, .unset, .unset, .unset, .unset, .unset, .unset, .unset, .unset, .unset, .unset, .unset, .unset, .unset, .unset, .unset, .unset, .unset, .unset, .unset, .unset, .unset, .unset, .unset, .unset, .unset, .unset, .unset, .unset, .unset, .unset, .unset] [] := by first | (simp [entryFrame, mkF, argsToLocals, Value.category, maxLocals]; done) | rfl
def Q0 (Z : State) (p0 : Int64) (p1 : Int64) (p2 : Int64) (p3 : Int64) (p4 : Int64) (h0 : Heap) (n0 : Nat) (v : Option Value) (h : Heap) (L : List Loc) : Prop := v = some (.int 1) ∧ Fr n0 L
theorem pd_0 : parseMethodDescriptor "(JI)I" = some ⟨[.long, .int], some .int⟩ := by decide +kernel
theorem pd_1 : parseMethodDescriptor "([D[D)[D" = some ⟨[(.array .double), (.array .double)], some (.array .double)⟩ := by decide +kernel
set_option maxRecDepth 65536 in
set_option maxHeartbeats 40000000 in
theorem rm0 (l : Launch) (Z : State) (a0 : Array Value) (hw : ∀ d ∈ tables_1, d.before a0 Z = true) (ws : List Jvm.Cond) (p0 : Int64) (p1 : Int64) (p2 : Int64) (p3 : Int64) (p4 : Int64) (h0 : Heap) (n0 : Nat) (Z0 : n0 ≤ h0.size)  :
    MetFree l x (head1 (Jvm.Cond.code x code maxLocals ret :: ws) room_1) (fun a U => a = #[(.long p0), (.long p1), (.long p2), (.long p3), (.long p4)] ∧ Z.Warmed39 U.vm ∧ U.heap = h0) (fun _ _ _ _ _ => True) (fun _ U o U' => ∃ v L, o = .returned v ∧ Q0 Z p0 p1 p2 p3 p4 h0 n0 v U'.heap L ∧ FrameEnd U o U' L 3 27) := by
  refine MetFree.of_bodySF (plainFor_of_name pn_0) hisR ?_
  intro p e s m args below meth c s₁ Bd hml0 hP hK
  obtain ⟨rfl, hZ, hh⟩ := hP
  have hx := Bd.exec
  have hby := Bd.bytes
  have hml : c.maxLocals = 52 := hml0
  have hown : s.vm.findClass "com/example/orientry/orientry/MatricesProductPinLaw" = some m.cls := findClass_of_methodNamed Bd.named
  have hnm := (name_of_methodNamed Bd.named Bd.method).1
  have X0 : Stand p l e room_1 s m #[(.long p0), (.long p1), (.long p2), (.long p3), (.long p4)] below meth c s₁ [] 0 0 := Stand.of_body Bd
  have e0 : s₁.heap = h0 := by rw [← hh, Bd.state]; rfl
  have N0 := Fr.nil n0
  have A0 := (⟨X0, hx, hby⟩ : Ax _ _ _ _ _ _ _ _ _ _ _ _ _ _ _)
  show Go p e below (fun U o => ∃ v L, o = .returned v ∧ Q0 Z p0 p1 p2 p3 p4 h0 n0 v U.heap L ∧ FrameEnd s o U L 3 27) s₁ (entryFrame m #[(.long p0), (.long p1), (.long p2), (.long p3), (.long p4)] maxLocals)
  refine Go.cast (ef81 m p0 p1 p2 p3 p4) ?_
  refine g_lloadN A0 at_0 rfl (pc' := 1) rfl ?_
  refine g_iconst A0 at_1 (v := (0 : Int32)) rfl (pc' := 2) rfl ?_
  obtain ⟨vv82, _, ⟨T82, L82, k82, n82⟩, -, X82, ⟨L82c, hQ82, l82, y82, z82⟩, st82⟩ := Jvm.LawKit.callS X0 hx (y := (⟨"com/example/orientry/orientry/MatricesProductPinLaw", "sh", "(JI)I"⟩ : MethodName)) hown (mvT hZ (hw _ (List.mem_of_getElem? (i := 0) rfl))) (mvT hZ (hw _ (List.mem_of_getElem? (i := 1) rfl))) (mvT hZ (hw _ (List.mem_of_getElem? (i := 2) rfl))) (mvT hZ (hw _ (List.mem_of_getElem? (i := 3) rfl))) (by decide) (backOf (W := 0) (rm1 l Z a0 hw [] p0 (0 : Int32) h0 n0 Z0 ) hZ (hw _ (List.mem_of_getElem? (i := 3) rfl)) (hw _ (List.mem_of_getElem? (i := 2) rfl)) (by decide) (by decide)) (g := (mkF m 2 #[.val (.long p0), .second, .val (.long p1), .second, .val (.long p2), .second, .val (.long p3), .second, .val (.long p4), .second, .unset, .unset, .unset, .unset, .unset, .unset, .unset, .unset, .unset, .unset, .unset, .unset, .unset, .unset, .unset, .unset, .unset, .unset, .unset, .unset, .unset, .unset, .unset, .unset, .unset, .unset, .unset, .unset, .unset, .unset, .unset, .unset, .unset, .unset, .unset, .unset, .unset, .unset, .unset, .unset, .unset, .unset] [(.int (0 : Int32)), (.long p0)])) rfl (by rw [hml]; rfl) (argsL := [(.long p0), (.int (0 : Int32))]) (rest := []) (lenOf pd_0 rfl) rfl (by show 2 * 0 + _ ≤ _; exact Nat.le_of_eq rfl) (hb hby at_2) (fun _ _ => ⟨rfl, e0, (by decide : 0 + 0 ≤ _), (by decide : 0 + 0 ≤ _)⟩)
  have hQ82b : Q1 Z p0 (0 : Int32) h0 n0 vv82 T82.heap L82c := hQ82
  clear hQ82
  dsimp only [Pt.U, Pt.locs, Pt.cells, Pt.slots] at X82 l82 y82 z82 st82
  subst y82 z82
  obtain ⟨rfl, Nq83, Kq84⟩ := hQ82b
  have N85 : Fr n0 L82 := by rw [l82]; exact Fr.app N0 Nq83
  refine Go.of (g' := (mkF m 5 #[.val (.long p0), .second, .val (.long p1), .second, .val (.long p2), .second, .val (.long p3), .second, .val (.long p4), .second, .unset, .unset, .unset, .unset, .unset, .unset, .unset, .unset, .unset, .unset, .unset, .unset, .unset, .unset, .unset, .unset, .unset, .unset, .unset, .unset, .unset, .unset, .unset, .unset, .unset, .unset, .unset, .unset, .unset, .unset, .unset, .unset, .unset, .unset, .unset, .unset, .unset, .unset, .unset, .unset, .unset, .unset] [(.int (own_r_rm1 p0 (0 : Int32)))])) st82 ?_
  have e86 : T82.heap = h0 := Kq84
  have A87 := (⟨X82, hx, hby⟩ : Ax _ _ _ _ _ _ _ _ _ _ _ _ _ _ _)
  obtain ⟨n88, hn88⟩ : ∃ z : Int32, z = (own_r_rm1 p0 (0 : Int32)) := ⟨_, rfl⟩
  rw [← hn88]
  have hb89 : n88.toInt.natAbs ≤ 32768 := by rw [hn88]; exact own_shb _ _
  refine g_istore A87 at_5 (ls' := #[.val (.long p0), .second, .val (.long p1), .second, .val (.long p2), .second, .val (.long p3), .second, .val (.long p4), .second, .val (.int n88), .unset, .unset, .unset, .unset, .unset, .unset, .unset, .unset, .unset, .unset, .unset, .unset, .unset, .unset, .unset, .unset, .unset, .unset, .unset, .unset, .unset, .unset, .unset, .unset, .unset, .unset, .unset, .unset, .unset, .unset, .unset, .unset, .unset, .unset, .unset, .unset, .unset, .unset, .unset, .unset, .unset]) rfl (pc' := 7) rfl ?_
  refine g_lloadN A87 at_7 rfl (pc' := 8) rfl ?_
  refine g_iconst A87 at_8 (v := (1 : Int32)) rfl (pc' := 9) rfl ?_
  obtain ⟨vv90, _, ⟨T90, L90, k90, n90⟩, -, X90, ⟨L90c, hQ90, l90, y90, z90⟩, st90⟩ := Jvm.LawKit.callS X82 hx (y := (⟨"com/example/orientry/orientry/MatricesProductPinLaw", "sh", "(JI)I"⟩ : MethodName)) hown (mvT hZ (hw _ (List.mem_of_getElem? (i := 0) rfl))) (mvT hZ (hw _ (List.mem_of_getElem? (i := 1) rfl))) (mvT hZ (hw _ (List.mem_of_getElem? (i := 2) rfl))) (mvT hZ (hw _ (List.mem_of_getElem? (i := 3) rfl))) (by decide) (backOf (W := 0) (rm1 l Z a0 hw [] p0 (1 : Int32) h0 n0 Z0 ) hZ (hw _ (List.mem_of_getElem? (i := 3) rfl)) (hw _ (List.mem_of_getElem? (i := 2) rfl)) (by decide) (by decide)) (g := (mkF m 9 #[.val (.long p0), .second, .val (.long p1), .second, .val (.long p2), .second, .val (.long p3), .second, .val (.long p4), .second, .val (.int n88), .unset, .unset, .unset, .unset, .unset, .unset, .unset, .unset, .unset, .unset, .unset, .unset, .unset, .unset, .unset, .unset, .unset, .unset, .unset, .unset, .unset, .unset, .unset, .unset, .unset, .unset, .unset, .unset, .unset, .unset, .unset, .unset, .unset, .unset, .unset, .unset, .unset, .unset, .unset, .unset, .unset] [(.int (1 : Int32)), (.long p0)])) rfl (by rw [hml]; rfl) (argsL := [(.long p0), (.int (1 : Int32))]) (rest := []) (lenOf pd_0 rfl) rfl (by show 2 * 0 + _ ≤ _; exact Nat.le_of_eq rfl) (hb hby at_9) (fun _ _ => ⟨rfl, e86, (by decide : 0 + 0 ≤ _), (by decide : 0 + 0 ≤ _)⟩)
  have hQ90b : Q1 Z p0 (1 : Int32) h0 n0 vv90 T90.heap L90c := hQ90
  clear hQ90
  dsimp only [Pt.U, Pt.locs, Pt.cells, Pt.slots] at X90 l90 y90 z90 st90
  subst y90 z90
  obtain ⟨rfl, Nq91, Kq92⟩ := hQ90b
  have N93 : Fr n0 L90 := by rw [l90]; exact Fr.app N85 Nq91
  refine Go.of (g' := (mkF m 12 #[.val (.long p0), .second, .val (.long p1), .second, .val (.long p2), .second, .val (.long p3), .second, .val (.long p4), .second, .val (.int n88), .unset, .unset, .unset, .unset, .unset, .unset, .unset, .unset, .unset, .unset, .unset, .unset, .unset, .unset, .unset, .unset, .unset, .unset, .unset, .unset, .unset, .unset, .unset, .unset, .unset, .unset, .unset, .unset, .unset, .unset, .unset, .unset, .unset, .unset, .unset, .unset, .unset, .unset, .unset, .unset, .unset] [(.int (own_r_rm1 p0 (1 : Int32)))])) st90 ?_
  have e94 : T90.heap = h0 := Kq92
  have A95 := (⟨X90, hx, hby⟩ : Ax _ _ _ _ _ _ _ _ _ _ _ _ _ _ _)
  obtain ⟨n96, hn96⟩ : ∃ z : Int32, z = (own_r_rm1 p0 (1 : Int32)) := ⟨_, rfl⟩
  rw [← hn96]
  have hb97 : n96.toInt.natAbs ≤ 32768 := by rw [hn96]; exact own_shb _ _
  refine g_istore A95 at_12 (ls' := #[.val (.long p0), .second, .val (.long p1), .second, .val (.long p2), .second, .val (.long p3), .second, .val (.long p4), .second, .val (.int n88), .val (.int n96), .unset, .unset, .unset, .unset, .unset, .unset, .unset, .unset, .unset, .unset, .unset, .unset, .unset, .unset, .unset, .unset, .unset, .unset, .unset, .unset, .unset, .unset, .unset, .unset, .unset, .unset, .unset, .unset, .unset, .unset, .unset, .unset, .unset, .unset, .unset, .unset, .unset, .unset, .unset, .unset]) rfl (pc' := 14) rfl ?_
  refine g_lloadN A95 at_14 rfl (pc' := 15) rfl ?_
  refine g_iconst A95 at_15 (v := (2 : Int32)) rfl (pc' := 16) rfl ?_
  obtain ⟨vv98, _, ⟨T98, L98, k98, n98⟩, -, X98, ⟨L98c, hQ98, l98, y98, z98⟩, st98⟩ := Jvm.LawKit.callS X90 hx (y := (⟨"com/example/orientry/orientry/MatricesProductPinLaw", "sh", "(JI)I"⟩ : MethodName)) hown (mvT hZ (hw _ (List.mem_of_getElem? (i := 0) rfl))) (mvT hZ (hw _ (List.mem_of_getElem? (i := 1) rfl))) (mvT hZ (hw _ (List.mem_of_getElem? (i := 2) rfl))) (mvT hZ (hw _ (List.mem_of_getElem? (i := 3) rfl))) (by decide) (backOf (W := 0) (rm1 l Z a0 hw [] p0 (2 : Int32) h0 n0 Z0 ) hZ (hw _ (List.mem_of_getElem? (i := 3) rfl)) (hw _ (List.mem_of_getElem? (i := 2) rfl)) (by decide) (by decide)) (g := (mkF m 16 #[.val (.long p0), .second, .val (.long p1), .second, .val (.long p2), .second, .val (.long p3), .second, .val (.long p4), .second, .val (.int n88), .val (.int n96), .unset, .unset, .unset, .unset, .unset, .unset, .unset, .unset, .unset, .unset, .unset, .unset, .unset, .unset, .unset, .unset, .unset, .unset, .unset, .unset, .unset, .unset, .unset, .unset, .unset, .unset, .unset, .unset, .unset, .unset, .unset, .unset, .unset, .unset, .unset, .unset, .unset, .unset, .unset, .unset] [(.int (2 : Int32)), (.long p0)])) rfl (by rw [hml]; rfl) (argsL := [(.long p0), (.int (2 : Int32))]) (rest := []) (lenOf pd_0 rfl) rfl (by show 2 * 0 + _ ≤ _; exact Nat.le_of_eq rfl) (hb hby at_16) (fun _ _ => ⟨rfl, e94, (by decide : 0 + 0 ≤ _), (by decide : 0 + 0 ≤ _)⟩)
  have hQ98b : Q1 Z p0 (2 : Int32) h0 n0 vv98 T98.heap L98c := hQ98
  clear hQ98
  dsimp only [Pt.U, Pt.locs, Pt.cells, Pt.slots] at X98 l98 y98 z98 st98
  subst y98 z98
  obtain ⟨rfl, Nq99, Kq100⟩ := hQ98b
  have N101 : Fr n0 L98 := by rw [l98]; exact Fr.app N93 Nq99
  refine Go.of (g' := (mkF m 19 #[.val (.long p0), .second, .val (.long p1), .second, .val (.long p2), .second, .val (.long p3), .second, .val (.long p4), .second, .val (.int n88), .val (.int n96), .unset, .unset, .unset, .unset, .unset, .unset, .unset, .unset, .unset, .unset, .unset, .unset, .unset, .unset, .unset, .unset, .unset, .unset, .unset, .unset, .unset, .unset, .unset, .unset, .unset, .unset, .unset, .unset, .unset, .unset, .unset, .unset, .unset, .unset, .unset, .unset, .unset, .unset, .unset, .unset] [(.int (own_r_rm1 p0 (2 : Int32)))])) st98 ?_
  have e102 : T98.heap = h0 := Kq100
  have A103 := (⟨X98, hx, hby⟩ : Ax _ _ _ _ _ _ _ _ _ _ _ _ _ _ _)
  obtain ⟨n104, hn104⟩ : ∃ z : Int32, z = (own_r_rm1 p0 (2 : Int32)) := ⟨_, rfl⟩
  rw [← hn104]
  have hb105 : n104.toInt.natAbs ≤ 32768 := by rw [hn104]; exact own_shb _ _
  refine g_istore A103 at_19 (ls' := #[.val (.long p0), .second, .val (.long p1), .second, .val (.long p2), .second, .val (.long p3), .second, .val (.long p4), .second, .val (.int n88), .val (.int n96), .val (.int n104), .unset, .unset, .unset, .unset, .unset, .unset, .unset, .unset, .unset, .unset, .unset, .unset, .unset, .unset, .unset, .unset, .unset, .unset, .unset, .unset, .unset, .unset, .unset, .unset, .unset, .unset, .unset, .unset, .unset, .unset, .unset, .unset, .unset, .unset, .unset, .unset, .unset, .unset, .unset]) rfl (pc' := 21) rfl ?_
  refine g_lloadN A103 at_21 rfl (pc' := 22) rfl ?_
  refine g_iconst A103 at_22 (v := (3 : Int32)) rfl (pc' := 23) rfl ?_
  obtain ⟨vv106, _, ⟨T106, L106, k106, n106⟩, -, X106, ⟨L106c, hQ106, l106, y106, z106⟩, st106⟩ := Jvm.LawKit.callS X98 hx (y := (⟨"com/example/orientry/orientry/MatricesProductPinLaw", "sh", "(JI)I"⟩ : MethodName)) hown (mvT hZ (hw _ (List.mem_of_getElem? (i := 0) rfl))) (mvT hZ (hw _ (List.mem_of_getElem? (i := 1) rfl))) (mvT hZ (hw _ (List.mem_of_getElem? (i := 2) rfl))) (mvT hZ (hw _ (List.mem_of_getElem? (i := 3) rfl))) (by decide) (backOf (W := 0) (rm1 l Z a0 hw [] p0 (3 : Int32) h0 n0 Z0 ) hZ (hw _ (List.mem_of_getElem? (i := 3) rfl)) (hw _ (List.mem_of_getElem? (i := 2) rfl)) (by decide) (by decide)) (g := (mkF m 23 #[.val (.long p0), .second, .val (.long p1), .second, .val (.long p2), .second, .val (.long p3), .second, .val (.long p4), .second, .val (.int n88), .val (.int n96), .val (.int n104), .unset, .unset, .unset, .unset, .unset, .unset, .unset, .unset, .unset, .unset, .unset, .unset, .unset, .unset, .unset, .unset, .unset, .unset, .unset, .unset, .unset, .unset, .unset, .unset, .unset, .unset, .unset, .unset, .unset, .unset, .unset, .unset, .unset, .unset, .unset, .unset, .unset, .unset, .unset] [(.int (3 : Int32)), (.long p0)])) rfl (by rw [hml]; rfl) (argsL := [(.long p0), (.int (3 : Int32))]) (rest := []) (lenOf pd_0 rfl) rfl (by show 2 * 0 + _ ≤ _; exact Nat.le_of_eq rfl) (hb hby at_23) (fun _ _ => ⟨rfl, e102, (by decide : 0 + 0 ≤ _), (by decide : 0 + 0 ≤ _)⟩)
  have hQ106b : Q1 Z p0 (3 : Int32) h0 n0 vv106 T106.heap L106c := hQ106
  clear hQ106
  dsimp only [Pt.U, Pt.locs, Pt.cells, Pt.slots] at X106 l106 y106 z106 st106
  subst y106 z106
  obtain ⟨rfl, Nq107, Kq108⟩ := hQ106b
  have N109 : Fr n0 L106 := by rw [l106]; exact Fr.app N101 Nq107
  refine Go.of (g' := (mkF m 26 #[.val (.long p0), .second, .val (.long p1), .second, .val (.long p2), .second, .val (.long p3), .second, .val (.long p4), .second, .val (.int n88), .val (.int n96), .val (.int n104), .unset, .unset, .unset, .unset, .unset, .unset, .unset, .unset, .unset, .unset, .unset, .unset, .unset, .unset, .unset, .unset, .unset, .unset, .unset, .unset, .unset, .unset, .unset, .unset, .unset, .unset, .unset, .unset, .unset, .unset, .unset, .unset, .unset, .unset, .unset, .unset, .unset, .unset, .unset] [(.int (own_r_rm1 p0 (3 : Int32)))])) st106 ?_
  have e110 : T106.heap = h0 := Kq108
  have A111 := (⟨X106, hx, hby⟩ : Ax _ _ _ _ _ _ _ _ _ _ _ _ _ _ _)
  obtain ⟨n112, hn112⟩ : ∃ z : Int32, z = (own_r_rm1 p0 (3 : Int32)) := ⟨_, rfl⟩
  rw [← hn112]
  have hb113 : n112.toInt.natAbs ≤ 32768 := by rw [hn112]; exact own_shb _ _
  refine g_istore A111 at_26 (ls' := #[.val (.long p0), .second, .val (.long p1), .second, .val (.long p2), .second, .val (.long p3), .second, .val (.long p4), .second, .val (.int n88), .val (.int n96), .val (.int n104), .val (.int n112), .unset, .unset, .unset, .unset, .unset, .unset, .unset, .unset, .unset, .unset, .unset, .unset, .unset, .unset, .unset, .unset, .unset, .unset, .unset, .unset, .unset, .unset, .unset, .unset, .unset, .unset, .unset, .unset, .unset, .unset, .unset, .unset, .unset, .unset, .unset, .unset, .unset, .unset]) rfl (pc' := 28) rfl ?_
  refine g_lloadN A111 at_28 rfl (pc' := 29) rfl ?_
  refine g_iconst A111 at_29 (v := (0 : Int32)) rfl (pc' := 30) rfl ?_
  obtain ⟨vv114, _, ⟨T114, L114, k114, n114⟩, -, X114, ⟨L114c, hQ114, l114, y114, z114⟩, st114⟩ := Jvm.LawKit.callS X106 hx (y := (⟨"com/example/orientry/orientry/MatricesProductPinLaw", "sh", "(JI)I"⟩ : MethodName)) hown (mvT hZ (hw _ (List.mem_of_getElem? (i := 0) rfl))) (mvT hZ (hw _ (List.mem_of_getElem? (i := 1) rfl))) (mvT hZ (hw _ (List.mem_of_getElem? (i := 2) rfl))) (mvT hZ (hw _ (List.mem_of_getElem? (i := 3) rfl))) (by decide) (backOf (W := 0) (rm1 l Z a0 hw [] p1 (0 : Int32) h0 n0 Z0 ) hZ (hw _ (List.mem_of_getElem? (i := 3) rfl)) (hw _ (List.mem_of_getElem? (i := 2) rfl)) (by decide) (by decide)) (g := (mkF m 30 #[.val (.long p0), .second, .val (.long p1), .second, .val (.long p2), .second, .val (.long p3), .second, .val (.long p4), .second, .val (.int n88), .val (.int n96), .val (.int n104), .val (.int n112), .unset, .unset, .unset, .unset, .unset, .unset, .unset, .unset, .unset, .unset, .unset, .unset, .unset, .unset, .unset, .unset, .unset, .unset, .unset, .unset, .unset, .unset, .unset, .unset, .unset, .unset, .unset, .unset, .unset, .unset, .unset, .unset, .unset, .unset, .unset, .unset, .unset, .unset] [(.int (0 : Int32)), (.long p1)])) rfl (by rw [hml]; rfl) (argsL := [(.long p1), (.int (0 : Int32))]) (rest := []) (lenOf pd_0 rfl) rfl (by show 2 * 0 + _ ≤ _; exact Nat.le_of_eq rfl) (hb hby at_30) (fun _ _ => ⟨rfl, e110, (by decide : 0 + 0 ≤ _), (by decide : 0 + 0 ≤ _)⟩)
  have hQ114b : Q1 Z p1 (0 : Int32) h0 n0 vv114 T114.heap L114c := hQ114
  clear hQ114
  dsimp only [Pt.U, Pt.locs, Pt.cells, Pt.slots] at X114 l114 y114 z114 st114
  subst y114 z114
  obtain ⟨rfl, Nq115, Kq116⟩ := hQ114b
  have N117 : Fr n0 L114 := by rw [l114]; exact Fr.app N109 Nq115
  refine Go.of (g' := (mkF m 33 #[.val (.long p0), .second, .val (.long p1), .second, .val (.long p2), .second, .val (.long p3), .second, .val (.long p4), .second, .val (.int n88), .val (.int n96), .val (.int n104), .val (.int n112), .unset, .unset, .unset, .unset, .unset, .unset, .unset, .unset, .unset, .unset, .unset, .unset, .unset, .unset, .unset, .unset, .unset, .unset, .unset, .unset, .unset, .unset, .unset, .unset, .unset, .unset, .unset, .unset, .unset, .unset, .unset, .unset, .unset, .unset, .unset, .unset, .unset, .unset] [(.int (own_r_rm1 p1 (0 : Int32)))])) st114 ?_
  have e118 : T114.heap = h0 := Kq116
  have A119 := (⟨X114, hx, hby⟩ : Ax _ _ _ _ _ _ _ _ _ _ _ _ _ _ _)
  obtain ⟨n120, hn120⟩ : ∃ z : Int32, z = (own_r_rm1 p1 (0 : Int32)) := ⟨_, rfl⟩
  rw [← hn120]
  have hb121 : n120.toInt.natAbs ≤ 32768 := by rw [hn120]; exact own_shb _ _
  refine g_istore A119 at_33 (ls' := #[.val (.long p0), .second, .val (.long p1), .second, .val (.long p2), .second, .val (.long p3), .second, .val (.long p4), .second, .val (.int n88), .val (.int n96), .val (.int n104), .val (.int n112), .val (.int n120), .unset, .unset, .unset, .unset, .unset, .unset, .unset, .unset, .unset, .unset, .unset, .unset, .unset, .unset, .unset, .unset, .unset, .unset, .unset, .unset, .unset, .unset, .unset, .unset, .unset, .unset, .unset, .unset, .unset, .unset, .unset, .unset, .unset, .unset, .unset, .unset, .unset]) rfl (pc' := 35) rfl ?_
  refine g_lloadN A119 at_35 rfl (pc' := 36) rfl ?_
  refine g_iconst A119 at_36 (v := (1 : Int32)) rfl (pc' := 37) rfl ?_
  obtain ⟨vv122, _, ⟨T122, L122, k122, n122⟩, -, X122, ⟨L122c, hQ122, l122, y122, z122⟩, st122⟩ := Jvm.LawKit.callS X114 hx (y := (⟨"com/example/orientry/orientry/MatricesProductPinLaw", "sh", "(JI)I"⟩ : MethodName)) hown (mvT hZ (hw _ (List.mem_of_getElem? (i := 0) rfl))) (mvT hZ (hw _ (List.mem_of_getElem? (i := 1) rfl))) (mvT hZ (hw _ (List.mem_of_getElem? (i := 2) rfl))) (mvT hZ (hw _ (List.mem_of_getElem? (i := 3) rfl))) (by decide) (backOf (W := 0) (rm1 l Z a0 hw [] p1 (1 : Int32) h0 n0 Z0 ) hZ (hw _ (List.mem_of_getElem? (i := 3) rfl)) (hw _ (List.mem_of_getElem? (i := 2) rfl)) (by decide) (by decide)) (g := (mkF m 37 #[.val (.long p0), .second, .val (.long p1), .second, .val (.long p2), .second, .val (.long p3), .second, .val (.long p4), .second, .val (.int n88), .val (.int n96), .val (.int n104), .val (.int n112), .val (.int n120), .unset, .unset, .unset, .unset, .unset, .unset, .unset, .unset, .unset, .unset, .unset, .unset, .unset, .unset, .unset, .unset, .unset, .unset, .unset, .unset, .unset, .unset, .unset, .unset, .unset, .unset, .unset, .unset, .unset, .unset, .unset, .unset, .unset, .unset, .unset, .unset, .unset] [(.int (1 : Int32)), (.long p1)])) rfl (by rw [hml]; rfl) (argsL := [(.long p1), (.int (1 : Int32))]) (rest := []) (lenOf pd_0 rfl) rfl (by show 2 * 0 + _ ≤ _; exact Nat.le_of_eq rfl) (hb hby at_37) (fun _ _ => ⟨rfl, e118, (by decide : 0 + 0 ≤ _), (by decide : 0 + 0 ≤ _)⟩)
  have hQ122b : Q1 Z p1 (1 : Int32) h0 n0 vv122 T122.heap L122c := hQ122
  clear hQ122
  dsimp only [Pt.U, Pt.locs, Pt.cells, Pt.slots] at X122 l122 y122 z122 st122
  subst y122 z122
  obtain ⟨rfl, Nq123, Kq124⟩ := hQ122b
  have N125 : Fr n0 L122 := by rw [l122]; exact Fr.app N117 Nq123
  refine Go.of (g' := (mkF m 40 #[.val (.long p0), .second, .val (.long p1), .second, .val (.long p2), .second, .val (.long p3), .second, .val (.long p4), .second, .val (.int n88), .val (.int n96), .val (.int n104), .val (.int n112), .val (.int n120), .unset, .unset, .unset, .unset, .unset, .unset, .unset, .unset, .unset, .unset, .unset, .unset, .unset, .unset, .unset, .unset, .unset, .unset, .unset, .unset, .unset, .unset, .unset, .unset, .unset, .unset, .unset, .unset, .unset, .unset, .unset, .unset, .unset, .unset, .unset, .unset, .unset] [(.int (own_r_rm1 p1 (1 : Int32)))])) st122 ?_
  have e126 : T122.heap = h0 := Kq124
  have A127 := (⟨X122, hx, hby⟩ : Ax _ _ _ _ _ _ _ _ _ _ _ _ _ _ _)
  obtain ⟨n128, hn128⟩ : ∃ z : Int32, z = (own_r_rm1 p1 (1 : Int32)) := ⟨_, rfl⟩
  rw [← hn128]
  have hb129 : n128.toInt.natAbs ≤ 32768 := by rw [hn128]; exact own_shb _ _
  refine g_istore A127 at_40 (ls' := #[.val (.long p0), .second, .val (.long p1), .second, .val (.long p2), .second, .val (.long p3), .second, .val (.long p4), .second, .val (.int n88), .val (.int n96), .val (.int n104), .val (.int n112), .val (.int n120), .val (.int n128), .unset, .unset, .unset, .unset, .unset, .unset, .unset, .unset, .unset, .unset, .unset, .unset, .unset, .unset, .unset, .unset, .unset, .unset, .unset, .unset, .unset, .unset, .unset, .unset, .unset, .unset, .unset, .unset, .unset, .unset, .unset, .unset, .unset, .unset, .unset, .unset]) rfl (pc' := 42) rfl ?_
  refine g_lloadN A127 at_42 rfl (pc' := 43) rfl ?_
  refine g_iconst A127 at_43 (v := (2 : Int32)) rfl (pc' := 44) rfl ?_
  obtain ⟨vv130, _, ⟨T130, L130, k130, n130⟩, -, X130, ⟨L130c, hQ130, l130, y130, z130⟩, st130⟩ := Jvm.LawKit.callS X122 hx (y := (⟨"com/example/orientry/orientry/MatricesProductPinLaw", "sh", "(JI)I"⟩ : MethodName)) hown (mvT hZ (hw _ (List.mem_of_getElem? (i := 0) rfl))) (mvT hZ (hw _ (List.mem_of_getElem? (i := 1) rfl))) (mvT hZ (hw _ (List.mem_of_getElem? (i := 2) rfl))) (mvT hZ (hw _ (List.mem_of_getElem? (i := 3) rfl))) (by decide) (backOf (W := 0) (rm1 l Z a0 hw [] p1 (2 : Int32) h0 n0 Z0 ) hZ (hw _ (List.mem_of_getElem? (i := 3) rfl)) (hw _ (List.mem_of_getElem? (i := 2) rfl)) (by decide) (by decide)) (g := (mkF m 44 #[.val (.long p0), .second, .val (.long p1), .second, .val (.long p2), .second, .val (.long p3), .second, .val (.long p4), .second, .val (.int n88), .val (.int n96), .val (.int n104), .val (.int n112), .val (.int n120), .val (.int n128), .unset, .unset, .unset, .unset, .unset, .unset, .unset, .unset, .unset, .unset, .unset, .unset, .unset, .unset, .unset, .unset, .unset, .unset, .unset, .unset, .unset, .unset, .unset, .unset, .unset, .unset, .unset, .unset, .unset, .unset, .unset, .unset, .unset, .unset, .unset, .unset] [(.int (2 : Int32)), (.long p1)])) rfl (by rw [hml]; rfl) (argsL := [(.long p1), (.int (2 : Int32))]) (rest := []) (lenOf pd_0 rfl) rfl (by show 2 * 0 + _ ≤ _; exact Nat.le_of_eq rfl) (hb hby at_44) (fun _ _ => ⟨rfl, e126, (by decide : 0 + 0 ≤ _), (by decide : 0 + 0 ≤ _)⟩)
  have hQ130b : Q1 Z p1 (2 : Int32) h0 n0 vv130 T130.heap L130c := hQ130
  clear hQ130
  dsimp only [Pt.U, Pt.locs, Pt.cells, Pt.slots] at X130 l130 y130 z130 st130
  subst y130 z130
  obtain ⟨rfl, Nq131, Kq132⟩ := hQ130b
  have N133 : Fr n0 L130 := by rw [l130]; exact Fr.app N125 Nq131
  refine Go.of (g' := (mkF m 47 #[.val (.long p0), .second, .val (.long p1), .second, .val (.long p2), .second, .val (.long p3), .second, .val (.long p4), .second, .val (.int n88), .val (.int n96), .val (.int n104), .val (.int n112), .val (.int n120), .val (.int n128), .unset, .unset, .unset, .unset, .unset, .unset, .unset, .unset, .unset, .unset, .unset, .unset, .unset, .unset, .unset, .unset, .unset, .unset, .unset, .unset, .unset, .unset, .unset, .unset, .unset, .unset, .unset, .unset, .unset, .unset, .unset, .unset, .unset, .unset, .unset, .unset] [(.int (own_r_rm1 p1 (2 : Int32)))])) st130 ?_
  have e134 : T130.heap = h0 := Kq132
  have A135 := (⟨X130, hx, hby⟩ : Ax _ _ _ _ _ _ _ _ _ _ _ _ _ _ _)
  obtain ⟨n136, hn136⟩ : ∃ z : Int32, z = (own_r_rm1 p1 (2 : Int32)) := ⟨_, rfl⟩
  rw [← hn136]
  have hb137 : n136.toInt.natAbs ≤ 32768 := by rw [hn136]; exact own_shb _ _
  refine g_istore A135 at_47 (ls' := #[.val (.long p0), .second, .val (.long p1), .second, .val (.long p2), .second, .val (.long p3), .second, .val (.long p4), .second, .val (.int n88), .val (.int n96), .val (.int n104), .val (.int n112), .val (.int n120), .val (.int n128), .val (.int n136), .unset, .unset, .unset, .unset, .unset, .unset, .unset, .unset, .unset, .unset, .unset, .unset, .unset, .unset, .unset, .unset, .unset, .unset, .unset, .unset, .unset, .unset, .unset, .unset, .unset, .unset, .unset, .unset, .unset, .unset, .unset, .unset, .unset, .unset, .unset]) rfl (pc' := 49) rfl ?_
  refine g_lloadN A135 at_49 rfl (pc' := 50) rfl ?_
  refine g_iconst A135 at_50 (v := (3 : Int32)) rfl (pc' := 51) rfl ?_
  obtain ⟨vv138, _, ⟨T138, L138, k138, n138⟩, -, X138, ⟨L138c, hQ138, l138, y138, z138⟩, st138⟩ := Jvm.LawKit.callS X130 hx (y := (⟨"com/example/orientry/orientry/MatricesProductPinLaw", "sh", "(JI)I"⟩ : MethodName)) hown (mvT hZ (hw _ (List.mem_of_getElem? (i := 0) rfl))) (mvT hZ (hw _ (List.mem_of_getElem? (i := 1) rfl))) (mvT hZ (hw _ (List.mem_of_getElem? (i := 2) rfl))) (mvT hZ (hw _ (List.mem_of_getElem? (i := 3) rfl))) (by decide) (backOf (W := 0) (rm1 l Z a0 hw [] p1 (3 : Int32) h0 n0 Z0 ) hZ (hw _ (List.mem_of_getElem? (i := 3) rfl)) (hw _ (List.mem_of_getElem? (i := 2) rfl)) (by decide) (by decide)) (g := (mkF m 51 #[.val (.long p0), .second, .val (.long p1), .second, .val (.long p2), .second, .val (.long p3), .second, .val (.long p4), .second, .val (.int n88), .val (.int n96), .val (.int n104), .val (.int n112), .val (.int n120), .val (.int n128), .val (.int n136), .unset, .unset, .unset, .unset, .unset, .unset, .unset, .unset, .unset, .unset, .unset, .unset, .unset, .unset, .unset, .unset, .unset, .unset, .unset, .unset, .unset, .unset, .unset, .unset, .unset, .unset, .unset, .unset, .unset, .unset, .unset, .unset, .unset, .unset, .unset] [(.int (3 : Int32)), (.long p1)])) rfl (by rw [hml]; rfl) (argsL := [(.long p1), (.int (3 : Int32))]) (rest := []) (lenOf pd_0 rfl) rfl (by show 2 * 0 + _ ≤ _; exact Nat.le_of_eq rfl) (hb hby at_51) (fun _ _ => ⟨rfl, e134, (by decide : 0 + 0 ≤ _), (by decide : 0 + 0 ≤ _)⟩)
  have hQ138b : Q1 Z p1 (3 : Int32) h0 n0 vv138 T138.heap L138c := hQ138
  clear hQ138
  dsimp only [Pt.U, Pt.locs, Pt.cells, Pt.slots] at X138 l138 y138 z138 st138
  subst y138 z138
  obtain ⟨rfl, Nq139, Kq140⟩ := hQ138b
  have N141 : Fr n0 L138 := by rw [l138]; exact Fr.app N133 Nq139
  refine Go.of (g' := (mkF m 54 #[.val (.long p0), .second, .val (.long p1), .second, .val (.long p2), .second, .val (.long p3), .second, .val (.long p4), .second, .val (.int n88), .val (.int n96), .val (.int n104), .val (.int n112), .val (.int n120), .val (.int n128), .val (.int n136), .unset, .unset, .unset, .unset, .unset, .unset, .unset, .unset, .unset, .unset, .unset, .unset, .unset, .unset, .unset, .unset, .unset, .unset, .unset, .unset, .unset, .unset, .unset, .unset, .unset, .unset, .unset, .unset, .unset, .unset, .unset, .unset, .unset, .unset, .unset] [(.int (own_r_rm1 p1 (3 : Int32)))])) st138 ?_
  have e142 : T138.heap = h0 := Kq140
  have A143 := (⟨X138, hx, hby⟩ : Ax _ _ _ _ _ _ _ _ _ _ _ _ _ _ _)
  obtain ⟨n144, hn144⟩ : ∃ z : Int32, z = (own_r_rm1 p1 (3 : Int32)) := ⟨_, rfl⟩
  rw [← hn144]
  have hb145 : n144.toInt.natAbs ≤ 32768 := by rw [hn144]; exact own_shb _ _
  refine g_istore A143 at_54 (ls' := #[.val (.long p0), .second, .val (.long p1), .second, .val (.long p2), .second, .val (.long p3), .second, .val (.long p4), .second, .val (.int n88), .val (.int n96), .val (.int n104), .val (.int n112), .val (.int n120), .val (.int n128), .val (.int n136), .val (.int n144), .unset, .unset, .unset, .unset, .unset, .unset, .unset, .unset, .unset, .unset, .unset, .unset, .unset, .unset, .unset, .unset, .unset, .unset, .unset, .unset, .unset, .unset, .unset, .unset, .unset, .unset, .unset, .unset, .unset, .unset, .unset, .unset, .unset, .unset]) rfl (pc' := 56) rfl ?_
  refine g_lload A143 at_56 rfl (pc' := 58) rfl ?_
  refine g_iconst A143 at_58 (v := (0 : Int32)) rfl (pc' := 59) rfl ?_
  obtain ⟨vv146, _, ⟨T146, L146, k146, n146⟩, -, X146, ⟨L146c, hQ146, l146, y146, z146⟩, st146⟩ := Jvm.LawKit.callS X138 hx (y := (⟨"com/example/orientry/orientry/MatricesProductPinLaw", "sh", "(JI)I"⟩ : MethodName)) hown (mvT hZ (hw _ (List.mem_of_getElem? (i := 0) rfl))) (mvT hZ (hw _ (List.mem_of_getElem? (i := 1) rfl))) (mvT hZ (hw _ (List.mem_of_getElem? (i := 2) rfl))) (mvT hZ (hw _ (List.mem_of_getElem? (i := 3) rfl))) (by decide) (backOf (W := 0) (rm1 l Z a0 hw [] p2 (0 : Int32) h0 n0 Z0 ) hZ (hw _ (List.mem_of_getElem? (i := 3) rfl)) (hw _ (List.mem_of_getElem? (i := 2) rfl)) (by decide) (by decide)) (g := (mkF m 59 #[.val (.long p0), .second, .val (.long p1), .second, .val (.long p2), .second, .val (.long p3), .second, .val (.long p4), .second, .val (.int n88), .val (.int n96), .val (.int n104), .val (.int n112), .val (.int n120), .val (.int n128), .val (.int n136), .val (.int n144), .unset, .unset, .unset, .unset, .unset, .unset, .unset, .unset, .unset, .unset, .unset, .unset, .unset, .unset, .unset, .unset, .unset, .unset, .unset, .unset, .unset, .unset, .unset, .unset, .unset, .unset, .unset, .unset, .unset, .unset, .unset, .unset, .unset, .unset] [(.int (0 : Int32)), (.long p2)])) rfl (by rw [hml]; rfl) (argsL := [(.long p2), (.int (0 : Int32))]) (rest := []) (lenOf pd_0 rfl) rfl (by show 2 * 0 + _ ≤ _; exact Nat.le_of_eq rfl) (hb hby at_59) (fun _ _ => ⟨rfl, e142, (by decide : 0 + 0 ≤ _), (by decide : 0 + 0 ≤ _)⟩)
  have hQ146b : Q1 Z p2 (0 : Int32) h0 n0 vv146 T146.heap L146c := hQ146
  clear hQ146
  dsimp only [Pt.U, Pt.locs, Pt.cells, Pt.slots] at X146 l146 y146 z146 st146
  subst y146 z146
  obtain ⟨rfl, Nq147, Kq148⟩ := hQ146b
  have N149 : Fr n0 L146 := by rw [l146]; exact Fr.app N141 Nq147
  refine Go.of (g' := (mkF m 62 #[.val (.long p0), .second, .val (.long p1), .second, .val (.long p2), .second, .val (.long p3), .second, .val (.long p4), .second, .val (.int n88), .val (.int n96), .val (.int n104), .val (.int n112), .val (.int n120), .val (.int n128), .val (.int n136), .val (.int n144), .unset, .unset, .unset, .unset, .unset, .unset, .unset, .unset, .unset, .unset, .unset, .unset, .unset, .unset, .unset, .unset, .unset, .unset, .unset, .unset, .unset, .unset, .unset, .unset, .unset, .unset, .unset, .unset, .unset, .unset, .unset, .unset, .unset, .unset] [(.int (own_r_rm1 p2 (0 : Int32)))])) st146 ?_
  have e150 : T146.heap = h0 := Kq148
  have A151 := (⟨X146, hx, hby⟩ : Ax _ _ _ _ _ _ _ _ _ _ _ _ _ _ _)
  obtain ⟨n152, hn152⟩ : ∃ z : Int32, z = (own_r_rm1 p2 (0 : Int32)) := ⟨_, rfl⟩
  rw [← hn152]
  have hb153 : n152.toInt.natAbs ≤ 32768 := by rw [hn152]; exact own_shb _ _
  refine g_istore A151 at_62 (ls' := #[.val (.long p0), .second, .val (.long p1), .second, .val (.long p2), .second, .val (.long p3), .second, .val (.long p4), .second, .val (.int n88), .val (.int n96), .val (.int n104), .val (.int n112), .val (.int n120), .val (.int n128), .val (.int n136), .val (.int n144), .val (.int n152), .unset, .unset, .unset, .unset, .unset, .unset, .unset, .unset, .unset, .unset, .unset, .unset, .unset, .unset, .unset, .unset, .unset, .unset, .unset, .unset, .unset, .unset, .unset, .unset, .unset, .unset, .unset, .unset, .unset, .unset, .unset, .unset, .unset]) rfl (pc' := 64) rfl ?_
  refine g_lload A151 at_64 rfl (pc' := 66) rfl ?_
  refine g_iconst A151 at_66 (v := (1 : Int32)) rfl (pc' := 67) rfl ?_
  obtain ⟨vv154, _, ⟨T154, L154, k154, n154⟩, -, X154, ⟨L154c, hQ154, l154, y154, z154⟩, st154⟩ := Jvm.LawKit.callS X146 hx (y := (⟨"com/example/orientry/orientry/MatricesProductPinLaw", "sh", "(JI)I"⟩ : MethodName)) hown (mvT hZ (hw _ (List.mem_of_getElem? (i := 0) rfl))) (mvT hZ (hw _ (List.mem_of_getElem? (i := 1) rfl))) (mvT hZ (hw _ (List.mem_of_getElem? (i := 2) rfl))) (mvT hZ (hw _ (List.mem_of_getElem? (i := 3) rfl))) (by decide) (backOf (W := 0) (rm1 l Z a0 hw [] p2 (1 : Int32) h0 n0 Z0 ) hZ (hw _ (List.mem_of_getElem? (i := 3) rfl)) (hw _ (List.mem_of_getElem? (i := 2) rfl)) (by decide) (by decide)) (g := (mkF m 67 #[.val (.long p0), .second, .val (.long p1), .second, .val (.long p2), .second, .val (.long p3), .second, .val (.long p4), .second, .val (.int n88), .val (.int n96), .val (.int n104), .val (.int n112), .val (.int n120), .val (.int n128), .val (.int n136), .val (.int n144), .val (.int n152), .unset, .unset, .unset, .unset, .unset, .unset, .unset, .unset, .unset, .unset, .unset, .unset, .unset, .unset, .unset, .unset, .unset, .unset, .unset, .unset, .unset, .unset, .unset, .unset, .unset, .unset, .unset, .unset, .unset, .unset, .unset, .unset, .unset] [(.int (1 : Int32)), (.long p2)])) rfl (by rw [hml]; rfl) (argsL := [(.long p2), (.int (1 : Int32))]) (rest := []) (lenOf pd_0 rfl) rfl (by show 2 * 0 + _ ≤ _; exact Nat.le_of_eq rfl) (hb hby at_67) (fun _ _ => ⟨rfl, e150, (by decide : 0 + 0 ≤ _), (by decide : 0 + 0 ≤ _)⟩)
  have hQ154b : Q1 Z p2 (1 : Int32) h0 n0 vv154 T154.heap L154c := hQ154
  clear hQ154
  dsimp only [Pt.U, Pt.locs, Pt.cells, Pt.slots] at X154 l154 y154 z154 st154
  subst y154 z154
  obtain ⟨rfl, Nq155, Kq156⟩ := hQ154b
  have N157 : Fr n0 L154 := by rw [l154]; exact Fr.app N149 Nq155
  refine Go.of (g' := (mkF m 70 #[.val (.long p0), .second, .val (.long p1), .second, .val (.long p2), .second, .val (.long p3), .second, .val (.long p4), .second, .val (.int n88), .val (.int n96), .val (.int n104), .val (.int n112), .val (.int n120), .val (.int n128), .val (.int n136), .val (.int n144), .val (.int n152), .unset, .unset, .unset, .unset, .unset, .unset, .unset, .unset, .unset, .unset, .unset, .unset, .unset, .unset, .unset, .unset, .unset, .unset, .unset, .unset, .unset, .unset, .unset, .unset, .unset, .unset, .unset, .unset, .unset, .unset, .unset, .unset, .unset] [(.int (own_r_rm1 p2 (1 : Int32)))])) st154 ?_
  have e158 : T154.heap = h0 := Kq156
  have A159 := (⟨X154, hx, hby⟩ : Ax _ _ _ _ _ _ _ _ _ _ _ _ _ _ _)
  obtain ⟨n160, hn160⟩ : ∃ z : Int32, z = (own_r_rm1 p2 (1 : Int32)) := ⟨_, rfl⟩
  rw [← hn160]
  have hb161 : n160.toInt.natAbs ≤ 32768 := by rw [hn160]; exact own_shb _ _
  refine g_istore A159 at_70 (ls' := #[.val (.long p0), .second, .val (.long p1), .second, .val (.long p2), .second, .val (.long p3), .second, .val (.long p4), .second, .val (.int n88), .val (.int n96), .val (.int n104), .val (.int n112), .val (.int n120), .val (.int n128), .val (.int n136), .val (.int n144), .val (.int n152), .val (.int n160), .unset, .unset, .unset, .unset, .unset, .unset, .unset, .unset, .unset, .unset, .unset, .unset, .unset, .unset, .unset, .unset, .unset, .unset, .unset, .unset, .unset, .unset, .unset, .unset, .unset, .unset, .unset, .unset, .unset, .unset, .unset, .unset]) rfl (pc' := 72) rfl ?_
  refine g_lload A159 at_72 rfl (pc' := 74) rfl ?_
  refine g_iconst A159 at_74 (v := (2 : Int32)) rfl (pc' := 75) rfl ?_
  obtain ⟨vv162, _, ⟨T162, L162, k162, n162⟩, -, X162, ⟨L162c, hQ162, l162, y162, z162⟩, st162⟩ := Jvm.LawKit.callS X154 hx (y := (⟨"com/example/orientry/orientry/MatricesProductPinLaw", "sh", "(JI)I"⟩ : MethodName)) hown (mvT hZ (hw _ (List.mem_of_getElem? (i := 0) rfl))) (mvT hZ (hw _ (List.mem_of_getElem? (i := 1) rfl))) (mvT hZ (hw _ (List.mem_of_getElem? (i := 2) rfl))) (mvT hZ (hw _ (List.mem_of_getElem? (i := 3) rfl))) (by decide) (backOf (W := 0) (rm1 l Z a0 hw [] p2 (2 : Int32) h0 n0 Z0 ) hZ (hw _ (List.mem_of_getElem? (i := 3) rfl)) (hw _ (List.mem_of_getElem? (i := 2) rfl)) (by decide) (by decide)) (g := (mkF m 75 #[.val (.long p0), .second, .val (.long p1), .second, .val (.long p2), .second, .val (.long p3), .second, .val (.long p4), .second, .val (.int n88), .val (.int n96), .val (.int n104), .val (.int n112), .val (.int n120), .val (.int n128), .val (.int n136), .val (.int n144), .val (.int n152), .val (.int n160), .unset, .unset, .unset, .unset, .unset, .unset, .unset, .unset, .unset, .unset, .unset, .unset, .unset, .unset, .unset, .unset, .unset, .unset, .unset, .unset, .unset, .unset, .unset, .unset, .unset, .unset, .unset, .unset, .unset, .unset, .unset, .unset] [(.int (2 : Int32)), (.long p2)])) rfl (by rw [hml]; rfl) (argsL := [(.long p2), (.int (2 : Int32))]) (rest := []) (lenOf pd_0 rfl) rfl (by show 2 * 0 + _ ≤ _; exact Nat.le_of_eq rfl) (hb hby at_75) (fun _ _ => ⟨rfl, e158, (by decide : 0 + 0 ≤ _), (by decide : 0 + 0 ≤ _)⟩)
  have hQ162b : Q1 Z p2 (2 : Int32) h0 n0 vv162 T162.heap L162c := hQ162
  clear hQ162
  dsimp only [Pt.U, Pt.locs, Pt.cells, Pt.slots] at X162 l162 y162 z162 st162
  subst y162 z162
  obtain ⟨rfl, Nq163, Kq164⟩ := hQ162b
  have N165 : Fr n0 L162 := by rw [l162]; exact Fr.app N157 Nq163
  refine Go.of (g' := (mkF m 78 #[.val (.long p0), .second, .val (.long p1), .second, .val (.long p2), .second, .val (.long p3), .second, .val (.long p4), .second, .val (.int n88), .val (.int n96), .val (.int n104), .val (.int n112), .val (.int n120), .val (.int n128), .val (.int n136), .val (.int n144), .val (.int n152), .val (.int n160), .unset, .unset, .unset, .unset, .unset, .unset, .unset, .unset, .unset, .unset, .unset, .unset, .unset, .unset, .unset, .unset, .unset, .unset, .unset, .unset, .unset, .unset, .unset, .unset, .unset, .unset, .unset, .unset, .unset, .unset, .unset, .unset] [(.int (own_r_rm1 p2 (2 : Int32)))])) st162 ?_
  have e166 : T162.heap = h0 := Kq164
  have A167 := (⟨X162, hx, hby⟩ : Ax _ _ _ _ _ _ _ _ _ _ _ _ _ _ _)
  obtain ⟨n168, hn168⟩ : ∃ z : Int32, z = (own_r_rm1 p2 (2 : Int32)) := ⟨_, rfl⟩
  rw [← hn168]
  have hb169 : n168.toInt.natAbs ≤ 32768 := by rw [hn168]; exact own_shb _ _
  refine g_istore A167 at_78 (ls' := #[.val (.long p0), .second, .val (.long p1), .second, .val (.long p2), .second, .val (.long p3), .second, .val (.long p4), .second, .val (.int n88), .val (.int n96), .val (.int n104), .val (.int n112), .val (.int n120), .val (.int n128), .val (.int n136), .val (.int n144), .val (.int n152), .val (.int n160), .val (.int n168), .unset, .unset, .unset, .unset, .unset, .unset, .unset, .unset, .unset, .unset, .unset, .unset, .unset, .unset, .unset, .unset, .unset, .unset, .unset, .unset, .unset, .unset, .unset, .unset, .unset, .unset, .unset, .unset, .unset, .unset, .unset]) rfl (pc' := 80) rfl ?_
  refine g_lload A167 at_80 rfl (pc' := 82) rfl ?_
  refine g_iconst A167 at_82 (v := (3 : Int32)) rfl (pc' := 83) rfl ?_
  obtain ⟨vv170, _, ⟨T170, L170, k170, n170⟩, -, X170, ⟨L170c, hQ170, l170, y170, z170⟩, st170⟩ := Jvm.LawKit.callS X162 hx (y := (⟨"com/example/orientry/orientry/MatricesProductPinLaw", "sh", "(JI)I"⟩ : MethodName)) hown (mvT hZ (hw _ (List.mem_of_getElem? (i := 0) rfl))) (mvT hZ (hw _ (List.mem_of_getElem? (i := 1) rfl))) (mvT hZ (hw _ (List.mem_of_getElem? (i := 2) rfl))) (mvT hZ (hw _ (List.mem_of_getElem? (i := 3) rfl))) (by decide) (backOf (W := 0) (rm1 l Z a0 hw [] p2 (3 : Int32) h0 n0 Z0 ) hZ (hw _ (List.mem_of_getElem? (i := 3) rfl)) (hw _ (List.mem_of_getElem? (i := 2) rfl)) (by decide) (by decide)) (g := (mkF m 83 #[.val (.long p0), .second, .val (.long p1), .second, .val (.long p2), .second, .val (.long p3), .second, .val (.long p4), .second, .val (.int n88), .val (.int n96), .val (.int n104), .val (.int n112), .val (.int n120), .val (.int n128), .val (.int n136), .val (.int n144), .val (.int n152), .val (.int n160), .val (.int n168), .unset, .unset, .unset, .unset, .unset, .unset, .unset, .unset, .unset, .unset, .unset, .unset, .unset, .unset, .unset, .unset, .unset, .unset, .unset, .unset, .unset, .unset, .unset, .unset, .unset, .unset, .unset, .unset, .unset, .unset, .unset] [(.int (3 : Int32)), (.long p2)])) rfl (by rw [hml]; rfl) (argsL := [(.long p2), (.int (3 : Int32))]) (rest := []) (lenOf pd_0 rfl) rfl (by show 2 * 0 + _ ≤ _; exact Nat.le_of_eq rfl) (hb hby at_83) (fun _ _ => ⟨rfl, e166, (by decide : 0 + 0 ≤ _), (by decide : 0 + 0 ≤ _)⟩)
  have hQ170b : Q1 Z p2 (3 : Int32) h0 n0 vv170 T170.heap L170c := hQ170
  clear hQ170
  dsimp only [Pt.U, Pt.locs, Pt.cells, Pt.slots] at X170 l170 y170 z170 st170
  subst y170 z170
  obtain ⟨rfl, Nq171, Kq172⟩ := hQ170b
  have N173 : Fr n0 L170 := by rw [l170]; exact Fr.app N165 Nq171
  refine Go.of (g' := (mkF m 86 #[.val (.long p0), .second, .val (.long p1), .second, .val (.long p2), .second, .val (.long p3), .second, .val (.long p4), .second, .val (.int n88), .val (.int n96), .val (.int n104), .val (.int n112), .val (.int n120), .val (.int n128), .val (.int n136), .val (.int n144), .val (.int n152), .val (.int n160), .val (.int n168), .unset, .unset, .unset, .unset, .unset, .unset, .unset, .unset, .unset, .unset, .unset, .unset, .unset, .unset, .unset, .unset, .unset, .unset, .unset, .unset, .unset, .unset, .unset, .unset, .unset, .unset, .unset, .unset, .unset, .unset, .unset] [(.int (own_r_rm1 p2 (3 : Int32)))])) st170 ?_
  have e174 : T170.heap = h0 := Kq172
  have A175 := (⟨X170, hx, hby⟩ : Ax _ _ _ _ _ _ _ _ _ _ _ _ _ _ _)
  obtain ⟨n176, hn176⟩ : ∃ z : Int32, z = (own_r_rm1 p2 (3 : Int32)) := ⟨_, rfl⟩
  rw [← hn176]
  have hb177 : n176.toInt.natAbs ≤ 32768 := by rw [hn176]; exact own_shb _ _
  refine g_istore A175 at_86 (ls' := #[.val (.long p0), .second, .val (.long p1), .second, .val (.long p2), .second, .val (.long p3), .second, .val (.long p4), .second, .val (.int n88), .val (.int n96), .val (.int n104), .val (.int n112), .val (.int n120), .val (.int n128), .val (.int n136), .val (.int n144), .val (.int n152), .val (.int n160), .val (.int n168), .val (.int n176), .unset, .unset, .unset, .unset, .unset, .unset, .unset, .unset, .unset, .unset, .unset, .unset, .unset, .unset, .unset, .unset, .unset, .unset, .unset, .unset, .unset, .unset, .unset, .unset, .unset, .unset, .unset, .unset, .unset, .unset]) rfl (pc' := 88) rfl ?_
  refine g_lload A175 at_88 rfl (pc' := 90) rfl ?_
  refine g_iconst A175 at_90 (v := (0 : Int32)) rfl (pc' := 91) rfl ?_
  obtain ⟨vv178, _, ⟨T178, L178, k178, n178⟩, -, X178, ⟨L178c, hQ178, l178, y178, z178⟩, st178⟩ := Jvm.LawKit.callS X170 hx (y := (⟨"com/example/orientry/orientry/MatricesProductPinLaw", "sh", "(JI)I"⟩ : MethodName)) hown (mvT hZ (hw _ (List.mem_of_getElem? (i := 0) rfl))) (mvT hZ (hw _ (List.mem_of_getElem? (i := 1) rfl))) (mvT hZ (hw _ (List.mem_of_getElem? (i := 2) rfl))) (mvT hZ (hw _ (List.mem_of_getElem? (i := 3) rfl))) (by decide) (backOf (W := 0) (rm1 l Z a0 hw [] p3 (0 : Int32) h0 n0 Z0 ) hZ (hw _ (List.mem_of_getElem? (i := 3) rfl)) (hw _ (List.mem_of_getElem? (i := 2) rfl)) (by decide) (by decide)) (g := (mkF m 91 #[.val (.long p0), .second, .val (.long p1), .second, .val (.long p2), .second, .val (.long p3), .second, .val (.long p4), .second, .val (.int n88), .val (.int n96), .val (.int n104), .val (.int n112), .val (.int n120), .val (.int n128), .val (.int n136), .val (.int n144), .val (.int n152), .val (.int n160), .val (.int n168), .val (.int n176), .unset, .unset, .unset, .unset, .unset, .unset, .unset, .unset, .unset, .unset, .unset, .unset, .unset, .unset, .unset, .unset, .unset, .unset, .unset, .unset, .unset, .unset, .unset, .unset, .unset, .unset, .unset, .unset, .unset, .unset] [(.int (0 : Int32)), (.long p3)])) rfl (by rw [hml]; rfl) (argsL := [(.long p3), (.int (0 : Int32))]) (rest := []) (lenOf pd_0 rfl) rfl (by show 2 * 0 + _ ≤ _; exact Nat.le_of_eq rfl) (hb hby at_91) (fun _ _ => ⟨rfl, e174, (by decide : 0 + 0 ≤ _), (by decide : 0 + 0 ≤ _)⟩)
  have hQ178b : Q1 Z p3 (0 : Int32) h0 n0 vv178 T178.heap L178c := hQ178
  clear hQ178
  dsimp only [Pt.U, Pt.locs, Pt.cells, Pt.slots] at X178 l178 y178 z178 st178
  subst y178 z178
  obtain ⟨rfl, Nq179, Kq180⟩ := hQ178b
  have N181 : Fr n0 L178 := by rw [l178]; exact Fr.app N173 Nq179
  refine Go.of (g' := (mkF m 94 #[.val (.long p0), .second, .val (.long p1), .second, .val (.long p2), .second, .val (.long p3), .second, .val (.long p4), .second, .val (.int n88), .val (.int n96), .val (.int n104), .val (.int n112), .val (.int n120), .val (.int n128), .val (.int n136), .val (.int n144), .val (.int n152), .val (.int n160), .val (.int n168), .val (.int n176), .unset, .unset, .unset, .unset, .unset, .unset, .unset, .unset, .unset, .unset, .unset, .unset, .unset, .unset, .unset, .unset, .unset, .unset, .unset, .unset, .unset, .unset, .unset, .unset, .unset, .unset, .unset, .unset, .unset, .unset] [(.int (own_r_rm1 p3 (0 : Int32)))])) st178 ?_
  have e182 : T178.heap = h0 := Kq180
  have A183 := (⟨X178, hx, hby⟩ : Ax _ _ _ _ _ _ _ _ _ _ _ _ _ _ _)
  obtain ⟨n184, hn184⟩ : ∃ z : Int32, z = (own_r_rm1 p3 (0 : Int32)) := ⟨_, rfl⟩
  rw [← hn184]
  have hb185 : n184.toInt.natAbs ≤ 32768 := by rw [hn184]; exact own_shb _ _
  refine g_istore A183 at_94 (ls' := #[.val (.long p0), .second, .val (.long p1), .second, .val (.long p2), .second, .val (.long p3), .second, .val (.long p4), .second, .val (.int n88), .val (.int n96), .val (.int n104), .val (.int n112), .val (.int n120), .val (.int n128), .val (.int n136), .val (.int n144), .val (.int n152), .val (.int n160), .val (.int n168), .val (.int n176), .val (.int n184), .unset, .unset, .unset, .unset, .unset, .unset, .unset, .unset, .unset, .unset, .unset, .unset, .unset, .unset, .unset, .unset, .unset, .unset, .unset, .unset, .unset, .unset, .unset, .unset, .unset, .unset, .unset, .unset, .unset]) rfl (pc' := 96) rfl ?_
  refine g_lload A183 at_96 rfl (pc' := 98) rfl ?_
  refine g_iconst A183 at_98 (v := (1 : Int32)) rfl (pc' := 99) rfl ?_
  obtain ⟨vv186, _, ⟨T186, L186, k186, n186⟩, -, X186, ⟨L186c, hQ186, l186, y186, z186⟩, st186⟩ := Jvm.LawKit.callS X178 hx (y := (⟨"com/example/orientry/orientry/MatricesProductPinLaw", "sh", "(JI)I"⟩ : MethodName)) hown (mvT hZ (hw _ (List.mem_of_getElem? (i := 0) rfl))) (mvT hZ (hw _ (List.mem_of_getElem? (i := 1) rfl))) (mvT hZ (hw _ (List.mem_of_getElem? (i := 2) rfl))) (mvT hZ (hw _ (List.mem_of_getElem? (i := 3) rfl))) (by decide) (backOf (W := 0) (rm1 l Z a0 hw [] p3 (1 : Int32) h0 n0 Z0 ) hZ (hw _ (List.mem_of_getElem? (i := 3) rfl)) (hw _ (List.mem_of_getElem? (i := 2) rfl)) (by decide) (by decide)) (g := (mkF m 99 #[.val (.long p0), .second, .val (.long p1), .second, .val (.long p2), .second, .val (.long p3), .second, .val (.long p4), .second, .val (.int n88), .val (.int n96), .val (.int n104), .val (.int n112), .val (.int n120), .val (.int n128), .val (.int n136), .val (.int n144), .val (.int n152), .val (.int n160), .val (.int n168), .val (.int n176), .val (.int n184), .unset, .unset, .unset, .unset, .unset, .unset, .unset, .unset, .unset, .unset, .unset, .unset, .unset, .unset, .unset, .unset, .unset, .unset, .unset, .unset, .unset, .unset, .unset, .unset, .unset, .unset, .unset, .unset, .unset] [(.int (1 : Int32)), (.long p3)])) rfl (by rw [hml]; rfl) (argsL := [(.long p3), (.int (1 : Int32))]) (rest := []) (lenOf pd_0 rfl) rfl (by show 2 * 0 + _ ≤ _; exact Nat.le_of_eq rfl) (hb hby at_99) (fun _ _ => ⟨rfl, e182, (by decide : 0 + 0 ≤ _), (by decide : 0 + 0 ≤ _)⟩)
  have hQ186b : Q1 Z p3 (1 : Int32) h0 n0 vv186 T186.heap L186c := hQ186
  clear hQ186
  dsimp only [Pt.U, Pt.locs, Pt.cells, Pt.slots] at X186 l186 y186 z186 st186
  subst y186 z186
  obtain ⟨rfl, Nq187, Kq188⟩ := hQ186b
  have N189 : Fr n0 L186 := by rw [l186]; exact Fr.app N181 Nq187
  refine Go.of (g' := (mkF m 102 #[.val (.long p0), .second, .val (.long p1), .second, .val (.long p2), .second, .val (.long p3), .second, .val (.long p4), .second, .val (.int n88), .val (.int n96), .val (.int n104), .val (.int n112), .val (.int n120), .val (.int n128), .val (.int n136), .val (.int n144), .val (.int n152), .val (.int n160), .val (.int n168), .val (.int n176), .val (.int n184), .unset, .unset, .unset, .unset, .unset, .unset, .unset, .unset, .unset, .unset, .unset, .unset, .unset, .unset, .unset, .unset, .unset, .unset, .unset, .unset, .unset, .unset, .unset, .unset, .unset, .unset, .unset, .unset, .unset] [(.int (own_r_rm1 p3 (1 : Int32)))])) st186 ?_
  have e190 : T186.heap = h0 := Kq188
  have A191 := (⟨X186, hx, hby⟩ : Ax _ _ _ _ _ _ _ _ _ _ _ _ _ _ _)
  obtain ⟨n192, hn192⟩ : ∃ z : Int32, z = (own_r_rm1 p3 (1 : Int32)) := ⟨_, rfl⟩
  rw [← hn192]
  have hb193 : n192.toInt.natAbs ≤ 32768 := by rw [hn192]; exact own_shb _ _
  refine g_istore A191 at_102 (ls' := #[.val (.long p0), .second, .val (.long p1), .second, .val (.long p2), .second, .val (.long p3), .second, .val (.long p4), .second, .val (.int n88), .val (.int n96), .val (.int n104), .val (.int n112), .val (.int n120), .val (.int n128), .val (.int n136), .val (.int n144), .val (.int n152), .val (.int n160), .val (.int n168), .val (.int n176), .val (.int n184), .val (.int n192), .unset, .unset, .unset, .unset, .unset, .unset, .unset, .unset, .unset, .unset, .unset, .unset, .unset, .unset, .unset, .unset, .unset, .unset, .unset, .unset, .unset, .unset, .unset, .unset, .unset, .unset, .unset, .unset]) rfl (pc' := 104) rfl ?_
  refine g_lload A191 at_104 rfl (pc' := 106) rfl ?_
  refine g_iconst A191 at_106 (v := (2 : Int32)) rfl (pc' := 107) rfl ?_
  obtain ⟨vv194, _, ⟨T194, L194, k194, n194⟩, -, X194, ⟨L194c, hQ194, l194, y194, z194⟩, st194⟩ := Jvm.LawKit.callS X186 hx (y := (⟨"com/example/orientry/orientry/MatricesProductPinLaw", "sh", "(JI)I"⟩ : MethodName)) hown (mvT hZ (hw _ (List.mem_of_getElem? (i := 0) rfl))) (mvT hZ (hw _ (List.mem_of_getElem? (i := 1) rfl))) (mvT hZ (hw _ (List.mem_of_getElem? (i := 2) rfl))) (mvT hZ (hw _ (List.mem_of_getElem? (i := 3) rfl))) (by decide) (backOf (W := 0) (rm1 l Z a0 hw [] p3 (2 : Int32) h0 n0 Z0 ) hZ (hw _ (List.mem_of_getElem? (i := 3) rfl)) (hw _ (List.mem_of_getElem? (i := 2) rfl)) (by decide) (by decide)) (g := (mkF m 107 #[.val (.long p0), .second, .val (.long p1), .second, .val (.long p2), .second, .val (.long p3), .second, .val (.long p4), .second, .val (.int n88), .val (.int n96), .val (.int n104), .val (.int n112), .val (.int n120), .val (.int n128), .val (.int n136), .val (.int n144), .val (.int n152), .val (.int n160), .val (.int n168), .val (.int n176), .val (.int n184), .val (.int n192), .unset, .unset, .unset, .unset, .unset, .unset, .unset, .unset, .unset, .unset, .unset, .unset, .unset, .unset, .unset, .unset, .unset, .unset, .unset, .unset, .unset, .unset, .unset, .unset, .unset, .unset, .unset, .unset] [(.int (2 : Int32)), (.long p3)])) rfl (by rw [hml]; rfl) (argsL := [(.long p3), (.int (2 : Int32))]) (rest := []) (lenOf pd_0 rfl) rfl (by show 2 * 0 + _ ≤ _; exact Nat.le_of_eq rfl) (hb hby at_107) (fun _ _ => ⟨rfl, e190, (by decide : 0 + 0 ≤ _), (by decide : 0 + 0 ≤ _)⟩)
  have hQ194b : Q1 Z p3 (2 : Int32) h0 n0 vv194 T194.heap L194c := hQ194
  clear hQ194
  dsimp only [Pt.U, Pt.locs, Pt.cells, Pt.slots] at X194 l194 y194 z194 st194
  subst y194 z194
  obtain ⟨rfl, Nq195, Kq196⟩ := hQ194b
  have N197 : Fr n0 L194 := by rw [l194]; exact Fr.app N189 Nq195
  refine Go.of (g' := (mkF m 110 #[.val (.long p0), .second, .val (.long p1), .second, .val (.long p2), .second, .val (.long p3), .second, .val (.long p4), .second, .val (.int n88), .val (.int n96), .val (.int n104), .val (.int n112), .val (.int n120), .val (.int n128), .val (.int n136), .val (.int n144), .val (.int n152), .val (.int n160), .val (.int n168), .val (.int n176), .val (.int n184), .val (.int n192), .unset, .unset, .unset, .unset, .unset, .unset, .unset, .unset, .unset, .unset, .unset, .unset, .unset, .unset, .unset, .unset, .unset, .unset, .unset, .unset, .unset, .unset, .unset, .unset, .unset, .unset, .unset, .unset] [(.int (own_r_rm1 p3 (2 : Int32)))])) st194 ?_
  have e198 : T194.heap = h0 := Kq196
  have A199 := (⟨X194, hx, hby⟩ : Ax _ _ _ _ _ _ _ _ _ _ _ _ _ _ _)
  obtain ⟨n200, hn200⟩ : ∃ z : Int32, z = (own_r_rm1 p3 (2 : Int32)) := ⟨_, rfl⟩
  rw [← hn200]
  have hb201 : n200.toInt.natAbs ≤ 32768 := by rw [hn200]; exact own_shb _ _
  refine g_istore A199 at_110 (ls' := #[.val (.long p0), .second, .val (.long p1), .second, .val (.long p2), .second, .val (.long p3), .second, .val (.long p4), .second, .val (.int n88), .val (.int n96), .val (.int n104), .val (.int n112), .val (.int n120), .val (.int n128), .val (.int n136), .val (.int n144), .val (.int n152), .val (.int n160), .val (.int n168), .val (.int n176), .val (.int n184), .val (.int n192), .val (.int n200), .unset, .unset, .unset, .unset, .unset, .unset, .unset, .unset, .unset, .unset, .unset, .unset, .unset, .unset, .unset, .unset, .unset, .unset, .unset, .unset, .unset, .unset, .unset, .unset, .unset, .unset, .unset]) rfl (pc' := 112) rfl ?_
  refine g_lload A199 at_112 rfl (pc' := 114) rfl ?_
  refine g_iconst A199 at_114 (v := (3 : Int32)) rfl (pc' := 115) rfl ?_
  obtain ⟨vv202, _, ⟨T202, L202, k202, n202⟩, -, X202, ⟨L202c, hQ202, l202, y202, z202⟩, st202⟩ := Jvm.LawKit.callS X194 hx (y := (⟨"com/example/orientry/orientry/MatricesProductPinLaw", "sh", "(JI)I"⟩ : MethodName)) hown (mvT hZ (hw _ (List.mem_of_getElem? (i := 0) rfl))) (mvT hZ (hw _ (List.mem_of_getElem? (i := 1) rfl))) (mvT hZ (hw _ (List.mem_of_getElem? (i := 2) rfl))) (mvT hZ (hw _ (List.mem_of_getElem? (i := 3) rfl))) (by decide) (backOf (W := 0) (rm1 l Z a0 hw [] p3 (3 : Int32) h0 n0 Z0 ) hZ (hw _ (List.mem_of_getElem? (i := 3) rfl)) (hw _ (List.mem_of_getElem? (i := 2) rfl)) (by decide) (by decide)) (g := (mkF m 115 #[.val (.long p0), .second, .val (.long p1), .second, .val (.long p2), .second, .val (.long p3), .second, .val (.long p4), .second, .val (.int n88), .val (.int n96), .val (.int n104), .val (.int n112), .val (.int n120), .val (.int n128), .val (.int n136), .val (.int n144), .val (.int n152), .val (.int n160), .val (.int n168), .val (.int n176), .val (.int n184), .val (.int n192), .val (.int n200), .unset, .unset, .unset, .unset, .unset, .unset, .unset, .unset, .unset, .unset, .unset, .unset, .unset, .unset, .unset, .unset, .unset, .unset, .unset, .unset, .unset, .unset, .unset, .unset, .unset, .unset, .unset] [(.int (3 : Int32)), (.long p3)])) rfl (by rw [hml]; rfl) (argsL := [(.long p3), (.int (3 : Int32))]) (rest := []) (lenOf pd_0 rfl) rfl (by show 2 * 0 + _ ≤ _; exact Nat.le_of_eq rfl) (hb hby at_115) (fun _ _ => ⟨rfl, e198, (by decide : 0 + 0 ≤ _), (by decide : 0 + 0 ≤ _)⟩)
  have hQ202b : Q1 Z p3 (3 : Int32) h0 n0 vv202 T202.heap L202c := hQ202
  clear hQ202
  dsimp only [Pt.U, Pt.locs, Pt.cells, Pt.slots] at X202 l202 y202 z202 st202
  subst y202 z202
  obtain ⟨rfl, Nq203, Kq204⟩ := hQ202b
  have N205 : Fr n0 L202 := by rw [l202]; exact Fr.app N197 Nq203
  refine Go.of (g' := (mkF m 118 #[.val (.long p0), .second, .val (.long p1), .second, .val (.long p2), .second, .val (.long p3), .second, .val (.long p4), .second, .val (.int n88), .val (.int n96), .val (.int n104), .val (.int n112), .val (.int n120), .val (.int n128), .val (.int n136), .val (.int n144), .val (.int n152), .val (.int n160), .val (.int n168), .val (.int n176), .val (.int n184), .val (.int n192), .val (.int n200), .unset, .unset, .unset, .unset, .unset, .unset, .unset, .unset, .unset, .unset, .unset, .unset, .unset, .unset, .unset, .unset, .unset, .unset, .unset, .unset, .unset, .unset, .unset, .unset, .unset, .unset, .unset] [(.int (own_r_rm1 p3 (3 : Int32)))])) st202 ?_
  have e206 : T202.heap = h0 := Kq204
  have A207 := (⟨X202, hx, hby⟩ : Ax _ _ _ _ _ _ _ _ _ _ _ _ _ _ _)
  obtain ⟨n208, hn208⟩ : ∃ z : Int32, z = (own_r_rm1 p3 (3 : Int32)) := ⟨_, rfl⟩
  rw [← hn208]
  have hb209 : n208.toInt.natAbs ≤ 32768 := by rw [hn208]; exact own_shb _ _
  refine g_istore A207 at_118 (ls' := #[.val (.long p0), .second, .val (.long p1), .second, .val (.long p2), .second, .val (.long p3), .second, .val (.long p4), .second, .val (.int n88), .val (.int n96), .val (.int n104), .val (.int n112), .val (.int n120), .val (.int n128), .val (.int n136), .val (.int n144), .val (.int n152), .val (.int n160), .val (.int n168), .val (.int n176), .val (.int n184), .val (.int n192), .val (.int n200), .val (.int n208), .unset, .unset, .unset, .unset, .unset, .unset, .unset, .unset, .unset, .unset, .unset, .unset, .unset, .unset, .unset, .unset, .unset, .unset, .unset, .unset, .unset, .unset, .unset, .unset, .unset, .unset]) rfl (pc' := 120) rfl ?_
  refine g_lload A207 at_120 rfl (pc' := 122) rfl ?_
  refine g_iconst A207 at_122 (v := (0 : Int32)) rfl (pc' := 123) rfl ?_
  obtain ⟨vv210, _, ⟨T210, L210, k210, n210⟩, -, X210, ⟨L210c, hQ210, l210, y210, z210⟩, st210⟩ := Jvm.LawKit.callS X202 hx (y := (⟨"com/example/orientry/orientry/MatricesProductPinLaw", "sh", "(JI)I"⟩ : MethodName)) hown (mvT hZ (hw _ (List.mem_of_getElem? (i := 0) rfl))) (mvT hZ (hw _ (List.mem_of_getElem? (i := 1) rfl))) (mvT hZ (hw _ (List.mem_of_getElem? (i := 2) rfl))) (mvT hZ (hw _ (List.mem_of_getElem? (i := 3) rfl))) (by decide) (backOf (W := 0) (rm1 l Z a0 hw [] p4 (0 : Int32) h0 n0 Z0 ) hZ (hw _ (List.mem_of_getElem? (i := 3) rfl)) (hw _ (List.mem_of_getElem? (i := 2) rfl)) (by decide) (by decide)) (g := (mkF m 123 #[.val (.long p0), .second, .val (.long p1), .second, .val (.long p2), .second, .val (.long p3), .second, .val (.long p4), .second, .val (.int n88), .val (.int n96), .val (.int n104), .val (.int n112), .val (.int n120), .val (.int n128), .val (.int n136), .val (.int n144), .val (.int n152), .val (.int n160), .val (.int n168), .val (.int n176), .val (.int n184), .val (.int n192), .val (.int n200), .val (.int n208), .unset, .unset, .unset, .unset, .unset, .unset, .unset, .unset, .unset, .unset, .unset, .unset, .unset, .unset, .unset, .unset, .unset, .unset, .unset, .unset, .unset, .unset, .unset, .unset, .unset, .unset] [(.int (0 : Int32)), (.long p4)])) rfl (by rw [hml]; rfl) (argsL := [(.long p4), (.int (0 : Int32))]) (rest := []) (lenOf pd_0 rfl) rfl (by show 2 * 0 + _ ≤ _; exact Nat.le_of_eq rfl) (hb hby at_123) (fun _ _ => ⟨rfl, e206, (by decide : 0 + 0 ≤ _), (by decide : 0 + 0 ≤ _)⟩)
  have hQ210b : Q1 Z p4 (0 : Int32) h0 n0 vv210 T210.heap L210c := hQ210
  clear hQ210
  dsimp only [Pt.U, Pt.locs, Pt.cells, Pt.slots] at X210 l210 y210 z210 st210
  subst y210 z210
  obtain ⟨rfl, Nq211, Kq212⟩ := hQ210b
  have N213 : Fr n0 L210 := by rw [l210]; exact Fr.app N205 Nq211
  refine Go.of (g' := (mkF m 126 #[.val (.long p0), .second, .val (.long p1), .second, .val (.long p2), .second, .val (.long p3), .second, .val (.long p4), .second, .val (.int n88), .val (.int n96), .val (.int n104), .val (.int n112), .val (.int n120), .val (.int n128), .val (.int n136), .val (.int n144), .val (.int n152), .val (.int n160), .val (.int n168), .val (.int n176), .val (.int n184), .val (.int n192), .val (.int n200), .val (.int n208), .unset, .unset, .unset, .unset, .unset, .unset, .unset, .unset, .unset, .unset, .unset, .unset, .unset, .unset, .unset, .unset, .unset, .unset, .unset, .unset, .unset, .unset, .unset, .unset, .unset, .unset] [(.int (own_r_rm1 p4 (0 : Int32)))])) st210 ?_
  have e214 : T210.heap = h0 := Kq212
  have A215 := (⟨X210, hx, hby⟩ : Ax _ _ _ _ _ _ _ _ _ _ _ _ _ _ _)
  obtain ⟨n216, hn216⟩ : ∃ z : Int32, z = (own_r_rm1 p4 (0 : Int32)) := ⟨_, rfl⟩
  rw [← hn216]
  have hb217 : n216.toInt.natAbs ≤ 32768 := by rw [hn216]; exact own_shb _ _
  refine g_istore A215 at_126 (ls' := #[.val (.long p0), .second, .val (.long p1), .second, .val (.long p2), .second, .val (.long p3), .second, .val (.long p4), .second, .val (.int n88), .val (.int n96), .val (.int n104), .val (.int n112), .val (.int n120), .val (.int n128), .val (.int n136), .val (.int n144), .val (.int n152), .val (.int n160), .val (.int n168), .val (.int n176), .val (.int n184), .val (.int n192), .val (.int n200), .val (.int n208), .val (.int n216), .unset, .unset, .unset, .unset, .unset, .unset, .unset, .unset, .unset, .unset, .unset, .unset, .unset, .unset, .unset, .unset, .unset, .unset, .unset, .unset, .unset, .unset, .unset, .unset, .unset]) rfl (pc' := 128) rfl ?_
  refine g_lload A215 at_128 rfl (pc' := 130) rfl ?_
  refine g_iconst A215 at_130 (v := (1 : Int32)) rfl (pc' := 131) rfl ?_
  obtain ⟨vv218, _, ⟨T218, L218, k218, n218⟩, -, X218, ⟨L218c, hQ218, l218, y218, z218⟩, st218⟩ := Jvm.LawKit.callS X210 hx (y := (⟨"com/example/orientry/orientry/MatricesProductPinLaw", "sh", "(JI)I"⟩ : MethodName)) hown (mvT hZ (hw _ (List.mem_of_getElem? (i := 0) rfl))) (mvT hZ (hw _ (List.mem_of_getElem? (i := 1) rfl))) (mvT hZ (hw _ (List.mem_of_getElem? (i := 2) rfl))) (mvT hZ (hw _ (List.mem_of_getElem? (i := 3) rfl))) (by decide) (backOf (W := 0) (rm1 l Z a0 hw [] p4 (1 : Int32) h0 n0 Z0 ) hZ (hw _ (List.mem_of_getElem? (i := 3) rfl)) (hw _ (List.mem_of_getElem? (i := 2) rfl)) (by decide) (by decide)) (g := (mkF m 131 #[.val (.long p0), .second, .val (.long p1), .second, .val (.long p2), .second, .val (.long p3), .second, .val (.long p4), .second, .val (.int n88), .val (.int n96), .val (.int n104), .val (.int n112), .val (.int n120), .val (.int n128), .val (.int n136), .val (.int n144), .val (.int n152), .val (.int n160), .val (.int n168), .val (.int n176), .val (.int n184), .val (.int n192), .val (.int n200), .val (.int n208), .val (.int n216), .unset, .unset, .unset, .unset, .unset, .unset, .unset, .unset, .unset, .unset, .unset, .unset, .unset, .unset, .unset, .unset, .unset, .unset, .unset, .unset, .unset, .unset, .unset, .unset, .unset] [(.int (1 : Int32)), (.long p4)])) rfl (by rw [hml]; rfl) (argsL := [(.long p4), (.int (1 : Int32))]) (rest := []) (lenOf pd_0 rfl) rfl (by show 2 * 0 + _ ≤ _; exact Nat.le_of_eq rfl) (hb hby at_131) (fun _ _ => ⟨rfl, e214, (by decide : 0 + 0 ≤ _), (by decide : 0 + 0 ≤ _)⟩)
  have hQ218b : Q1 Z p4 (1 : Int32) h0 n0 vv218 T218.heap L218c := hQ218
  clear hQ218
  dsimp only [Pt.U, Pt.locs, Pt.cells, Pt.slots] at X218 l218 y218 z218 st218
  subst y218 z218
  obtain ⟨rfl, Nq219, Kq220⟩ := hQ218b
  have N221 : Fr n0 L218 := by rw [l218]; exact Fr.app N213 Nq219
  refine Go.of (g' := (mkF m 134 #[.val (.long p0), .second, .val (.long p1), .second, .val (.long p2), .second, .val (.long p3), .second, .val (.long p4), .second, .val (.int n88), .val (.int n96), .val (.int n104), .val (.int n112), .val (.int n120), .val (.int n128), .val (.int n136), .val (.int n144), .val (.int n152), .val (.int n160), .val (.int n168), .val (.int n176), .val (.int n184), .val (.int n192), .val (.int n200), .val (.int n208), .val (.int n216), .unset, .unset, .unset, .unset, .unset, .unset, .unset, .unset, .unset, .unset, .unset, .unset, .unset, .unset, .unset, .unset, .unset, .unset, .unset, .unset, .unset, .unset, .unset, .unset, .unset] [(.int (own_r_rm1 p4 (1 : Int32)))])) st218 ?_
  have e222 : T218.heap = h0 := Kq220
  have A223 := (⟨X218, hx, hby⟩ : Ax _ _ _ _ _ _ _ _ _ _ _ _ _ _ _)
  obtain ⟨n224, hn224⟩ : ∃ z : Int32, z = (own_r_rm1 p4 (1 : Int32)) := ⟨_, rfl⟩
  rw [← hn224]
  have hb225 : n224.toInt.natAbs ≤ 32768 := by rw [hn224]; exact own_shb _ _
  refine g_istore A223 at_134 (ls' := #[.val (.long p0), .second, .val (.long p1), .second, .val (.long p2), .second, .val (.long p3), .second, .val (.long p4), .second, .val (.int n88), .val (.int n96), .val (.int n104), .val (.int n112), .val (.int n120), .val (.int n128), .val (.int n136), .val (.int n144), .val (.int n152), .val (.int n160), .val (.int n168), .val (.int n176), .val (.int n184), .val (.int n192), .val (.int n200), .val (.int n208), .val (.int n216), .val (.int n224), .unset, .unset, .unset, .unset, .unset, .unset, .unset, .unset, .unset, .unset, .unset, .unset, .unset, .unset, .unset, .unset, .unset, .unset, .unset, .unset, .unset, .unset, .unset, .unset]) rfl (pc' := 136) rfl ?_
  refine g_bipush A223 at_136 (v := (9 : Int32)) rfl (pc' := 138) rfl ?_
  obtain ⟨T226, h226, k226, X226, e226, E226, Ar226, st226⟩ := newP X218 hx hZ (hw _ (List.mem_of_getElem? (i := 4) rfl)) e222 (g := (mkF m 138 #[.val (.long p0), .second, .val (.long p1), .second, .val (.long p2), .second, .val (.long p3), .second, .val (.long p4), .second, .val (.int n88), .val (.int n96), .val (.int n104), .val (.int n112), .val (.int n120), .val (.int n128), .val (.int n136), .val (.int n144), .val (.int n152), .val (.int n160), .val (.int n168), .val (.int n176), .val (.int n184), .val (.int n192), .val (.int n200), .val (.int n208), .val (.int n216), .val (.int n224), .unset, .unset, .unset, .unset, .unset, .unset, .unset, .unset, .unset, .unset, .unset, .unset, .unset, .unset, .unset, .unset, .unset, .unset, .unset, .unset, .unset, .unset, .unset, .unset] [(.int (9 : Int32))])) rfl (hb hby at_138) rfl (by decide) (cap := 9) (by decide) (by decide) (by decide) (by decide)
  obtain ⟨b227, eb227⟩ : ∃ z, z = h0.size := ⟨_, rfl⟩
  rw [← eb227] at Ar226 st226
  have g228 : n0 ≤ b227 := by rw [eb227]; exact Z0
  have gh229 : h0.size ≤ b227 := by rw [eb227]; exact (Keep.refl h0 []).1
  have K230 : Keep h0 h226 [] := (Keep.refl h0 []).ext E226
  have Z231 : n0 ≤ h226.size := Nat.le_trans Z0 E226.1
  have V232 : Dar Z h226 b227 .double 9 (fun _ => .double (0 : UInt64)) := Dar.new Ar226 (by decide)
  refine Go.of (g' := (mkF m 140 #[.val (.long p0), .second, .val (.long p1), .second, .val (.long p2), .second, .val (.long p3), .second, .val (.long p4), .second, .val (.int n88), .val (.int n96), .val (.int n104), .val (.int n112), .val (.int n120), .val (.int n128), .val (.int n136), .val (.int n144), .val (.int n152), .val (.int n160), .val (.int n168), .val (.int n176), .val (.int n184), .val (.int n192), .val (.int n200), .val (.int n208), .val (.int n216), .val (.int n224), .unset, .unset, .unset, .unset, .unset, .unset, .unset, .unset, .unset, .unset, .unset, .unset, .unset, .unset, .unset, .unset, .unset, .unset, .unset, .unset, .unset, .unset, .unset, .unset] [(.ref b227)])) st226 ?_
  have A233 := (⟨X226, hx, hby⟩ : Ax _ _ _ _ _ _ _ _ _ _ _ _ _ _ _)
  refine g_dup A233 at_140 rfl (pc' := 141) rfl ?_
  refine g_iconst A233 at_141 (v := (0 : Int32)) rfl (pc' := 142) rfl ?_
  refine g_iload A233 at_142 rfl (pc' := 144) rfl ?_
  refine g_i2d A233 at_144 (pc' := 145) rfl ?_
  obtain ⟨T234, h234, A234, e234, W234, st234⟩ := s_dastore A233 hZ e226 (ls := #[.val (.long p0), .second, .val (.long p1), .second, .val (.long p2), .second, .val (.long p3), .second, .val (.long p4), .second, .val (.int n88), .val (.int n96), .val (.int n104), .val (.int n112), .val (.int n120), .val (.int n128), .val (.int n136), .val (.int n144), .val (.int n152), .val (.int n160), .val (.int n168), .val (.int n176), .val (.int n184), .val (.int n192), .val (.int n200), .val (.int n208), .val (.int n216), .val (.int n224), .unset, .unset, .unset, .unset, .unset, .unset, .unset, .unset, .unset, .unset, .unset, .unset, .unset, .unset, .unset, .unset, .unset, .unset, .unset, .unset, .unset, .unset, .unset, .unset]) (st := [(.ref b227)]) (x := (FP.i2d n88)) V232 (i := 0) (by decide) (j := (0 : Int32)) rfl at_145 (pc' := 146) rfl
  have N235 := Fr.snoc A234.1 N221 g228
  have K236 : Keep h0 h234 [] := K230.wr W234 (Or.inr gh229)
  have V237 : Dar Z h234 b227 .double 9 (fun j => if j = 0 then .double (FP.i2d n88) else (fun _ => .double (0 : UInt64)) j) := Dar.set V232 W234 (fun _ _ => rfl)
  have Z238 : n0 ≤ h234.size := by rw [W234.size]; exact Z231
  refine st234 ?_
  refine g_dup A234 at_146 rfl (pc' := 147) rfl ?_
  refine g_iconst A234 at_147 (v := (1 : Int32)) rfl (pc' := 148) rfl ?_
  refine g_iload A234 at_148 rfl (pc' := 150) rfl ?_
  refine g_i2d A234 at_150 (pc' := 151) rfl ?_
  obtain ⟨T239, h239, A239, e239, W239, st239⟩ := s_dastore A234 hZ e234 (ls := #[.val (.long p0), .second, .val (.long p1), .second, .val (.long p2), .second, .val (.long p3), .second, .val (.long p4), .second, .val (.int n88), .val (.int n96), .val (.int n104), .val (.int n112), .val (.int n120), .val (.int n128), .val (.int n136), .val (.int n144), .val (.int n152), .val (.int n160), .val (.int n168), .val (.int n176), .val (.int n184), .val (.int n192), .val (.int n200), .val (.int n208), .val (.int n216), .val (.int n224), .unset, .unset, .unset, .unset, .unset, .unset, .unset, .unset, .unset, .unset, .unset, .unset, .unset, .unset, .unset, .unset, .unset, .unset, .unset, .unset, .unset, .unset, .unset, .unset]) (st := [(.ref b227)]) (x := (FP.i2d n96)) V237 (i := 1) (by decide) (j := (1 : Int32)) rfl at_151 (pc' := 152) rfl
  have N240 := Fr.snoc A239.1 N235 g228
  have K241 : Keep h0 h239 [] := K236.wr W239 (Or.inr gh229)
  have V242 : Dar Z h239 b227 .double 9 (fun j => if j = 1 then .double (FP.i2d n96) else (fun j => if j = 0 then .double (FP.i2d n88) else (fun _ => .double (0 : UInt64)) j) j) := Dar.set V237 W239 (fun _ _ => rfl)
  have Z243 : n0 ≤ h239.size := by rw [W239.size]; exact Z238
  refine st239 ?_
  refine g_dup A239 at_152 rfl (pc' := 153) rfl ?_
  refine g_iconst A239 at_153 (v := (2 : Int32)) rfl (pc' := 154) rfl ?_
  refine g_iload A239 at_154 rfl (pc' := 156) rfl ?_
  refine g_i2d A239 at_156 (pc' := 157) rfl ?_
  obtain ⟨T244, h244, A244, e244, W244, st244⟩ := s_dastore A239 hZ e239 (ls := #[.val (.long p0), .second, .val (.long p1), .second, .val (.long p2), .second, .val (.long p3), .second, .val (.long p4), .second, .val (.int n88), .val (.int n96), .val (.int n104), .val (.int n112), .val (.int n120), .val (.int n128), .val (.int n136), .val (.int n144), .val (.int n152), .val (.int n160), .val (.int n168), .val (.int n176), .val (.int n184), .val (.int n192), .val (.int n200), .val (.int n208), .val (.int n216), .val (.int n224), .unset, .unset, .unset, .unset, .unset, .unset, .unset, .unset, .unset, .unset, .unset, .unset, .unset, .unset, .unset, .unset, .unset, .unset, .unset, .unset, .unset, .unset, .unset, .unset]) (st := [(.ref b227)]) (x := (FP.i2d n104)) V242 (i := 2) (by decide) (j := (2 : Int32)) rfl at_157 (pc' := 158) rfl
  have N245 := Fr.snoc A244.1 N240 g228
  have K246 : Keep h0 h244 [] := K241.wr W244 (Or.inr gh229)
  have V247 : Dar Z h244 b227 .double 9 (fun j => if j = 2 then .double (FP.i2d n104) else (fun j => if j = 1 then .double (FP.i2d n96) else (fun j => if j = 0 then .double (FP.i2d n88) else (fun _ => .double (0 : UInt64)) j) j) j) := Dar.set V242 W244 (fun _ _ => rfl)
  have Z248 : n0 ≤ h244.size := by rw [W244.size]; exact Z243
  refine st244 ?_
  refine g_dup A244 at_158 rfl (pc' := 159) rfl ?_
  refine g_iconst A244 at_159 (v := (3 : Int32)) rfl (pc' := 160) rfl ?_
  refine g_iload A244 at_160 rfl (pc' := 162) rfl ?_
  refine g_i2d A244 at_162 (pc' := 163) rfl ?_
  obtain ⟨T249, h249, A249, e249, W249, st249⟩ := s_dastore A244 hZ e244 (ls := #[.val (.long p0), .second, .val (.long p1), .second, .val (.long p2), .second, .val (.long p3), .second, .val (.long p4), .second, .val (.int n88), .val (.int n96), .val (.int n104), .val (.int n112), .val (.int n120), .val (.int n128), .val (.int n136), .val (.int n144), .val (.int n152), .val (.int n160), .val (.int n168), .val (.int n176), .val (.int n184), .val (.int n192), .val (.int n200), .val (.int n208), .val (.int n216), .val (.int n224), .unset, .unset, .unset, .unset, .unset, .unset, .unset, .unset, .unset, .unset, .unset, .unset, .unset, .unset, .unset, .unset, .unset, .unset, .unset, .unset, .unset, .unset, .unset, .unset]) (st := [(.ref b227)]) (x := (FP.i2d n112)) V247 (i := 3) (by decide) (j := (3 : Int32)) rfl at_163 (pc' := 164) rfl
  have N250 := Fr.snoc A249.1 N245 g228
  have K251 : Keep h0 h249 [] := K246.wr W249 (Or.inr gh229)
  have V252 : Dar Z h249 b227 .double 9 (fun j => if j = 3 then .double (FP.i2d n112) else (fun j => if j = 2 then .double (FP.i2d n104) else (fun j => if j = 1 then .double (FP.i2d n96) else (fun j => if j = 0 then .double (FP.i2d n88) else (fun _ => .double (0 : UInt64)) j) j) j) j) := Dar.set V247 W249 (fun _ _ => rfl)
  have Z253 : n0 ≤ h249.size := by rw [W249.size]; exact Z248
  refine st249 ?_
  refine g_dup A249 at_164 rfl (pc' := 165) rfl ?_
  refine g_iconst A249 at_165 (v := (4 : Int32)) rfl (pc' := 166) rfl ?_
  refine g_iload A249 at_166 rfl (pc' := 168) rfl ?_
  refine g_i2d A249 at_168 (pc' := 169) rfl ?_
  obtain ⟨T254, h254, A254, e254, W254, st254⟩ := s_dastore A249 hZ e249 (ls := #[.val (.long p0), .second, .val (.long p1), .second, .val (.long p2), .second, .val (.long p3), .second, .val (.long p4), .second, .val (.int n88), .val (.int n96), .val (.int n104), .val (.int n112), .val (.int n120), .val (.int n128), .val (.int n136), .val (.int n144), .val (.int n152), .val (.int n160), .val (.int n168), .val (.int n176), .val (.int n184), .val (.int n192), .val (.int n200), .val (.int n208), .val (.int n216), .val (.int n224), .unset, .unset, .unset, .unset, .unset, .unset, .unset, .unset, .unset, .unset, .unset, .unset, .unset, .unset, .unset, .unset, .unset, .unset, .unset, .unset, .unset, .unset, .unset, .unset]) (st := [(.ref b227)]) (x := (FP.i2d n120)) V252 (i := 4) (by decide) (j := (4 : Int32)) rfl at_169 (pc' := 170) rfl
  have N255 := Fr.snoc A254.1 N250 g228
  have K256 : Keep h0 h254 [] := K251.wr W254 (Or.inr gh229)
  have V257 : Dar Z h254 b227 .double 9 (fun j => if j = 4 then .double (FP.i2d n120) else (fun j => if j = 3 then .double (FP.i2d n112) else (fun j => if j = 2 then .double (FP.i2d n104) else (fun j => if j = 1 then .double (FP.i2d n96) else (fun j => if j = 0 then .double (FP.i2d n88) else (fun _ => .double (0 : UInt64)) j) j) j) j) j) := Dar.set V252 W254 (fun _ _ => rfl)
  have Z258 : n0 ≤ h254.size := by rw [W254.size]; exact Z253
  refine st254 ?_
  refine g_dup A254 at_170 rfl (pc' := 171) rfl ?_
  refine g_iconst A254 at_171 (v := (5 : Int32)) rfl (pc' := 172) rfl ?_
  refine g_iload A254 at_172 rfl (pc' := 174) rfl ?_
  refine g_i2d A254 at_174 (pc' := 175) rfl ?_
  obtain ⟨T259, h259, A259, e259, W259, st259⟩ := s_dastore A254 hZ e254 (ls := #[.val (.long p0), .second, .val (.long p1), .second, .val (.long p2), .second, .val (.long p3), .second, .val (.long p4), .second, .val (.int n88), .val (.int n96), .val (.int n104), .val (.int n112), .val (.int n120), .val (.int n128), .val (.int n136), .val (.int n144), .val (.int n152), .val (.int n160), .val (.int n168), .val (.int n176), .val (.int n184), .val (.int n192), .val (.int n200), .val (.int n208), .val (.int n216), .val (.int n224), .unset, .unset, .unset, .unset, .unset, .unset, .unset, .unset, .unset, .unset, .unset, .unset, .unset, .unset, .unset, .unset, .unset, .unset, .unset, .unset, .unset, .unset, .unset, .unset]) (st := [(.ref b227)]) (x := (FP.i2d n128)) V257 (i := 5) (by decide) (j := (5 : Int32)) rfl at_175 (pc' := 176) rfl
  have N260 := Fr.snoc A259.1 N255 g228
  have K261 : Keep h0 h259 [] := K256.wr W259 (Or.inr gh229)
  have V262 : Dar Z h259 b227 .double 9 (fun j => if j = 5 then .double (FP.i2d n128) else (fun j => if j = 4 then .double (FP.i2d n120) else (fun j => if j = 3 then .double (FP.i2d n112) else (fun j => if j = 2 then .double (FP.i2d n104) else (fun j => if j = 1 then .double (FP.i2d n96) else (fun j => if j = 0 then .double (FP.i2d n88) else (fun _ => .double (0 : UInt64)) j) j) j) j) j) j) := Dar.set V257 W259 (fun _ _ => rfl)
  have Z263 : n0 ≤ h259.size := by rw [W259.size]; exact Z258
  refine st259 ?_
  refine g_dup A259 at_176 rfl (pc' := 177) rfl ?_
  refine g_bipush A259 at_177 (v := (6 : Int32)) rfl (pc' := 179) rfl ?_
  refine g_iload A259 at_179 rfl (pc' := 181) rfl ?_
  refine g_i2d A259 at_181 (pc' := 182) rfl ?_
  obtain ⟨T264, h264, A264, e264, W264, st264⟩ := s_dastore A259 hZ e259 (ls := #[.val (.long p0), .second, .val (.long p1), .second, .val (.long p2), .second, .val (.long p3), .second, .val (.long p4), .second, .val (.int n88), .val (.int n96), .val (.int n104), .val (.int n112), .val (.int n120), .val (.int n128), .val (.int n136), .val (.int n144), .val (.int n152), .val (.int n160), .val (.int n168), .val (.int n176), .val (.int n184), .val (.int n192), .val (.int n200), .val (.int n208), .val (.int n216), .val (.int n224), .unset, .unset, .unset, .unset, .unset, .unset, .unset, .unset, .unset, .unset, .unset, .unset, .unset, .unset, .unset, .unset, .unset, .unset, .unset, .unset, .unset, .unset, .unset, .unset]) (st := [(.ref b227)]) (x := (FP.i2d n136)) V262 (i := 6) (by decide) (j := (6 : Int32)) rfl at_182 (pc' := 183) rfl
  have N265 := Fr.snoc A264.1 N260 g228
  have K266 : Keep h0 h264 [] := K261.wr W264 (Or.inr gh229)
  have V267 : Dar Z h264 b227 .double 9 (fun j => if j = 6 then .double (FP.i2d n136) else (fun j => if j = 5 then .double (FP.i2d n128) else (fun j => if j = 4 then .double (FP.i2d n120) else (fun j => if j = 3 then .double (FP.i2d n112) else (fun j => if j = 2 then .double (FP.i2d n104) else (fun j => if j = 1 then .double (FP.i2d n96) else (fun j => if j = 0 then .double (FP.i2d n88) else (fun _ => .double (0 : UInt64)) j) j) j) j) j) j) j) := Dar.set V262 W264 (fun _ _ => rfl)
  have Z268 : n0 ≤ h264.size := by rw [W264.size]; exact Z263
  refine st264 ?_
  refine g_dup A264 at_183 rfl (pc' := 184) rfl ?_
  refine g_bipush A264 at_184 (v := (7 : Int32)) rfl (pc' := 186) rfl ?_
  refine g_iload A264 at_186 rfl (pc' := 188) rfl ?_
  refine g_i2d A264 at_188 (pc' := 189) rfl ?_
  obtain ⟨T269, h269, A269, e269, W269, st269⟩ := s_dastore A264 hZ e264 (ls := #[.val (.long p0), .second, .val (.long p1), .second, .val (.long p2), .second, .val (.long p3), .second, .val (.long p4), .second, .val (.int n88), .val (.int n96), .val (.int n104), .val (.int n112), .val (.int n120), .val (.int n128), .val (.int n136), .val (.int n144), .val (.int n152), .val (.int n160), .val (.int n168), .val (.int n176), .val (.int n184), .val (.int n192), .val (.int n200), .val (.int n208), .val (.int n216), .val (.int n224), .unset, .unset, .unset, .unset, .unset, .unset, .unset, .unset, .unset, .unset, .unset, .unset, .unset, .unset, .unset, .unset, .unset, .unset, .unset, .unset, .unset, .unset, .unset, .unset]) (st := [(.ref b227)]) (x := (FP.i2d n144)) V267 (i := 7) (by decide) (j := (7 : Int32)) rfl at_189 (pc' := 190) rfl
  have N270 := Fr.snoc A269.1 N265 g228
  have K271 : Keep h0 h269 [] := K266.wr W269 (Or.inr gh229)
  have V272 : Dar Z h269 b227 .double 9 (fun j => if j = 7 then .double (FP.i2d n144) else (fun j => if j = 6 then .double (FP.i2d n136) else (fun j => if j = 5 then .double (FP.i2d n128) else (fun j => if j = 4 then .double (FP.i2d n120) else (fun j => if j = 3 then .double (FP.i2d n112) else (fun j => if j = 2 then .double (FP.i2d n104) else (fun j => if j = 1 then .double (FP.i2d n96) else (fun j => if j = 0 then .double (FP.i2d n88) else (fun _ => .double (0 : UInt64)) j) j) j) j) j) j) j) j) := Dar.set V267 W269 (fun _ _ => rfl)
  have Z273 : n0 ≤ h269.size := by rw [W269.size]; exact Z268
  refine st269 ?_
  refine g_dup A269 at_190 rfl (pc' := 191) rfl ?_
  refine g_bipush A269 at_191 (v := (8 : Int32)) rfl (pc' := 193) rfl ?_
  refine g_iload A269 at_193 rfl (pc' := 195) rfl ?_
  refine g_i2d A269 at_195 (pc' := 196) rfl ?_
  obtain ⟨T274, h274, A274, e274, W274, st274⟩ := s_dastore A269 hZ e269 (ls := #[.val (.long p0), .second, .val (.long p1), .second, .val (.long p2), .second, .val (.long p3), .second, .val (.long p4), .second, .val (.int n88), .val (.int n96), .val (.int n104), .val (.int n112), .val (.int n120), .val (.int n128), .val (.int n136), .val (.int n144), .val (.int n152), .val (.int n160), .val (.int n168), .val (.int n176), .val (.int n184), .val (.int n192), .val (.int n200), .val (.int n208), .val (.int n216), .val (.int n224), .unset, .unset, .unset, .unset, .unset, .unset, .unset, .unset, .unset, .unset, .unset, .unset, .unset, .unset, .unset, .unset, .unset, .unset, .unset, .unset, .unset, .unset, .unset, .unset]) (st := [(.ref b227)]) (x := (FP.i2d n152)) V272 (i := 8) (by decide) (j := (8 : Int32)) rfl at_196 (pc' := 197) rfl
  have N275 := Fr.snoc A274.1 N270 g228
  have K276 : Keep h0 h274 [] := K271.wr W274 (Or.inr gh229)
  have V277 : Dar Z h274 b227 .double 9 (fun j => if j = 8 then .double (FP.i2d n152) else (fun j => if j = 7 then .double (FP.i2d n144) else (fun j => if j = 6 then .double (FP.i2d n136) else (fun j => if j = 5 then .double (FP.i2d n128) else (fun j => if j = 4 then .double (FP.i2d n120) else (fun j => if j = 3 then .double (FP.i2d n112) else (fun j => if j = 2 then .double (FP.i2d n104) else (fun j => if j = 1 then .double (FP.i2d n96) else (fun j => if j = 0 then .double (FP.i2d n88) else (fun _ => .double (0 : UInt64)) j) j) j) j) j) j) j) j) j) := Dar.set V272 W274 (fun _ _ => rfl)
  have Z278 : n0 ≤ h274.size := by rw [W274.size]; exact Z273
  refine st274 ?_
  refine g_astore A274 at_197 rfl (ls' := #[.val (.long p0), .second, .val (.long p1), .second, .val (.long p2), .second, .val (.long p3), .second, .val (.long p4), .second, .val (.int n88), .val (.int n96), .val (.int n104), .val (.int n112), .val (.int n120), .val (.int n128), .val (.int n136), .val (.int n144), .val (.int n152), .val (.int n160), .val (.int n168), .val (.int n176), .val (.int n184), .val (.int n192), .val (.int n200), .val (.int n208), .val (.int n216), .val (.int n224), .val (.ref b227), .unset, .unset, .unset, .unset, .unset, .unset, .unset, .unset, .unset, .unset, .unset, .unset, .unset, .unset, .unset, .unset, .unset, .unset, .unset, .unset, .unset, .unset, .unset]) rfl (pc' := 199) rfl ?_
  refine g_bipush A274 at_199 (v := (9 : Int32)) rfl (pc' := 201) rfl ?_
  obtain ⟨T279, h279, k279, X279, e279, E279, Ar279, st279⟩ := newP A274.1 hx hZ (hw _ (List.mem_of_getElem? (i := 4) rfl)) e274 (g := (mkF m 201 #[.val (.long p0), .second, .val (.long p1), .second, .val (.long p2), .second, .val (.long p3), .second, .val (.long p4), .second, .val (.int n88), .val (.int n96), .val (.int n104), .val (.int n112), .val (.int n120), .val (.int n128), .val (.int n136), .val (.int n144), .val (.int n152), .val (.int n160), .val (.int n168), .val (.int n176), .val (.int n184), .val (.int n192), .val (.int n200), .val (.int n208), .val (.int n216), .val (.int n224), .val (.ref b227), .unset, .unset, .unset, .unset, .unset, .unset, .unset, .unset, .unset, .unset, .unset, .unset, .unset, .unset, .unset, .unset, .unset, .unset, .unset, .unset, .unset, .unset, .unset] [(.int (9 : Int32))])) rfl (hb hby at_201) rfl (by decide) (cap := 9) (by decide) (by decide) (by decide) (by decide)
  obtain ⟨b280, eb280⟩ : ∃ z, z = h274.size := ⟨_, rfl⟩
  rw [← eb280] at Ar279 st279
  have ne281 : b227 ≠ b280 := own_ne eb280 V277.lt
  have g282 : n0 ≤ b280 := by rw [eb280]; exact Z278
  have gh283 : h0.size ≤ b280 := by rw [eb280]; exact K276.1
  have K284 : Keep h0 h279 [] := K276.ext E279
  have V285 : Dar Z h279 b227 .double 9 (fun j => if j = 8 then .double (FP.i2d n152) else (fun j => if j = 7 then .double (FP.i2d n144) else (fun j => if j = 6 then .double (FP.i2d n136) else (fun j => if j = 5 then .double (FP.i2d n128) else (fun j => if j = 4 then .double (FP.i2d n120) else (fun j => if j = 3 then .double (FP.i2d n112) else (fun j => if j = 2 then .double (FP.i2d n104) else (fun j => if j = 1 then .double (FP.i2d n96) else (fun j => if j = 0 then .double (FP.i2d n88) else (fun _ => .double (0 : UInt64)) j) j) j) j) j) j) j) j) j) := Dar.ext E279 V277
  have Z286 : n0 ≤ h279.size := Nat.le_trans Z278 E279.1
  have V287 : Dar Z h279 b280 .double 9 (fun _ => .double (0 : UInt64)) := Dar.new Ar279 (by decide)
  refine Go.of (g' := (mkF m 203 #[.val (.long p0), .second, .val (.long p1), .second, .val (.long p2), .second, .val (.long p3), .second, .val (.long p4), .second, .val (.int n88), .val (.int n96), .val (.int n104), .val (.int n112), .val (.int n120), .val (.int n128), .val (.int n136), .val (.int n144), .val (.int n152), .val (.int n160), .val (.int n168), .val (.int n176), .val (.int n184), .val (.int n192), .val (.int n200), .val (.int n208), .val (.int n216), .val (.int n224), .val (.ref b227), .unset, .unset, .unset, .unset, .unset, .unset, .unset, .unset, .unset, .unset, .unset, .unset, .unset, .unset, .unset, .unset, .unset, .unset, .unset, .unset, .unset, .unset, .unset] [(.ref b280)])) st279 ?_
  have A288 := (⟨X279, hx, hby⟩ : Ax _ _ _ _ _ _ _ _ _ _ _ _ _ _ _)
  refine g_dup A288 at_203 rfl (pc' := 204) rfl ?_
  refine g_iconst A288 at_204 (v := (0 : Int32)) rfl (pc' := 205) rfl ?_
  refine g_iload A288 at_205 rfl (pc' := 207) rfl ?_
  refine g_i2d A288 at_207 (pc' := 208) rfl ?_
  obtain ⟨T289, h289, A289, e289, W289, st289⟩ := s_dastore A288 hZ e279 (ls := #[.val (.long p0), .second, .val (.long p1), .second, .val (.long p2), .second, .val (.long p3), .second, .val (.long p4), .second, .val (.int n88), .val (.int n96), .val (.int n104), .val (.int n112), .val (.int n120), .val (.int n128), .val (.int n136), .val (.int n144), .val (.int n152), .val (.int n160), .val (.int n168), .val (.int n176), .val (.int n184), .val (.int n192), .val (.int n200), .val (.int n208), .val (.int n216), .val (.int n224), .val (.ref b227), .unset, .unset, .unset, .unset, .unset, .unset, .unset, .unset, .unset, .unset, .unset, .unset, .unset, .unset, .unset, .unset, .unset, .unset, .unset, .unset, .unset, .unset, .unset]) (st := [(.ref b280)]) (x := (FP.i2d n160)) V287 (i := 0) (by decide) (j := (0 : Int32)) rfl at_208 (pc' := 209) rfl
  have N290 := Fr.snoc A289.1 N275 g282
  have K291 : Keep h0 h289 [] := K284.wr W289 (Or.inr gh283)
  have V292 : Dar Z h289 b227 .double 9 (fun j => if j = 8 then .double (FP.i2d n152) else (fun j => if j = 7 then .double (FP.i2d n144) else (fun j => if j = 6 then .double (FP.i2d n136) else (fun j => if j = 5 then .double (FP.i2d n128) else (fun j => if j = 4 then .double (FP.i2d n120) else (fun j => if j = 3 then .double (FP.i2d n112) else (fun j => if j = 2 then .double (FP.i2d n104) else (fun j => if j = 1 then .double (FP.i2d n96) else (fun j => if j = 0 then .double (FP.i2d n88) else (fun _ => .double (0 : UInt64)) j) j) j) j) j) j) j) j) j) := Dar.other W289 V285 ne281
  have V293 : Dar Z h289 b280 .double 9 (fun j => if j = 0 then .double (FP.i2d n160) else (fun _ => .double (0 : UInt64)) j) := Dar.set V287 W289 (fun _ _ => rfl)
  have Z294 : n0 ≤ h289.size := by rw [W289.size]; exact Z286
  refine st289 ?_
  refine g_dup A289 at_209 rfl (pc' := 210) rfl ?_
  refine g_iconst A289 at_210 (v := (1 : Int32)) rfl (pc' := 211) rfl ?_
  refine g_iload A289 at_211 rfl (pc' := 213) rfl ?_
  refine g_i2d A289 at_213 (pc' := 214) rfl ?_
  obtain ⟨T295, h295, A295, e295, W295, st295⟩ := s_dastore A289 hZ e289 (ls := #[.val (.long p0), .second, .val (.long p1), .second, .val (.long p2), .second, .val (.long p3), .second, .val (.long p4), .second, .val (.int n88), .val (.int n96), .val (.int n104), .val (.int n112), .val (.int n120), .val (.int n128), .val (.int n136), .val (.int n144), .val (.int n152), .val (.int n160), .val (.int n168), .val (.int n176), .val (.int n184), .val (.int n192), .val (.int n200), .val (.int n208), .val (.int n216), .val (.int n224), .val (.ref b227), .unset, .unset, .unset, .unset, .unset, .unset, .unset, .unset, .unset, .unset, .unset, .unset, .unset, .unset, .unset, .unset, .unset, .unset, .unset, .unset, .unset, .unset, .unset]) (st := [(.ref b280)]) (x := (FP.i2d n168)) V293 (i := 1) (by decide) (j := (1 : Int32)) rfl at_214 (pc' := 215) rfl
  have N296 := Fr.snoc A295.1 N290 g282
  have K297 : Keep h0 h295 [] := K291.wr W295 (Or.inr gh283)
  have V298 : Dar Z h295 b227 .double 9 (fun j => if j = 8 then .double (FP.i2d n152) else (fun j => if j = 7 then .double (FP.i2d n144) else (fun j => if j = 6 then .double (FP.i2d n136) else (fun j => if j = 5 then .double (FP.i2d n128) else (fun j => if j = 4 then .double (FP.i2d n120) else (fun j => if j = 3 then .double (FP.i2d n112) else (fun j => if j = 2 then .double (FP.i2d n104) else (fun j => if j = 1 then .double (FP.i2d n96) else (fun j => if j = 0 then .double (FP.i2d n88) else (fun _ => .double (0 : UInt64)) j) j) j) j) j) j) j) j) j) := Dar.other W295 V292 ne281
  have V299 : Dar Z h295 b280 .double 9 (fun j => if j = 1 then .double (FP.i2d n168) else (fun j => if j = 0 then .double (FP.i2d n160) else (fun _ => .double (0 : UInt64)) j) j) := Dar.set V293 W295 (fun _ _ => rfl)
  have Z300 : n0 ≤ h295.size := by rw [W295.size]; exact Z294
  refine st295 ?_
  refine g_dup A295 at_215 rfl (pc' := 216) rfl ?_
  refine g_iconst A295 at_216 (v := (2 : Int32)) rfl (pc' := 217) rfl ?_
  refine g_iload A295 at_217 rfl (pc' := 219) rfl ?_
  refine g_i2d A295 at_219 (pc' := 220) rfl ?_
  obtain ⟨T301, h301, A301, e301, W301, st301⟩ := s_dastore A295 hZ e295 (ls := #[.val (.long p0), .second, .val (.long p1), .second, .val (.long p2), .second, .val (.long p3), .second, .val (.long p4), .second, .val (.int n88), .val (.int n96), .val (.int n104), .val (.int n112), .val (.int n120), .val (.int n128), .val (.int n136), .val (.int n144), .val (.int n152), .val (.int n160), .val (.int n168), .val (.int n176), .val (.int n184), .val (.int n192), .val (.int n200), .val (.int n208), .val (.int n216), .val (.int n224), .val (.ref b227), .unset, .unset, .unset, .unset, .unset, .unset, .unset, .unset, .unset, .unset, .unset, .unset, .unset, .unset, .unset, .unset, .unset, .unset, .unset, .unset, .unset, .unset, .unset]) (st := [(.ref b280)]) (x := (FP.i2d n176)) V299 (i := 2) (by decide) (j := (2 : Int32)) rfl at_220 (pc' := 221) rfl
  have N302 := Fr.snoc A301.1 N296 g282
  have K303 : Keep h0 h301 [] := K297.wr W301 (Or.inr gh283)
  have V304 : Dar Z h301 b227 .double 9 (fun j => if j = 8 then .double (FP.i2d n152) else (fun j => if j = 7 then .double (FP.i2d n144) else (fun j => if j = 6 then .double (FP.i2d n136) else (fun j => if j = 5 then .double (FP.i2d n128) else (fun j => if j = 4 then .double (FP.i2d n120) else (fun j => if j = 3 then .double (FP.i2d n112) else (fun j => if j = 2 then .double (FP.i2d n104) else (fun j => if j = 1 then .double (FP.i2d n96) else (fun j => if j = 0 then .double (FP.i2d n88) else (fun _ => .double (0 : UInt64)) j) j) j) j) j) j) j) j) j) := Dar.other W301 V298 ne281
  have V305 : Dar Z h301 b280 .double 9 (fun j => if j = 2 then .double (FP.i2d n176) else (fun j => if j = 1 then .double (FP.i2d n168) else (fun j => if j = 0 then .double (FP.i2d n160) else (fun _ => .double (0 : UInt64)) j) j) j) := Dar.set V299 W301 (fun _ _ => rfl)
  have Z306 : n0 ≤ h301.size := by rw [W301.size]; exact Z300
  refine st301 ?_
  refine g_dup A301 at_221 rfl (pc' := 222) rfl ?_
  refine g_iconst A301 at_222 (v := (3 : Int32)) rfl (pc' := 223) rfl ?_
  refine g_iload A301 at_223 rfl (pc' := 225) rfl ?_
  refine g_i2d A301 at_225 (pc' := 226) rfl ?_
  obtain ⟨T307, h307, A307, e307, W307, st307⟩ := s_dastore A301 hZ e301 (ls := #[.val (.long p0), .second, .val (.long p1), .second, .val (.long p2), .second, .val (.long p3), .second, .val (.long p4), .second, .val (.int n88), .val (.int n96), .val (.int n104), .val (.int n112), .val (.int n120), .val (.int n128), .val (.int n136), .val (.int n144), .val (.int n152), .val (.int n160), .val (.int n168), .val (.int n176), .val (.int n184), .val (.int n192), .val (.int n200), .val (.int n208), .val (.int n216), .val (.int n224), .val (.ref b227), .unset, .unset, .unset, .unset, .unset, .unset, .unset, .unset, .unset, .unset, .unset, .unset, .unset, .unset, .unset, .unset, .unset, .unset, .unset, .unset, .unset, .unset, .unset]) (st := [(.ref b280)]) (x := (FP.i2d n184)) V305 (i := 3) (by decide) (j := (3 : Int32)) rfl at_226 (pc' := 227) rfl
  have N308 := Fr.snoc A307.1 N302 g282
  have K309 : Keep h0 h307 [] := K303.wr W307 (Or.inr gh283)
  have V310 : Dar Z h307 b227 .double 9 (fun j => if j = 8 then .double (FP.i2d n152) else (fun j => if j = 7 then .double (FP.i2d n144) else (fun j => if j = 6 then .double (FP.i2d n136) else (fun j => if j = 5 then .double (FP.i2d n128) else (fun j => if j = 4 then .double (FP.i2d n120) else (fun j => if j = 3 then .double (FP.i2d n112) else (fun j => if j = 2 then .double (FP.i2d n104) else (fun j => if j = 1 then .double (FP.i2d n96) else (fun j => if j = 0 then .double (FP.i2d n88) else (fun _ => .double (0 : UInt64)) j) j) j) j) j) j) j) j) j) := Dar.other W307 V304 ne281
  have V311 : Dar Z h307 b280 .double 9 (fun j => if j = 3 then .double (FP.i2d n184) else (fun j => if j = 2 then .double (FP.i2d n176) else (fun j => if j = 1 then .double (FP.i2d n168) else (fun j => if j = 0 then .double (FP.i2d n160) else (fun _ => .double (0 : UInt64)) j) j) j) j) := Dar.set V305 W307 (fun _ _ => rfl)
  have Z312 : n0 ≤ h307.size := by rw [W307.size]; exact Z306
  refine st307 ?_
  refine g_dup A307 at_227 rfl (pc' := 228) rfl ?_
  refine g_iconst A307 at_228 (v := (4 : Int32)) rfl (pc' := 229) rfl ?_
  refine g_iload A307 at_229 rfl (pc' := 231) rfl ?_
  refine g_i2d A307 at_231 (pc' := 232) rfl ?_
  obtain ⟨T313, h313, A313, e313, W313, st313⟩ := s_dastore A307 hZ e307 (ls := #[.val (.long p0), .second, .val (.long p1), .second, .val (.long p2), .second, .val (.long p3), .second, .val (.long p4), .second, .val (.int n88), .val (.int n96), .val (.int n104), .val (.int n112), .val (.int n120), .val (.int n128), .val (.int n136), .val (.int n144), .val (.int n152), .val (.int n160), .val (.int n168), .val (.int n176), .val (.int n184), .val (.int n192), .val (.int n200), .val (.int n208), .val (.int n216), .val (.int n224), .val (.ref b227), .unset, .unset, .unset, .unset, .unset, .unset, .unset, .unset, .unset, .unset, .unset, .unset, .unset, .unset, .unset, .unset, .unset, .unset, .unset, .unset, .unset, .unset, .unset]) (st := [(.ref b280)]) (x := (FP.i2d n192)) V311 (i := 4) (by decide) (j := (4 : Int32)) rfl at_232 (pc' := 233) rfl
  have N314 := Fr.snoc A313.1 N308 g282
  have K315 : Keep h0 h313 [] := K309.wr W313 (Or.inr gh283)
  have V316 : Dar Z h313 b227 .double 9 (fun j => if j = 8 then .double (FP.i2d n152) else (fun j => if j = 7 then .double (FP.i2d n144) else (fun j => if j = 6 then .double (FP.i2d n136) else (fun j => if j = 5 then .double (FP.i2d n128) else (fun j => if j = 4 then .double (FP.i2d n120) else (fun j => if j = 3 then .double (FP.i2d n112) else (fun j => if j = 2 then .double (FP.i2d n104) else (fun j => if j = 1 then .double (FP.i2d n96) else (fun j => if j = 0 then .double (FP.i2d n88) else (fun _ => .double (0 : UInt64)) j) j) j) j) j) j) j) j) j) := Dar.other W313 V310 ne281
  have V317 : Dar Z h313 b280 .double 9 (fun j => if j = 4 then .double (FP.i2d n192) else (fun j => if j = 3 then .double (FP.i2d n184) else (fun j => if j = 2 then .double (FP.i2d n176) else (fun j => if j = 1 then .double (FP.i2d n168) else (fun j => if j = 0 then .double (FP.i2d n160) else (fun _ => .double (0 : UInt64)) j) j) j) j) j) := Dar.set V311 W313 (fun _ _ => rfl)
  have Z318 : n0 ≤ h313.size := by rw [W313.size]; exact Z312
  refine st313 ?_
  refine g_dup A313 at_233 rfl (pc' := 234) rfl ?_
  refine g_iconst A313 at_234 (v := (5 : Int32)) rfl (pc' := 235) rfl ?_
  refine g_iload A313 at_235 rfl (pc' := 237) rfl ?_
  refine g_i2d A313 at_237 (pc' := 238) rfl ?_
  obtain ⟨T319, h319, A319, e319, W319, st319⟩ := s_dastore A313 hZ e313 (ls := #[.val (.long p0), .second, .val (.long p1), .second, .val (.long p2), .second, .val (.long p3), .second, .val (.long p4), .second, .val (.int n88), .val (.int n96), .val (.int n104), .val (.int n112), .val (.int n120), .val (.int n128), .val (.int n136), .val (.int n144), .val (.int n152), .val (.int n160), .val (.int n168), .val (.int n176), .val (.int n184), .val (.int n192), .val (.int n200), .val (.int n208), .val (.int n216), .val (.int n224), .val (.ref b227), .unset, .unset, .unset, .unset, .unset, .unset, .unset, .unset, .unset, .unset, .unset, .unset, .unset, .unset, .unset, .unset, .unset, .unset, .unset, .unset, .unset, .unset, .unset]) (st := [(.ref b280)]) (x := (FP.i2d n200)) V317 (i := 5) (by decide) (j := (5 : Int32)) rfl at_238 (pc' := 239) rfl
  have N320 := Fr.snoc A319.1 N314 g282
  have K321 : Keep h0 h319 [] := K315.wr W319 (Or.inr gh283)
  have V322 : Dar Z h319 b227 .double 9 (fun j => if j = 8 then .double (FP.i2d n152) else (fun j => if j = 7 then .double (FP.i2d n144) else (fun j => if j = 6 then .double (FP.i2d n136) else (fun j => if j = 5 then .double (FP.i2d n128) else (fun j => if j = 4 then .double (FP.i2d n120) else (fun j => if j = 3 then .double (FP.i2d n112) else (fun j => if j = 2 then .double (FP.i2d n104) else (fun j => if j = 1 then .double (FP.i2d n96) else (fun j => if j = 0 then .double (FP.i2d n88) else (fun _ => .double (0 : UInt64)) j) j) j) j) j) j) j) j) j) := Dar.other W319 V316 ne281
  have V323 : Dar Z h319 b280 .double 9 (fun j => if j = 5 then .double (FP.i2d n200) else (fun j => if j = 4 then .double (FP.i2d n192) else (fun j => if j = 3 then .double (FP.i2d n184) else (fun j => if j = 2 then .double (FP.i2d n176) else (fun j => if j = 1 then .double (FP.i2d n168) else (fun j => if j = 0 then .double (FP.i2d n160) else (fun _ => .double (0 : UInt64)) j) j) j) j) j) j) := Dar.set V317 W319 (fun _ _ => rfl)
  have Z324 : n0 ≤ h319.size := by rw [W319.size]; exact Z318
  refine st319 ?_
  refine g_dup A319 at_239 rfl (pc' := 240) rfl ?_
  refine g_bipush A319 at_240 (v := (6 : Int32)) rfl (pc' := 242) rfl ?_
  refine g_iload A319 at_242 rfl (pc' := 244) rfl ?_
  refine g_i2d A319 at_244 (pc' := 245) rfl ?_
  obtain ⟨T325, h325, A325, e325, W325, st325⟩ := s_dastore A319 hZ e319 (ls := #[.val (.long p0), .second, .val (.long p1), .second, .val (.long p2), .second, .val (.long p3), .second, .val (.long p4), .second, .val (.int n88), .val (.int n96), .val (.int n104), .val (.int n112), .val (.int n120), .val (.int n128), .val (.int n136), .val (.int n144), .val (.int n152), .val (.int n160), .val (.int n168), .val (.int n176), .val (.int n184), .val (.int n192), .val (.int n200), .val (.int n208), .val (.int n216), .val (.int n224), .val (.ref b227), .unset, .unset, .unset, .unset, .unset, .unset, .unset, .unset, .unset, .unset, .unset, .unset, .unset, .unset, .unset, .unset, .unset, .unset, .unset, .unset, .unset, .unset, .unset]) (st := [(.ref b280)]) (x := (FP.i2d n208)) V323 (i := 6) (by decide) (j := (6 : Int32)) rfl at_245 (pc' := 246) rfl
  have N326 := Fr.snoc A325.1 N320 g282
  have K327 : Keep h0 h325 [] := K321.wr W325 (Or.inr gh283)
  have V328 : Dar Z h325 b227 .double 9 (fun j => if j = 8 then .double (FP.i2d n152) else (fun j => if j = 7 then .double (FP.i2d n144) else (fun j => if j = 6 then .double (FP.i2d n136) else (fun j => if j = 5 then .double (FP.i2d n128) else (fun j => if j = 4 then .double (FP.i2d n120) else (fun j => if j = 3 then .double (FP.i2d n112) else (fun j => if j = 2 then .double (FP.i2d n104) else (fun j => if j = 1 then .double (FP.i2d n96) else (fun j => if j = 0 then .double (FP.i2d n88) else (fun _ => .double (0 : UInt64)) j) j) j) j) j) j) j) j) j) := Dar.other W325 V322 ne281
  have V329 : Dar Z h325 b280 .double 9 (fun j => if j = 6 then .double (FP.i2d n208) else (fun j => if j = 5 then .double (FP.i2d n200) else (fun j => if j = 4 then .double (FP.i2d n192) else (fun j => if j = 3 then .double (FP.i2d n184) else (fun j => if j = 2 then .double (FP.i2d n176) else (fun j => if j = 1 then .double (FP.i2d n168) else (fun j => if j = 0 then .double (FP.i2d n160) else (fun _ => .double (0 : UInt64)) j) j) j) j) j) j) j) := Dar.set V323 W325 (fun _ _ => rfl)
  have Z330 : n0 ≤ h325.size := by rw [W325.size]; exact Z324
  refine st325 ?_
  refine g_dup A325 at_246 rfl (pc' := 247) rfl ?_
  refine g_bipush A325 at_247 (v := (7 : Int32)) rfl (pc' := 249) rfl ?_
  refine g_iload A325 at_249 rfl (pc' := 251) rfl ?_
  refine g_i2d A325 at_251 (pc' := 252) rfl ?_
  obtain ⟨T331, h331, A331, e331, W331, st331⟩ := s_dastore A325 hZ e325 (ls := #[.val (.long p0), .second, .val (.long p1), .second, .val (.long p2), .second, .val (.long p3), .second, .val (.long p4), .second, .val (.int n88), .val (.int n96), .val (.int n104), .val (.int n112), .val (.int n120), .val (.int n128), .val (.int n136), .val (.int n144), .val (.int n152), .val (.int n160), .val (.int n168), .val (.int n176), .val (.int n184), .val (.int n192), .val (.int n200), .val (.int n208), .val (.int n216), .val (.int n224), .val (.ref b227), .unset, .unset, .unset, .unset, .unset, .unset, .unset, .unset, .unset, .unset, .unset, .unset, .unset, .unset, .unset, .unset, .unset, .unset, .unset, .unset, .unset, .unset, .unset]) (st := [(.ref b280)]) (x := (FP.i2d n216)) V329 (i := 7) (by decide) (j := (7 : Int32)) rfl at_252 (pc' := 253) rfl
  have N332 := Fr.snoc A331.1 N326 g282
  have K333 : Keep h0 h331 [] := K327.wr W331 (Or.inr gh283)
  have V334 : Dar Z h331 b227 .double 9 (fun j => if j = 8 then .double (FP.i2d n152) else (fun j => if j = 7 then .double (FP.i2d n144) else (fun j => if j = 6 then .double (FP.i2d n136) else (fun j => if j = 5 then .double (FP.i2d n128) else (fun j => if j = 4 then .double (FP.i2d n120) else (fun j => if j = 3 then .double (FP.i2d n112) else (fun j => if j = 2 then .double (FP.i2d n104) else (fun j => if j = 1 then .double (FP.i2d n96) else (fun j => if j = 0 then .double (FP.i2d n88) else (fun _ => .double (0 : UInt64)) j) j) j) j) j) j) j) j) j) := Dar.other W331 V328 ne281
  have V335 : Dar Z h331 b280 .double 9 (fun j => if j = 7 then .double (FP.i2d n216) else (fun j => if j = 6 then .double (FP.i2d n208) else (fun j => if j = 5 then .double (FP.i2d n200) else (fun j => if j = 4 then .double (FP.i2d n192) else (fun j => if j = 3 then .double (FP.i2d n184) else (fun j => if j = 2 then .double (FP.i2d n176) else (fun j => if j = 1 then .double (FP.i2d n168) else (fun j => if j = 0 then .double (FP.i2d n160) else (fun _ => .double (0 : UInt64)) j) j) j) j) j) j) j) j) := Dar.set V329 W331 (fun _ _ => rfl)
  have Z336 : n0 ≤ h331.size := by rw [W331.size]; exact Z330
  refine st331 ?_
  refine g_dup A331 at_253 rfl (pc' := 254) rfl ?_
  refine g_bipush A331 at_254 (v := (8 : Int32)) rfl (pc' := 256) rfl ?_
  refine g_iload A331 at_256 rfl (pc' := 258) rfl ?_
  refine g_i2d A331 at_258 (pc' := 259) rfl ?_
  obtain ⟨T337, h337, A337, e337, W337, st337⟩ := s_dastore A331 hZ e331 (ls := #[.val (.long p0), .second, .val (.long p1), .second, .val (.long p2), .second, .val (.long p3), .second, .val (.long p4), .second, .val (.int n88), .val (.int n96), .val (.int n104), .val (.int n112), .val (.int n120), .val (.int n128), .val (.int n136), .val (.int n144), .val (.int n152), .val (.int n160), .val (.int n168), .val (.int n176), .val (.int n184), .val (.int n192), .val (.int n200), .val (.int n208), .val (.int n216), .val (.int n224), .val (.ref b227), .unset, .unset, .unset, .unset, .unset, .unset, .unset, .unset, .unset, .unset, .unset, .unset, .unset, .unset, .unset, .unset, .unset, .unset, .unset, .unset, .unset, .unset, .unset]) (st := [(.ref b280)]) (x := (FP.i2d n224)) V335 (i := 8) (by decide) (j := (8 : Int32)) rfl at_259 (pc' := 260) rfl
  have N338 := Fr.snoc A337.1 N332 g282
  have K339 : Keep h0 h337 [] := K333.wr W337 (Or.inr gh283)
  have V340 : Dar Z h337 b227 .double 9 (fun j => if j = 8 then .double (FP.i2d n152) else (fun j => if j = 7 then .double (FP.i2d n144) else (fun j => if j = 6 then .double (FP.i2d n136) else (fun j => if j = 5 then .double (FP.i2d n128) else (fun j => if j = 4 then .double (FP.i2d n120) else (fun j => if j = 3 then .double (FP.i2d n112) else (fun j => if j = 2 then .double (FP.i2d n104) else (fun j => if j = 1 then .double (FP.i2d n96) else (fun j => if j = 0 then .double (FP.i2d n88) else (fun _ => .double (0 : UInt64)) j) j) j) j) j) j) j) j) j) := Dar.other W337 V334 ne281
  have V341 : Dar Z h337 b280 .double 9 (fun j => if j = 8 then .double (FP.i2d n224) else (fun j => if j = 7 then .double (FP.i2d n216) else (fun j => if j = 6 then .double (FP.i2d n208) else (fun j => if j = 5 then .double (FP.i2d n200) else (fun j => if j = 4 then .double (FP.i2d n192) else (fun j => if j = 3 then .double (FP.i2d n184) else (fun j => if j = 2 then .double (FP.i2d n176) else (fun j => if j = 1 then .double (FP.i2d n168) else (fun j => if j = 0 then .double (FP.i2d n160) else (fun _ => .double (0 : UInt64)) j) j) j) j) j) j) j) j) j) := Dar.set V335 W337 (fun _ _ => rfl)
  have Z342 : n0 ≤ h337.size := by rw [W337.size]; exact Z336
  refine st337 ?_
  refine g_astore A337 at_260 rfl (ls' := #[.val (.long p0), .second, .val (.long p1), .second, .val (.long p2), .second, .val (.long p3), .second, .val (.long p4), .second, .val (.int n88), .val (.int n96), .val (.int n104), .val (.int n112), .val (.int n120), .val (.int n128), .val (.int n136), .val (.int n144), .val (.int n152), .val (.int n160), .val (.int n168), .val (.int n176), .val (.int n184), .val (.int n192), .val (.int n200), .val (.int n208), .val (.int n216), .val (.int n224), .val (.ref b227), .val (.ref b280), .unset, .unset, .unset, .unset, .unset, .unset, .unset, .unset, .unset, .unset, .unset, .unset, .unset, .unset, .unset, .unset, .unset, .unset, .unset, .unset, .unset, .unset]) rfl (pc' := 262) rfl ?_
  refine g_aload A337 at_262 rfl rfl (pc' := 264) rfl ?_
  refine g_aload A337 at_264 rfl rfl (pc' := 266) rfl ?_
  have hp343 : own_S (FP.i2d n88) := ⟨_, FP.Core.i2d_int n88, hb89⟩
  have hp344 : own_S (FP.i2d n96) := ⟨_, FP.Core.i2d_int n96, hb97⟩
  have hp345 : own_S (FP.i2d n104) := ⟨_, FP.Core.i2d_int n104, hb105⟩
  have hp346 : own_S (FP.i2d n112) := ⟨_, FP.Core.i2d_int n112, hb113⟩
  have hp347 : own_S (FP.i2d n120) := ⟨_, FP.Core.i2d_int n120, hb121⟩
  have hp348 : own_S (FP.i2d n128) := ⟨_, FP.Core.i2d_int n128, hb129⟩
  have hp349 : own_S (FP.i2d n136) := ⟨_, FP.Core.i2d_int n136, hb137⟩
  have hp350 : own_S (FP.i2d n144) := ⟨_, FP.Core.i2d_int n144, hb145⟩
  have hp351 : own_S (FP.i2d n152) := ⟨_, FP.Core.i2d_int n152, hb153⟩
  have hp352 : own_S (FP.i2d n160) := ⟨_, FP.Core.i2d_int n160, hb161⟩
  have hp353 : own_S (FP.i2d n168) := ⟨_, FP.Core.i2d_int n168, hb169⟩
  have hp354 : own_S (FP.i2d n176) := ⟨_, FP.Core.i2d_int n176, hb177⟩
  have hp355 : own_S (FP.i2d n184) := ⟨_, FP.Core.i2d_int n184, hb185⟩
  have hp356 : own_S (FP.i2d n192) := ⟨_, FP.Core.i2d_int n192, hb193⟩
  have hp357 : own_S (FP.i2d n200) := ⟨_, FP.Core.i2d_int n200, hb201⟩
  have hp358 : own_S (FP.i2d n208) := ⟨_, FP.Core.i2d_int n208, hb209⟩
  have hp359 : own_S (FP.i2d n216) := ⟨_, FP.Core.i2d_int n216, hb217⟩
  have hp360 : own_S (FP.i2d n224) := ⟨_, FP.Core.i2d_int n224, hb225⟩
  obtain ⟨vv361, _, ⟨T361, L361, k361, n361⟩, -, X361, ⟨L361c, hQ361, l361, y361, z361⟩, st361⟩ := Jvm.LawKit.callS A337.1 hx (y := (⟨"com/example/orientry/orientry/Matrices", "product", "([D[D)[D"⟩ : MethodName)) hown (mvT hZ (hw _ (List.mem_of_getElem? (i := 5) rfl))) (mvT hZ (hw _ (List.mem_of_getElem? (i := 6) rfl))) (mvT hZ (hw _ (List.mem_of_getElem? (i := 7) rfl))) (mvT hZ (hw _ (List.mem_of_getElem? (i := 8) rfl))) (by decide) (backOf (W := 0) (rm2 l Z a0 hw [] b227 b280 (fun j => if j = 8 then .double (FP.i2d n152) else (fun j => if j = 7 then .double (FP.i2d n144) else (fun j => if j = 6 then .double (FP.i2d n136) else (fun j => if j = 5 then .double (FP.i2d n128) else (fun j => if j = 4 then .double (FP.i2d n120) else (fun j => if j = 3 then .double (FP.i2d n112) else (fun j => if j = 2 then .double (FP.i2d n104) else (fun j => if j = 1 then .double (FP.i2d n96) else (fun j => if j = 0 then .double (FP.i2d n88) else (fun _ => .double (0 : UInt64)) j) j) j) j) j) j) j) j) j) (fun j => if j = 8 then .double (FP.i2d n224) else (fun j => if j = 7 then .double (FP.i2d n216) else (fun j => if j = 6 then .double (FP.i2d n208) else (fun j => if j = 5 then .double (FP.i2d n200) else (fun j => if j = 4 then .double (FP.i2d n192) else (fun j => if j = 3 then .double (FP.i2d n184) else (fun j => if j = 2 then .double (FP.i2d n176) else (fun j => if j = 1 then .double (FP.i2d n168) else (fun j => if j = 0 then .double (FP.i2d n160) else (fun _ => .double (0 : UInt64)) j) j) j) j) j) j) j) j) j) (FP.i2d n88) (FP.i2d n96) (FP.i2d n104) (FP.i2d n112) (FP.i2d n120) (FP.i2d n128) (FP.i2d n136) (FP.i2d n144) (FP.i2d n152) (FP.i2d n160) (FP.i2d n168) (FP.i2d n176) (FP.i2d n184) (FP.i2d n192) (FP.i2d n200) (FP.i2d n208) (FP.i2d n216) (FP.i2d n224) h337 n0 Z342 V340 V341 rfl rfl rfl rfl rfl rfl rfl rfl rfl rfl rfl rfl rfl rfl rfl rfl rfl rfl hp343 hp344 hp345 hp346 hp347 hp348 hp349 hp350 hp351 hp352 hp353 hp354 hp355 hp356 hp357 hp358 hp359 hp360) hZ (hw _ (List.mem_of_getElem? (i := 8) rfl)) (hw _ (List.mem_of_getElem? (i := 7) rfl)) (by decide) (by decide)) (g := (mkF m 266 #[.val (.long p0), .second, .val (.long p1), .second, .val (.long p2), .second, .val (.long p3), .second, .val (.long p4), .second, .val (.int n88), .val (.int n96), .val (.int n104), .val (.int n112), .val (.int n120), .val (.int n128), .val (.int n136), .val (.int n144), .val (.int n152), .val (.int n160), .val (.int n168), .val (.int n176), .val (.int n184), .val (.int n192), .val (.int n200), .val (.int n208), .val (.int n216), .val (.int n224), .val (.ref b227), .val (.ref b280), .unset, .unset, .unset, .unset, .unset, .unset, .unset, .unset, .unset, .unset, .unset, .unset, .unset, .unset, .unset, .unset, .unset, .unset, .unset, .unset, .unset, .unset] [(.ref b280), (.ref b227)])) rfl (by rw [hml]; rfl) (argsL := [(.ref b227), (.ref b280)]) (rest := []) (lenOf pd_1 rfl) rfl (by show 2 * 0 + _ ≤ _; exact Nat.le_of_eq rfl) (hb hby at_266) (fun _ _ => ⟨rfl, e337, (by decide : 2 + 1 ≤ _), (by decide : 18 + 9 ≤ _)⟩)
  have hQ361b : Q2 Z b227 b280 (fun j => if j = 8 then .double (FP.i2d n152) else (fun j => if j = 7 then .double (FP.i2d n144) else (fun j => if j = 6 then .double (FP.i2d n136) else (fun j => if j = 5 then .double (FP.i2d n128) else (fun j => if j = 4 then .double (FP.i2d n120) else (fun j => if j = 3 then .double (FP.i2d n112) else (fun j => if j = 2 then .double (FP.i2d n104) else (fun j => if j = 1 then .double (FP.i2d n96) else (fun j => if j = 0 then .double (FP.i2d n88) else (fun _ => .double (0 : UInt64)) j) j) j) j) j) j) j) j) j) (fun j => if j = 8 then .double (FP.i2d n224) else (fun j => if j = 7 then .double (FP.i2d n216) else (fun j => if j = 6 then .double (FP.i2d n208) else (fun j => if j = 5 then .double (FP.i2d n200) else (fun j => if j = 4 then .double (FP.i2d n192) else (fun j => if j = 3 then .double (FP.i2d n184) else (fun j => if j = 2 then .double (FP.i2d n176) else (fun j => if j = 1 then .double (FP.i2d n168) else (fun j => if j = 0 then .double (FP.i2d n160) else (fun _ => .double (0 : UInt64)) j) j) j) j) j) j) j) j) j) (FP.i2d n88) (FP.i2d n96) (FP.i2d n104) (FP.i2d n112) (FP.i2d n120) (FP.i2d n128) (FP.i2d n136) (FP.i2d n144) (FP.i2d n152) (FP.i2d n160) (FP.i2d n168) (FP.i2d n176) (FP.i2d n184) (FP.i2d n192) (FP.i2d n200) (FP.i2d n208) (FP.i2d n216) (FP.i2d n224) h337 n0 vv361 T361.heap L361c := hQ361
  clear hQ361
  dsimp only [Pt.U, Pt.locs, Pt.cells, Pt.slots] at X361 l361 y361 z361 st361
  subst y361 z361
  obtain ⟨r362, rfl, Nq363, Kq364, gx365, V366⟩ := hQ361b
  have N367 : Fr n0 L361 := by rw [l361]; exact Fr.app N338 Nq363
  refine Go.of (g' := (mkF m 269 #[.val (.long p0), .second, .val (.long p1), .second, .val (.long p2), .second, .val (.long p3), .second, .val (.long p4), .second, .val (.int n88), .val (.int n96), .val (.int n104), .val (.int n112), .val (.int n120), .val (.int n128), .val (.int n136), .val (.int n144), .val (.int n152), .val (.int n160), .val (.int n168), .val (.int n176), .val (.int n184), .val (.int n192), .val (.int n200), .val (.int n208), .val (.int n216), .val (.int n224), .val (.ref b227), .val (.ref b280), .unset, .unset, .unset, .unset, .unset, .unset, .unset, .unset, .unset, .unset, .unset, .unset, .unset, .unset, .unset, .unset, .unset, .unset, .unset, .unset, .unset, .unset] [(.ref r362)])) st361 ?_
  have V368 : Dar Z T361.heap b227 .double 9 (fun j => if j = 8 then .double (FP.i2d n152) else (fun j => if j = 7 then .double (FP.i2d n144) else (fun j => if j = 6 then .double (FP.i2d n136) else (fun j => if j = 5 then .double (FP.i2d n128) else (fun j => if j = 4 then .double (FP.i2d n120) else (fun j => if j = 3 then .double (FP.i2d n112) else (fun j => if j = 2 then .double (FP.i2d n104) else (fun j => if j = 1 then .double (FP.i2d n96) else (fun j => if j = 0 then .double (FP.i2d n88) else (fun _ => .double (0 : UInt64)) j) j) j) j) j) j) j) j) j) := Dar.keep V340 Kq364 nin0
  have V369 : Dar Z T361.heap b280 .double 9 (fun j => if j = 8 then .double (FP.i2d n224) else (fun j => if j = 7 then .double (FP.i2d n216) else (fun j => if j = 6 then .double (FP.i2d n208) else (fun j => if j = 5 then .double (FP.i2d n200) else (fun j => if j = 4 then .double (FP.i2d n192) else (fun j => if j = 3 then .double (FP.i2d n184) else (fun j => if j = 2 then .double (FP.i2d n176) else (fun j => if j = 1 then .double (FP.i2d n168) else (fun j => if j = 0 then .double (FP.i2d n160) else (fun _ => .double (0 : UInt64)) j) j) j) j) j) j) j) j) j) := Dar.keep V341 Kq364 nin0
  have Z370 : n0 ≤ T361.heap.size := Nat.le_trans Z342 Kq364.1
  have K371 : Keep h0 T361.heap [] := K339.trans Kq364 all0
  have A372 := (⟨X361, hx, hby⟩ : Ax _ _ _ _ _ _ _ _ _ _ _ _ _ _ _)
  have g373 : n0 ≤ r362 := Nat.le_trans Z342 gx365
  have gh374 : h0.size ≤ r362 := Nat.le_trans K339.1 gx365
  have ne375 : b227 ≠ r362 := Nat.ne_of_lt (Nat.lt_of_lt_of_le V340.lt gx365)
  have ne376 : b280 ≠ r362 := Nat.ne_of_lt (Nat.lt_of_lt_of_le V341.lt gx365)
  refine g_astore A372 at_269 rfl (ls' := #[.val (.long p0), .second, .val (.long p1), .second, .val (.long p2), .second, .val (.long p3), .second, .val (.long p4), .second, .val (.int n88), .val (.int n96), .val (.int n104), .val (.int n112), .val (.int n120), .val (.int n128), .val (.int n136), .val (.int n144), .val (.int n152), .val (.int n160), .val (.int n168), .val (.int n176), .val (.int n184), .val (.int n192), .val (.int n200), .val (.int n208), .val (.int n216), .val (.int n224), .val (.ref b227), .val (.ref b280), .val (.ref r362), .unset, .unset, .unset, .unset, .unset, .unset, .unset, .unset, .unset, .unset, .unset, .unset, .unset, .unset, .unset, .unset, .unset, .unset, .unset, .unset, .unset]) rfl (pc' := 271) rfl ?_
  refine g_aload A372 at_271 rfl rfl (pc' := 273) rfl ?_
  refine g_nuN A372 at_273 (pc' := 276) rfl ?_
  refine g_aload A372 at_276 rfl rfl (pc' := 278) rfl ?_
  refine g_alen A372 hZ rfl V366 at_278 (z := (9 : Int32)) rfl (pc' := 279) rfl ?_
  refine g_bipush A372 at_279 (v := (9 : Int32)) rfl (pc' := 281) rfl ?_
  refine g_icN A372 at_281 (c2_ne_f rfl) (pc' := 284) rfl ?_
  refine g_aload A372 at_284 rfl rfl (pc' := 286) rfl ?_
  refine g_aload A372 at_286 rfl rfl (pc' := 288) rfl ?_
  refine g_acN A372 at_288 rfl rfl (by simp [XT.acmp, (Ne.symm ne375)]) (pc' := 291) rfl ?_
  refine g_aload A372 at_291 rfl rfl (pc' := 293) rfl ?_
  refine g_aload A372 at_293 rfl rfl (pc' := 295) rfl ?_
  refine g_acY A372 at_295 rfl rfl (by simp [XT.acmp, (Ne.symm ne376)]) (pc' := 300) rfl ?_
  refine g_iload A372 at_300 rfl (pc' := 302) rfl ?_
  refine g_i2l A372 at_302 (pc' := 303) rfl ?_
  refine g_iload A372 at_303 rfl (pc' := 305) rfl ?_
  refine g_i2l A372 at_305 (pc' := 306) rfl ?_
  refine g_lmul A372 at_306 (pc' := 307) rfl ?_
  refine g_iload A372 at_307 rfl (pc' := 309) rfl ?_
  refine g_i2l A372 at_309 (pc' := 310) rfl ?_
  refine g_iload A372 at_310 rfl (pc' := 312) rfl ?_
  refine g_i2l A372 at_312 (pc' := 313) rfl ?_
  refine g_lmul A372 at_313 (pc' := 314) rfl ?_
  refine g_ladd A372 at_314 (pc' := 315) rfl ?_
  refine g_iload A372 at_315 rfl (pc' := 317) rfl ?_
  refine g_i2l A372 at_317 (pc' := 318) rfl ?_
  refine g_iload A372 at_318 rfl (pc' := 320) rfl ?_
  refine g_i2l A372 at_320 (pc' := 321) rfl ?_
  refine g_lmul A372 at_321 (pc' := 322) rfl ?_
  refine g_ladd A372 at_322 (pc' := 323) rfl ?_
  refine g_lstore A372 at_323 (ls' := #[.val (.long p0), .second, .val (.long p1), .second, .val (.long p2), .second, .val (.long p3), .second, .val (.long p4), .second, .val (.int n88), .val (.int n96), .val (.int n104), .val (.int n112), .val (.int n120), .val (.int n128), .val (.int n136), .val (.int n144), .val (.int n152), .val (.int n160), .val (.int n168), .val (.int n176), .val (.int n184), .val (.int n192), .val (.int n200), .val (.int n208), .val (.int n216), .val (.int n224), .val (.ref b227), .val (.ref b280), .val (.ref r362), .val (.long ((((n88.toInt64) * (n160.toInt64)) + ((n96.toInt64) * (n184.toInt64))) + ((n104.toInt64) * (n208.toInt64)))), .second, .unset, .unset, .unset, .unset, .unset, .unset, .unset, .unset, .unset, .unset, .unset, .unset, .unset, .unset, .unset, .unset, .unset, .unset, .unset]) rfl (pc' := 325) rfl ?_
  refine g_iload A372 at_325 rfl (pc' := 327) rfl ?_
  refine g_i2l A372 at_327 (pc' := 328) rfl ?_
  refine g_iload A372 at_328 rfl (pc' := 330) rfl ?_
  refine g_i2l A372 at_330 (pc' := 331) rfl ?_
  refine g_lmul A372 at_331 (pc' := 332) rfl ?_
  refine g_iload A372 at_332 rfl (pc' := 334) rfl ?_
  refine g_i2l A372 at_334 (pc' := 335) rfl ?_
  refine g_iload A372 at_335 rfl (pc' := 337) rfl ?_
  refine g_i2l A372 at_337 (pc' := 338) rfl ?_
  refine g_lmul A372 at_338 (pc' := 339) rfl ?_
  refine g_ladd A372 at_339 (pc' := 340) rfl ?_
  refine g_iload A372 at_340 rfl (pc' := 342) rfl ?_
  refine g_i2l A372 at_342 (pc' := 343) rfl ?_
  refine g_iload A372 at_343 rfl (pc' := 345) rfl ?_
  refine g_i2l A372 at_345 (pc' := 346) rfl ?_
  refine g_lmul A372 at_346 (pc' := 347) rfl ?_
  refine g_ladd A372 at_347 (pc' := 348) rfl ?_
  refine g_lstore A372 at_348 (ls' := #[.val (.long p0), .second, .val (.long p1), .second, .val (.long p2), .second, .val (.long p3), .second, .val (.long p4), .second, .val (.int n88), .val (.int n96), .val (.int n104), .val (.int n112), .val (.int n120), .val (.int n128), .val (.int n136), .val (.int n144), .val (.int n152), .val (.int n160), .val (.int n168), .val (.int n176), .val (.int n184), .val (.int n192), .val (.int n200), .val (.int n208), .val (.int n216), .val (.int n224), .val (.ref b227), .val (.ref b280), .val (.ref r362), .val (.long ((((n88.toInt64) * (n160.toInt64)) + ((n96.toInt64) * (n184.toInt64))) + ((n104.toInt64) * (n208.toInt64)))), .second, .val (.long ((((n88.toInt64) * (n168.toInt64)) + ((n96.toInt64) * (n192.toInt64))) + ((n104.toInt64) * (n216.toInt64)))), .second, .unset, .unset, .unset, .unset, .unset, .unset, .unset, .unset, .unset, .unset, .unset, .unset, .unset, .unset, .unset, .unset, .unset]) rfl (pc' := 350) rfl ?_
  refine g_iload A372 at_350 rfl (pc' := 352) rfl ?_
  refine g_i2l A372 at_352 (pc' := 353) rfl ?_
  refine g_iload A372 at_353 rfl (pc' := 355) rfl ?_
  refine g_i2l A372 at_355 (pc' := 356) rfl ?_
  refine g_lmul A372 at_356 (pc' := 357) rfl ?_
  refine g_iload A372 at_357 rfl (pc' := 359) rfl ?_
  refine g_i2l A372 at_359 (pc' := 360) rfl ?_
  refine g_iload A372 at_360 rfl (pc' := 362) rfl ?_
  refine g_i2l A372 at_362 (pc' := 363) rfl ?_
  refine g_lmul A372 at_363 (pc' := 364) rfl ?_
  refine g_ladd A372 at_364 (pc' := 365) rfl ?_
  refine g_iload A372 at_365 rfl (pc' := 367) rfl ?_
  refine g_i2l A372 at_367 (pc' := 368) rfl ?_
  refine g_iload A372 at_368 rfl (pc' := 370) rfl ?_
  refine g_i2l A372 at_370 (pc' := 371) rfl ?_
  refine g_lmul A372 at_371 (pc' := 372) rfl ?_
  refine g_ladd A372 at_372 (pc' := 373) rfl ?_
  refine g_lstore A372 at_373 (ls' := #[.val (.long p0), .second, .val (.long p1), .second, .val (.long p2), .second, .val (.long p3), .second, .val (.long p4), .second, .val (.int n88), .val (.int n96), .val (.int n104), .val (.int n112), .val (.int n120), .val (.int n128), .val (.int n136), .val (.int n144), .val (.int n152), .val (.int n160), .val (.int n168), .val (.int n176), .val (.int n184), .val (.int n192), .val (.int n200), .val (.int n208), .val (.int n216), .val (.int n224), .val (.ref b227), .val (.ref b280), .val (.ref r362), .val (.long ((((n88.toInt64) * (n160.toInt64)) + ((n96.toInt64) * (n184.toInt64))) + ((n104.toInt64) * (n208.toInt64)))), .second, .val (.long ((((n88.toInt64) * (n168.toInt64)) + ((n96.toInt64) * (n192.toInt64))) + ((n104.toInt64) * (n216.toInt64)))), .second, .val (.long ((((n88.toInt64) * (n176.toInt64)) + ((n96.toInt64) * (n200.toInt64))) + ((n104.toInt64) * (n224.toInt64)))), .second, .unset, .unset, .unset, .unset, .unset, .unset, .unset, .unset, .unset, .unset, .unset, .unset, .unset, .unset, .unset]) rfl (pc' := 375) rfl ?_
  refine g_iload A372 at_375 rfl (pc' := 377) rfl ?_
  refine g_i2l A372 at_377 (pc' := 378) rfl ?_
  refine g_iload A372 at_378 rfl (pc' := 380) rfl ?_
  refine g_i2l A372 at_380 (pc' := 381) rfl ?_
  refine g_lmul A372 at_381 (pc' := 382) rfl ?_
  refine g_iload A372 at_382 rfl (pc' := 384) rfl ?_
  refine g_i2l A372 at_384 (pc' := 385) rfl ?_
  refine g_iload A372 at_385 rfl (pc' := 387) rfl ?_
  refine g_i2l A372 at_387 (pc' := 388) rfl ?_
  refine g_lmul A372 at_388 (pc' := 389) rfl ?_
  refine g_ladd A372 at_389 (pc' := 390) rfl ?_
  refine g_iload A372 at_390 rfl (pc' := 392) rfl ?_
  refine g_i2l A372 at_392 (pc' := 393) rfl ?_
  refine g_iload A372 at_393 rfl (pc' := 395) rfl ?_
  refine g_i2l A372 at_395 (pc' := 396) rfl ?_
  refine g_lmul A372 at_396 (pc' := 397) rfl ?_
  refine g_ladd A372 at_397 (pc' := 398) rfl ?_
  refine g_lstore A372 at_398 (ls' := #[.val (.long p0), .second, .val (.long p1), .second, .val (.long p2), .second, .val (.long p3), .second, .val (.long p4), .second, .val (.int n88), .val (.int n96), .val (.int n104), .val (.int n112), .val (.int n120), .val (.int n128), .val (.int n136), .val (.int n144), .val (.int n152), .val (.int n160), .val (.int n168), .val (.int n176), .val (.int n184), .val (.int n192), .val (.int n200), .val (.int n208), .val (.int n216), .val (.int n224), .val (.ref b227), .val (.ref b280), .val (.ref r362), .val (.long ((((n88.toInt64) * (n160.toInt64)) + ((n96.toInt64) * (n184.toInt64))) + ((n104.toInt64) * (n208.toInt64)))), .second, .val (.long ((((n88.toInt64) * (n168.toInt64)) + ((n96.toInt64) * (n192.toInt64))) + ((n104.toInt64) * (n216.toInt64)))), .second, .val (.long ((((n88.toInt64) * (n176.toInt64)) + ((n96.toInt64) * (n200.toInt64))) + ((n104.toInt64) * (n224.toInt64)))), .second, .val (.long ((((n112.toInt64) * (n160.toInt64)) + ((n120.toInt64) * (n184.toInt64))) + ((n128.toInt64) * (n208.toInt64)))), .second, .unset, .unset, .unset, .unset, .unset, .unset, .unset, .unset, .unset, .unset, .unset, .unset, .unset]) rfl (pc' := 400) rfl ?_
  refine g_iload A372 at_400 rfl (pc' := 402) rfl ?_
  refine g_i2l A372 at_402 (pc' := 403) rfl ?_
  refine g_iload A372 at_403 rfl (pc' := 405) rfl ?_
  refine g_i2l A372 at_405 (pc' := 406) rfl ?_
  refine g_lmul A372 at_406 (pc' := 407) rfl ?_
  refine g_iload A372 at_407 rfl (pc' := 409) rfl ?_
  refine g_i2l A372 at_409 (pc' := 410) rfl ?_
  refine g_iload A372 at_410 rfl (pc' := 412) rfl ?_
  refine g_i2l A372 at_412 (pc' := 413) rfl ?_
  refine g_lmul A372 at_413 (pc' := 414) rfl ?_
  refine g_ladd A372 at_414 (pc' := 415) rfl ?_
  refine g_iload A372 at_415 rfl (pc' := 417) rfl ?_
  refine g_i2l A372 at_417 (pc' := 418) rfl ?_
  refine g_iload A372 at_418 rfl (pc' := 420) rfl ?_
  refine g_i2l A372 at_420 (pc' := 421) rfl ?_
  refine g_lmul A372 at_421 (pc' := 422) rfl ?_
  refine g_ladd A372 at_422 (pc' := 423) rfl ?_
  refine g_lstore A372 at_423 (ls' := #[.val (.long p0), .second, .val (.long p1), .second, .val (.long p2), .second, .val (.long p3), .second, .val (.long p4), .second, .val (.int n88), .val (.int n96), .val (.int n104), .val (.int n112), .val (.int n120), .val (.int n128), .val (.int n136), .val (.int n144), .val (.int n152), .val (.int n160), .val (.int n168), .val (.int n176), .val (.int n184), .val (.int n192), .val (.int n200), .val (.int n208), .val (.int n216), .val (.int n224), .val (.ref b227), .val (.ref b280), .val (.ref r362), .val (.long ((((n88.toInt64) * (n160.toInt64)) + ((n96.toInt64) * (n184.toInt64))) + ((n104.toInt64) * (n208.toInt64)))), .second, .val (.long ((((n88.toInt64) * (n168.toInt64)) + ((n96.toInt64) * (n192.toInt64))) + ((n104.toInt64) * (n216.toInt64)))), .second, .val (.long ((((n88.toInt64) * (n176.toInt64)) + ((n96.toInt64) * (n200.toInt64))) + ((n104.toInt64) * (n224.toInt64)))), .second, .val (.long ((((n112.toInt64) * (n160.toInt64)) + ((n120.toInt64) * (n184.toInt64))) + ((n128.toInt64) * (n208.toInt64)))), .second, .val (.long ((((n112.toInt64) * (n168.toInt64)) + ((n120.toInt64) * (n192.toInt64))) + ((n128.toInt64) * (n216.toInt64)))), .second, .unset, .unset, .unset, .unset, .unset, .unset, .unset, .unset, .unset, .unset, .unset]) rfl (pc' := 425) rfl ?_
  refine g_iload A372 at_425 rfl (pc' := 427) rfl ?_
  refine g_i2l A372 at_427 (pc' := 428) rfl ?_
  refine g_iload A372 at_428 rfl (pc' := 430) rfl ?_
  refine g_i2l A372 at_430 (pc' := 431) rfl ?_
  refine g_lmul A372 at_431 (pc' := 432) rfl ?_
  refine g_iload A372 at_432 rfl (pc' := 434) rfl ?_
  refine g_i2l A372 at_434 (pc' := 435) rfl ?_
  refine g_iload A372 at_435 rfl (pc' := 437) rfl ?_
  refine g_i2l A372 at_437 (pc' := 438) rfl ?_
  refine g_lmul A372 at_438 (pc' := 439) rfl ?_
  refine g_ladd A372 at_439 (pc' := 440) rfl ?_
  refine g_iload A372 at_440 rfl (pc' := 442) rfl ?_
  refine g_i2l A372 at_442 (pc' := 443) rfl ?_
  refine g_iload A372 at_443 rfl (pc' := 445) rfl ?_
  refine g_i2l A372 at_445 (pc' := 446) rfl ?_
  refine g_lmul A372 at_446 (pc' := 447) rfl ?_
  refine g_ladd A372 at_447 (pc' := 448) rfl ?_
  refine g_lstore A372 at_448 (ls' := #[.val (.long p0), .second, .val (.long p1), .second, .val (.long p2), .second, .val (.long p3), .second, .val (.long p4), .second, .val (.int n88), .val (.int n96), .val (.int n104), .val (.int n112), .val (.int n120), .val (.int n128), .val (.int n136), .val (.int n144), .val (.int n152), .val (.int n160), .val (.int n168), .val (.int n176), .val (.int n184), .val (.int n192), .val (.int n200), .val (.int n208), .val (.int n216), .val (.int n224), .val (.ref b227), .val (.ref b280), .val (.ref r362), .val (.long ((((n88.toInt64) * (n160.toInt64)) + ((n96.toInt64) * (n184.toInt64))) + ((n104.toInt64) * (n208.toInt64)))), .second, .val (.long ((((n88.toInt64) * (n168.toInt64)) + ((n96.toInt64) * (n192.toInt64))) + ((n104.toInt64) * (n216.toInt64)))), .second, .val (.long ((((n88.toInt64) * (n176.toInt64)) + ((n96.toInt64) * (n200.toInt64))) + ((n104.toInt64) * (n224.toInt64)))), .second, .val (.long ((((n112.toInt64) * (n160.toInt64)) + ((n120.toInt64) * (n184.toInt64))) + ((n128.toInt64) * (n208.toInt64)))), .second, .val (.long ((((n112.toInt64) * (n168.toInt64)) + ((n120.toInt64) * (n192.toInt64))) + ((n128.toInt64) * (n216.toInt64)))), .second, .val (.long ((((n112.toInt64) * (n176.toInt64)) + ((n120.toInt64) * (n200.toInt64))) + ((n128.toInt64) * (n224.toInt64)))), .second, .unset, .unset, .unset, .unset, .unset, .unset, .unset, .unset, .unset]) rfl (pc' := 450) rfl ?_
  refine g_iload A372 at_450 rfl (pc' := 452) rfl ?_
  refine g_i2l A372 at_452 (pc' := 453) rfl ?_
  refine g_iload A372 at_453 rfl (pc' := 455) rfl ?_
  refine g_i2l A372 at_455 (pc' := 456) rfl ?_
  refine g_lmul A372 at_456 (pc' := 457) rfl ?_
  refine g_iload A372 at_457 rfl (pc' := 459) rfl ?_
  refine g_i2l A372 at_459 (pc' := 460) rfl ?_
  refine g_iload A372 at_460 rfl (pc' := 462) rfl ?_
  refine g_i2l A372 at_462 (pc' := 463) rfl ?_
  refine g_lmul A372 at_463 (pc' := 464) rfl ?_
  refine g_ladd A372 at_464 (pc' := 465) rfl ?_
  refine g_iload A372 at_465 rfl (pc' := 467) rfl ?_
  refine g_i2l A372 at_467 (pc' := 468) rfl ?_
  refine g_iload A372 at_468 rfl (pc' := 470) rfl ?_
  refine g_i2l A372 at_470 (pc' := 471) rfl ?_
  refine g_lmul A372 at_471 (pc' := 472) rfl ?_
  refine g_ladd A372 at_472 (pc' := 473) rfl ?_
  refine g_lstore A372 at_473 (ls' := #[.val (.long p0), .second, .val (.long p1), .second, .val (.long p2), .second, .val (.long p3), .second, .val (.long p4), .second, .val (.int n88), .val (.int n96), .val (.int n104), .val (.int n112), .val (.int n120), .val (.int n128), .val (.int n136), .val (.int n144), .val (.int n152), .val (.int n160), .val (.int n168), .val (.int n176), .val (.int n184), .val (.int n192), .val (.int n200), .val (.int n208), .val (.int n216), .val (.int n224), .val (.ref b227), .val (.ref b280), .val (.ref r362), .val (.long ((((n88.toInt64) * (n160.toInt64)) + ((n96.toInt64) * (n184.toInt64))) + ((n104.toInt64) * (n208.toInt64)))), .second, .val (.long ((((n88.toInt64) * (n168.toInt64)) + ((n96.toInt64) * (n192.toInt64))) + ((n104.toInt64) * (n216.toInt64)))), .second, .val (.long ((((n88.toInt64) * (n176.toInt64)) + ((n96.toInt64) * (n200.toInt64))) + ((n104.toInt64) * (n224.toInt64)))), .second, .val (.long ((((n112.toInt64) * (n160.toInt64)) + ((n120.toInt64) * (n184.toInt64))) + ((n128.toInt64) * (n208.toInt64)))), .second, .val (.long ((((n112.toInt64) * (n168.toInt64)) + ((n120.toInt64) * (n192.toInt64))) + ((n128.toInt64) * (n216.toInt64)))), .second, .val (.long ((((n112.toInt64) * (n176.toInt64)) + ((n120.toInt64) * (n200.toInt64))) + ((n128.toInt64) * (n224.toInt64)))), .second, .val (.long ((((n136.toInt64) * (n160.toInt64)) + ((n144.toInt64) * (n184.toInt64))) + ((n152.toInt64) * (n208.toInt64)))), .second, .unset, .unset, .unset, .unset, .unset, .unset, .unset]) rfl (pc' := 475) rfl ?_
  refine g_iload A372 at_475 rfl (pc' := 477) rfl ?_
  refine g_i2l A372 at_477 (pc' := 478) rfl ?_
  refine g_iload A372 at_478 rfl (pc' := 480) rfl ?_
  refine g_i2l A372 at_480 (pc' := 481) rfl ?_
  refine g_lmul A372 at_481 (pc' := 482) rfl ?_
  refine g_iload A372 at_482 rfl (pc' := 484) rfl ?_
  refine g_i2l A372 at_484 (pc' := 485) rfl ?_
  refine g_iload A372 at_485 rfl (pc' := 487) rfl ?_
  refine g_i2l A372 at_487 (pc' := 488) rfl ?_
  refine g_lmul A372 at_488 (pc' := 489) rfl ?_
  refine g_ladd A372 at_489 (pc' := 490) rfl ?_
  refine g_iload A372 at_490 rfl (pc' := 492) rfl ?_
  refine g_i2l A372 at_492 (pc' := 493) rfl ?_
  refine g_iload A372 at_493 rfl (pc' := 495) rfl ?_
  refine g_i2l A372 at_495 (pc' := 496) rfl ?_
  refine g_lmul A372 at_496 (pc' := 497) rfl ?_
  refine g_ladd A372 at_497 (pc' := 498) rfl ?_
  refine g_lstore A372 at_498 (ls' := #[.val (.long p0), .second, .val (.long p1), .second, .val (.long p2), .second, .val (.long p3), .second, .val (.long p4), .second, .val (.int n88), .val (.int n96), .val (.int n104), .val (.int n112), .val (.int n120), .val (.int n128), .val (.int n136), .val (.int n144), .val (.int n152), .val (.int n160), .val (.int n168), .val (.int n176), .val (.int n184), .val (.int n192), .val (.int n200), .val (.int n208), .val (.int n216), .val (.int n224), .val (.ref b227), .val (.ref b280), .val (.ref r362), .val (.long ((((n88.toInt64) * (n160.toInt64)) + ((n96.toInt64) * (n184.toInt64))) + ((n104.toInt64) * (n208.toInt64)))), .second, .val (.long ((((n88.toInt64) * (n168.toInt64)) + ((n96.toInt64) * (n192.toInt64))) + ((n104.toInt64) * (n216.toInt64)))), .second, .val (.long ((((n88.toInt64) * (n176.toInt64)) + ((n96.toInt64) * (n200.toInt64))) + ((n104.toInt64) * (n224.toInt64)))), .second, .val (.long ((((n112.toInt64) * (n160.toInt64)) + ((n120.toInt64) * (n184.toInt64))) + ((n128.toInt64) * (n208.toInt64)))), .second, .val (.long ((((n112.toInt64) * (n168.toInt64)) + ((n120.toInt64) * (n192.toInt64))) + ((n128.toInt64) * (n216.toInt64)))), .second, .val (.long ((((n112.toInt64) * (n176.toInt64)) + ((n120.toInt64) * (n200.toInt64))) + ((n128.toInt64) * (n224.toInt64)))), .second, .val (.long ((((n136.toInt64) * (n160.toInt64)) + ((n144.toInt64) * (n184.toInt64))) + ((n152.toInt64) * (n208.toInt64)))), .second, .val (.long ((((n136.toInt64) * (n168.toInt64)) + ((n144.toInt64) * (n192.toInt64))) + ((n152.toInt64) * (n216.toInt64)))), .second, .unset, .unset, .unset, .unset, .unset]) rfl (pc' := 500) rfl ?_
  refine g_iload A372 at_500 rfl (pc' := 502) rfl ?_
  refine g_i2l A372 at_502 (pc' := 503) rfl ?_
  refine g_iload A372 at_503 rfl (pc' := 505) rfl ?_
  refine g_i2l A372 at_505 (pc' := 506) rfl ?_
  refine g_lmul A372 at_506 (pc' := 507) rfl ?_
  refine g_iload A372 at_507 rfl (pc' := 509) rfl ?_
  refine g_i2l A372 at_509 (pc' := 510) rfl ?_
  refine g_iload A372 at_510 rfl (pc' := 512) rfl ?_
  refine g_i2l A372 at_512 (pc' := 513) rfl ?_
  refine g_lmul A372 at_513 (pc' := 514) rfl ?_
  refine g_ladd A372 at_514 (pc' := 515) rfl ?_
  refine g_iload A372 at_515 rfl (pc' := 517) rfl ?_
  refine g_i2l A372 at_517 (pc' := 518) rfl ?_
  refine g_iload A372 at_518 rfl (pc' := 520) rfl ?_
  refine g_i2l A372 at_520 (pc' := 521) rfl ?_
  refine g_lmul A372 at_521 (pc' := 522) rfl ?_
  refine g_ladd A372 at_522 (pc' := 523) rfl ?_
  refine g_lstore A372 at_523 (ls' := #[.val (.long p0), .second, .val (.long p1), .second, .val (.long p2), .second, .val (.long p3), .second, .val (.long p4), .second, .val (.int n88), .val (.int n96), .val (.int n104), .val (.int n112), .val (.int n120), .val (.int n128), .val (.int n136), .val (.int n144), .val (.int n152), .val (.int n160), .val (.int n168), .val (.int n176), .val (.int n184), .val (.int n192), .val (.int n200), .val (.int n208), .val (.int n216), .val (.int n224), .val (.ref b227), .val (.ref b280), .val (.ref r362), .val (.long ((((n88.toInt64) * (n160.toInt64)) + ((n96.toInt64) * (n184.toInt64))) + ((n104.toInt64) * (n208.toInt64)))), .second, .val (.long ((((n88.toInt64) * (n168.toInt64)) + ((n96.toInt64) * (n192.toInt64))) + ((n104.toInt64) * (n216.toInt64)))), .second, .val (.long ((((n88.toInt64) * (n176.toInt64)) + ((n96.toInt64) * (n200.toInt64))) + ((n104.toInt64) * (n224.toInt64)))), .second, .val (.long ((((n112.toInt64) * (n160.toInt64)) + ((n120.toInt64) * (n184.toInt64))) + ((n128.toInt64) * (n208.toInt64)))), .second, .val (.long ((((n112.toInt64) * (n168.toInt64)) + ((n120.toInt64) * (n192.toInt64))) + ((n128.toInt64) * (n216.toInt64)))), .second, .val (.long ((((n112.toInt64) * (n176.toInt64)) + ((n120.toInt64) * (n200.toInt64))) + ((n128.toInt64) * (n224.toInt64)))), .second, .val (.long ((((n136.toInt64) * (n160.toInt64)) + ((n144.toInt64) * (n184.toInt64))) + ((n152.toInt64) * (n208.toInt64)))), .second, .val (.long ((((n136.toInt64) * (n168.toInt64)) + ((n144.toInt64) * (n192.toInt64))) + ((n152.toInt64) * (n216.toInt64)))), .second, .val (.long ((((n136.toInt64) * (n176.toInt64)) + ((n144.toInt64) * (n200.toInt64))) + ((n152.toInt64) * (n224.toInt64)))), .second, .unset, .unset, .unset]) rfl (pc' := 525) rfl ?_
  refine g_aload A372 at_525 rfl rfl (pc' := 527) rfl ?_
  refine g_iconst A372 at_527 (v := (0 : Int32)) rfl (pc' := 528) rfl ?_
  refine g_daload A372 hZ rfl V366 (i := 0) (by decide) rfl (x := (own_dot (FP.i2d n88) (FP.i2d n96) (FP.i2d n104) (FP.i2d n160) (FP.i2d n184) (FP.i2d n208))) rfl at_528 (pc' := 529) rfl ?_
  refine g_lload A372 at_529 rfl (pc' := 531) rfl ?_
  refine g_l2d A372 at_531 (pc' := 532) rfl ?_
  refine g_dcmp A372 at_532 (pc' := 533) rfl ?_
  refine g_ifN A372 at_533 (d_l_ne_f (own_end hb89 hb97 hb105 hb161 hb185 hb209)) (pc' := 536) rfl ?_
  refine g_aload A372 at_536 rfl rfl (pc' := 538) rfl ?_
  refine g_iconst A372 at_538 (v := (1 : Int32)) rfl (pc' := 539) rfl ?_
  refine g_daload A372 hZ rfl V366 (i := 1) (by decide) rfl (x := (own_dot (FP.i2d n88) (FP.i2d n96) (FP.i2d n104) (FP.i2d n168) (FP.i2d n192) (FP.i2d n216))) rfl at_539 (pc' := 540) rfl ?_
  refine g_lload A372 at_540 rfl (pc' := 542) rfl ?_
  refine g_l2d A372 at_542 (pc' := 543) rfl ?_
  refine g_dcmp A372 at_543 (pc' := 544) rfl ?_
  refine g_ifN A372 at_544 (d_l_ne_f (own_end hb89 hb97 hb105 hb169 hb193 hb217)) (pc' := 547) rfl ?_
  refine g_aload A372 at_547 rfl rfl (pc' := 549) rfl ?_
  refine g_iconst A372 at_549 (v := (2 : Int32)) rfl (pc' := 550) rfl ?_
  refine g_daload A372 hZ rfl V366 (i := 2) (by decide) rfl (x := (own_dot (FP.i2d n88) (FP.i2d n96) (FP.i2d n104) (FP.i2d n176) (FP.i2d n200) (FP.i2d n224))) rfl at_550 (pc' := 551) rfl ?_
  refine g_lload A372 at_551 rfl (pc' := 553) rfl ?_
  refine g_l2d A372 at_553 (pc' := 554) rfl ?_
  refine g_dcmp A372 at_554 (pc' := 555) rfl ?_
  refine g_ifN A372 at_555 (d_l_ne_f (own_end hb89 hb97 hb105 hb177 hb201 hb225)) (pc' := 558) rfl ?_
  refine g_aload A372 at_558 rfl rfl (pc' := 560) rfl ?_
  refine g_iconst A372 at_560 (v := (3 : Int32)) rfl (pc' := 561) rfl ?_
  refine g_daload A372 hZ rfl V366 (i := 3) (by decide) rfl (x := (own_dot (FP.i2d n112) (FP.i2d n120) (FP.i2d n128) (FP.i2d n160) (FP.i2d n184) (FP.i2d n208))) rfl at_561 (pc' := 562) rfl ?_
  refine g_lload A372 at_562 rfl (pc' := 564) rfl ?_
  refine g_l2d A372 at_564 (pc' := 565) rfl ?_
  refine g_dcmp A372 at_565 (pc' := 566) rfl ?_
  refine g_ifN A372 at_566 (d_l_ne_f (own_end hb113 hb121 hb129 hb161 hb185 hb209)) (pc' := 569) rfl ?_
  refine g_aload A372 at_569 rfl rfl (pc' := 571) rfl ?_
  refine g_iconst A372 at_571 (v := (4 : Int32)) rfl (pc' := 572) rfl ?_
  refine g_daload A372 hZ rfl V366 (i := 4) (by decide) rfl (x := (own_dot (FP.i2d n112) (FP.i2d n120) (FP.i2d n128) (FP.i2d n168) (FP.i2d n192) (FP.i2d n216))) rfl at_572 (pc' := 573) rfl ?_
  refine g_lload A372 at_573 rfl (pc' := 575) rfl ?_
  refine g_l2d A372 at_575 (pc' := 576) rfl ?_
  refine g_dcmp A372 at_576 (pc' := 577) rfl ?_
  refine g_ifN A372 at_577 (d_l_ne_f (own_end hb113 hb121 hb129 hb169 hb193 hb217)) (pc' := 580) rfl ?_
  refine g_aload A372 at_580 rfl rfl (pc' := 582) rfl ?_
  refine g_iconst A372 at_582 (v := (5 : Int32)) rfl (pc' := 583) rfl ?_
  refine g_daload A372 hZ rfl V366 (i := 5) (by decide) rfl (x := (own_dot (FP.i2d n112) (FP.i2d n120) (FP.i2d n128) (FP.i2d n176) (FP.i2d n200) (FP.i2d n224))) rfl at_583 (pc' := 584) rfl ?_
  refine g_lload A372 at_584 rfl (pc' := 586) rfl ?_
  refine g_l2d A372 at_586 (pc' := 587) rfl ?_
  refine g_dcmp A372 at_587 (pc' := 588) rfl ?_
  refine g_ifN A372 at_588 (d_l_ne_f (own_end hb113 hb121 hb129 hb177 hb201 hb225)) (pc' := 591) rfl ?_
  refine g_aload A372 at_591 rfl rfl (pc' := 593) rfl ?_
  refine g_bipush A372 at_593 (v := (6 : Int32)) rfl (pc' := 595) rfl ?_
  refine g_daload A372 hZ rfl V366 (i := 6) (by decide) rfl (x := (own_dot (FP.i2d n136) (FP.i2d n144) (FP.i2d n152) (FP.i2d n160) (FP.i2d n184) (FP.i2d n208))) rfl at_595 (pc' := 596) rfl ?_
  refine g_lload A372 at_596 rfl (pc' := 598) rfl ?_
  refine g_l2d A372 at_598 (pc' := 599) rfl ?_
  refine g_dcmp A372 at_599 (pc' := 600) rfl ?_
  refine g_ifN A372 at_600 (d_l_ne_f (own_end hb137 hb145 hb153 hb161 hb185 hb209)) (pc' := 603) rfl ?_
  refine g_aload A372 at_603 rfl rfl (pc' := 605) rfl ?_
  refine g_bipush A372 at_605 (v := (7 : Int32)) rfl (pc' := 607) rfl ?_
  refine g_daload A372 hZ rfl V366 (i := 7) (by decide) rfl (x := (own_dot (FP.i2d n136) (FP.i2d n144) (FP.i2d n152) (FP.i2d n168) (FP.i2d n192) (FP.i2d n216))) rfl at_607 (pc' := 608) rfl ?_
  refine g_lload A372 at_608 rfl (pc' := 610) rfl ?_
  refine g_l2d A372 at_610 (pc' := 611) rfl ?_
  refine g_dcmp A372 at_611 (pc' := 612) rfl ?_
  refine g_ifN A372 at_612 (d_l_ne_f (own_end hb137 hb145 hb153 hb169 hb193 hb217)) (pc' := 615) rfl ?_
  refine g_aload A372 at_615 rfl rfl (pc' := 617) rfl ?_
  refine g_bipush A372 at_617 (v := (8 : Int32)) rfl (pc' := 619) rfl ?_
  refine g_daload A372 hZ rfl V366 (i := 8) (by decide) rfl (x := (own_dot (FP.i2d n136) (FP.i2d n144) (FP.i2d n152) (FP.i2d n176) (FP.i2d n200) (FP.i2d n224))) rfl at_619 (pc' := 620) rfl ?_
  refine g_lload A372 at_620 rfl (pc' := 622) rfl ?_
  refine g_l2d A372 at_622 (pc' := 623) rfl ?_
  refine g_dcmp A372 at_623 (pc' := 624) rfl ?_
  refine g_ifN A372 at_624 (d_l_ne_f (own_end hb137 hb145 hb153 hb177 hb201 hb225)) (pc' := 627) rfl ?_
  refine g_iconst A372 at_627 (v := (1 : Int32)) rfl (pc' := 628) rfl ?_
  refine g_goto A372 at_628 (pc' := 632) rfl ?_
  refine g_istore A372 at_632 (ls' := #[.val (.long p0), .second, .val (.long p1), .second, .val (.long p2), .second, .val (.long p3), .second, .val (.long p4), .second, .val (.int n88), .val (.int n96), .val (.int n104), .val (.int n112), .val (.int n120), .val (.int n128), .val (.int n136), .val (.int n144), .val (.int n152), .val (.int n160), .val (.int n168), .val (.int n176), .val (.int n184), .val (.int n192), .val (.int n200), .val (.int n208), .val (.int n216), .val (.int n224), .val (.ref b227), .val (.ref b280), .val (.ref r362), .val (.long ((((n88.toInt64) * (n160.toInt64)) + ((n96.toInt64) * (n184.toInt64))) + ((n104.toInt64) * (n208.toInt64)))), .second, .val (.long ((((n88.toInt64) * (n168.toInt64)) + ((n96.toInt64) * (n192.toInt64))) + ((n104.toInt64) * (n216.toInt64)))), .second, .val (.long ((((n88.toInt64) * (n176.toInt64)) + ((n96.toInt64) * (n200.toInt64))) + ((n104.toInt64) * (n224.toInt64)))), .second, .val (.long ((((n112.toInt64) * (n160.toInt64)) + ((n120.toInt64) * (n184.toInt64))) + ((n128.toInt64) * (n208.toInt64)))), .second, .val (.long ((((n112.toInt64) * (n168.toInt64)) + ((n120.toInt64) * (n192.toInt64))) + ((n128.toInt64) * (n216.toInt64)))), .second, .val (.long ((((n112.toInt64) * (n176.toInt64)) + ((n120.toInt64) * (n200.toInt64))) + ((n128.toInt64) * (n224.toInt64)))), .second, .val (.long ((((n136.toInt64) * (n160.toInt64)) + ((n144.toInt64) * (n184.toInt64))) + ((n152.toInt64) * (n208.toInt64)))), .second, .val (.long ((((n136.toInt64) * (n168.toInt64)) + ((n144.toInt64) * (n192.toInt64))) + ((n152.toInt64) * (n216.toInt64)))), .second, .val (.long ((((n136.toInt64) * (n176.toInt64)) + ((n144.toInt64) * (n200.toInt64))) + ((n152.toInt64) * (n224.toInt64)))), .second, .val (.int (1 : Int32)), .unset, .unset]) rfl (pc' := 634) rfl ?_
  refine g_aload A372 at_634 rfl rfl (pc' := 636) rfl ?_
  refine g_iconst A372 at_636 (v := (0 : Int32)) rfl (pc' := 637) rfl ?_
  refine g_daload A372 hZ rfl V368 (i := 0) (by decide) rfl (x := (FP.i2d n88)) rfl at_637 (pc' := 638) rfl ?_
  refine g_iload A372 at_638 rfl (pc' := 640) rfl ?_
  refine g_i2d A372 at_640 (pc' := 641) rfl ?_
  refine g_dcmp A372 at_641 (pc' := 642) rfl ?_
  refine g_ifN A372 at_642 (d_l_ne_f (own_self (i2d_fin n88))) (pc' := 645) rfl ?_
  refine g_aload A372 at_645 rfl rfl (pc' := 647) rfl ?_
  refine g_iconst A372 at_647 (v := (1 : Int32)) rfl (pc' := 648) rfl ?_
  refine g_daload A372 hZ rfl V368 (i := 1) (by decide) rfl (x := (FP.i2d n96)) rfl at_648 (pc' := 649) rfl ?_
  refine g_iload A372 at_649 rfl (pc' := 651) rfl ?_
  refine g_i2d A372 at_651 (pc' := 652) rfl ?_
  refine g_dcmp A372 at_652 (pc' := 653) rfl ?_
  refine g_ifN A372 at_653 (d_l_ne_f (own_self (i2d_fin n96))) (pc' := 656) rfl ?_
  refine g_aload A372 at_656 rfl rfl (pc' := 658) rfl ?_
  refine g_iconst A372 at_658 (v := (2 : Int32)) rfl (pc' := 659) rfl ?_
  refine g_daload A372 hZ rfl V368 (i := 2) (by decide) rfl (x := (FP.i2d n104)) rfl at_659 (pc' := 660) rfl ?_
  refine g_iload A372 at_660 rfl (pc' := 662) rfl ?_
  refine g_i2d A372 at_662 (pc' := 663) rfl ?_
  refine g_dcmp A372 at_663 (pc' := 664) rfl ?_
  refine g_ifN A372 at_664 (d_l_ne_f (own_self (i2d_fin n104))) (pc' := 667) rfl ?_
  refine g_aload A372 at_667 rfl rfl (pc' := 669) rfl ?_
  refine g_iconst A372 at_669 (v := (3 : Int32)) rfl (pc' := 670) rfl ?_
  refine g_daload A372 hZ rfl V368 (i := 3) (by decide) rfl (x := (FP.i2d n112)) rfl at_670 (pc' := 671) rfl ?_
  refine g_iload A372 at_671 rfl (pc' := 673) rfl ?_
  refine g_i2d A372 at_673 (pc' := 674) rfl ?_
  refine g_dcmp A372 at_674 (pc' := 675) rfl ?_
  refine g_ifN A372 at_675 (d_l_ne_f (own_self (i2d_fin n112))) (pc' := 678) rfl ?_
  refine g_aload A372 at_678 rfl rfl (pc' := 680) rfl ?_
  refine g_iconst A372 at_680 (v := (4 : Int32)) rfl (pc' := 681) rfl ?_
  refine g_daload A372 hZ rfl V368 (i := 4) (by decide) rfl (x := (FP.i2d n120)) rfl at_681 (pc' := 682) rfl ?_
  refine g_iload A372 at_682 rfl (pc' := 684) rfl ?_
  refine g_i2d A372 at_684 (pc' := 685) rfl ?_
  refine g_dcmp A372 at_685 (pc' := 686) rfl ?_
  refine g_ifN A372 at_686 (d_l_ne_f (own_self (i2d_fin n120))) (pc' := 689) rfl ?_
  refine g_aload A372 at_689 rfl rfl (pc' := 691) rfl ?_
  refine g_iconst A372 at_691 (v := (5 : Int32)) rfl (pc' := 692) rfl ?_
  refine g_daload A372 hZ rfl V368 (i := 5) (by decide) rfl (x := (FP.i2d n128)) rfl at_692 (pc' := 693) rfl ?_
  refine g_iload A372 at_693 rfl (pc' := 695) rfl ?_
  refine g_i2d A372 at_695 (pc' := 696) rfl ?_
  refine g_dcmp A372 at_696 (pc' := 697) rfl ?_
  refine g_ifN A372 at_697 (d_l_ne_f (own_self (i2d_fin n128))) (pc' := 700) rfl ?_
  refine g_aload A372 at_700 rfl rfl (pc' := 702) rfl ?_
  refine g_bipush A372 at_702 (v := (6 : Int32)) rfl (pc' := 704) rfl ?_
  refine g_daload A372 hZ rfl V368 (i := 6) (by decide) rfl (x := (FP.i2d n136)) rfl at_704 (pc' := 705) rfl ?_
  refine g_iload A372 at_705 rfl (pc' := 707) rfl ?_
  refine g_i2d A372 at_707 (pc' := 708) rfl ?_
  refine g_dcmp A372 at_708 (pc' := 709) rfl ?_
  refine g_ifN A372 at_709 (d_l_ne_f (own_self (i2d_fin n136))) (pc' := 712) rfl ?_
  refine g_aload A372 at_712 rfl rfl (pc' := 714) rfl ?_
  refine g_bipush A372 at_714 (v := (7 : Int32)) rfl (pc' := 716) rfl ?_
  refine g_daload A372 hZ rfl V368 (i := 7) (by decide) rfl (x := (FP.i2d n144)) rfl at_716 (pc' := 717) rfl ?_
  refine g_iload A372 at_717 rfl (pc' := 719) rfl ?_
  refine g_i2d A372 at_719 (pc' := 720) rfl ?_
  refine g_dcmp A372 at_720 (pc' := 721) rfl ?_
  refine g_ifN A372 at_721 (d_l_ne_f (own_self (i2d_fin n144))) (pc' := 724) rfl ?_
  refine g_aload A372 at_724 rfl rfl (pc' := 726) rfl ?_
  refine g_bipush A372 at_726 (v := (8 : Int32)) rfl (pc' := 728) rfl ?_
  refine g_daload A372 hZ rfl V368 (i := 8) (by decide) rfl (x := (FP.i2d n152)) rfl at_728 (pc' := 729) rfl ?_
  refine g_iload A372 at_729 rfl (pc' := 731) rfl ?_
  refine g_i2d A372 at_731 (pc' := 732) rfl ?_
  refine g_dcmp A372 at_732 (pc' := 733) rfl ?_
  refine g_ifN A372 at_733 (d_l_ne_f (own_self (i2d_fin n152))) (pc' := 736) rfl ?_
  refine g_iconst A372 at_736 (v := (1 : Int32)) rfl (pc' := 737) rfl ?_
  refine g_goto A372 at_737 (pc' := 741) rfl ?_
  refine g_istore A372 at_741 (ls' := #[.val (.long p0), .second, .val (.long p1), .second, .val (.long p2), .second, .val (.long p3), .second, .val (.long p4), .second, .val (.int n88), .val (.int n96), .val (.int n104), .val (.int n112), .val (.int n120), .val (.int n128), .val (.int n136), .val (.int n144), .val (.int n152), .val (.int n160), .val (.int n168), .val (.int n176), .val (.int n184), .val (.int n192), .val (.int n200), .val (.int n208), .val (.int n216), .val (.int n224), .val (.ref b227), .val (.ref b280), .val (.ref r362), .val (.long ((((n88.toInt64) * (n160.toInt64)) + ((n96.toInt64) * (n184.toInt64))) + ((n104.toInt64) * (n208.toInt64)))), .second, .val (.long ((((n88.toInt64) * (n168.toInt64)) + ((n96.toInt64) * (n192.toInt64))) + ((n104.toInt64) * (n216.toInt64)))), .second, .val (.long ((((n88.toInt64) * (n176.toInt64)) + ((n96.toInt64) * (n200.toInt64))) + ((n104.toInt64) * (n224.toInt64)))), .second, .val (.long ((((n112.toInt64) * (n160.toInt64)) + ((n120.toInt64) * (n184.toInt64))) + ((n128.toInt64) * (n208.toInt64)))), .second, .val (.long ((((n112.toInt64) * (n168.toInt64)) + ((n120.toInt64) * (n192.toInt64))) + ((n128.toInt64) * (n216.toInt64)))), .second, .val (.long ((((n112.toInt64) * (n176.toInt64)) + ((n120.toInt64) * (n200.toInt64))) + ((n128.toInt64) * (n224.toInt64)))), .second, .val (.long ((((n136.toInt64) * (n160.toInt64)) + ((n144.toInt64) * (n184.toInt64))) + ((n152.toInt64) * (n208.toInt64)))), .second, .val (.long ((((n136.toInt64) * (n168.toInt64)) + ((n144.toInt64) * (n192.toInt64))) + ((n152.toInt64) * (n216.toInt64)))), .second, .val (.long ((((n136.toInt64) * (n176.toInt64)) + ((n144.toInt64) * (n200.toInt64))) + ((n152.toInt64) * (n224.toInt64)))), .second, .val (.int (1 : Int32)), .val (.int (1 : Int32)), .unset]) rfl (pc' := 743) rfl ?_
  refine g_aload A372 at_743 rfl rfl (pc' := 745) rfl ?_
  refine g_iconst A372 at_745 (v := (0 : Int32)) rfl (pc' := 746) rfl ?_
  refine g_daload A372 hZ rfl V369 (i := 0) (by decide) rfl (x := (FP.i2d n160)) rfl at_746 (pc' := 747) rfl ?_
  refine g_iload A372 at_747 rfl (pc' := 749) rfl ?_
  refine g_i2d A372 at_749 (pc' := 750) rfl ?_
  refine g_dcmp A372 at_750 (pc' := 751) rfl ?_
  refine g_ifN A372 at_751 (d_l_ne_f (own_self (i2d_fin n160))) (pc' := 754) rfl ?_
  refine g_aload A372 at_754 rfl rfl (pc' := 756) rfl ?_
  refine g_iconst A372 at_756 (v := (1 : Int32)) rfl (pc' := 757) rfl ?_
  refine g_daload A372 hZ rfl V369 (i := 1) (by decide) rfl (x := (FP.i2d n168)) rfl at_757 (pc' := 758) rfl ?_
  refine g_iload A372 at_758 rfl (pc' := 760) rfl ?_
  refine g_i2d A372 at_760 (pc' := 761) rfl ?_
  refine g_dcmp A372 at_761 (pc' := 762) rfl ?_
  refine g_ifN A372 at_762 (d_l_ne_f (own_self (i2d_fin n168))) (pc' := 765) rfl ?_
  refine g_aload A372 at_765 rfl rfl (pc' := 767) rfl ?_
  refine g_iconst A372 at_767 (v := (2 : Int32)) rfl (pc' := 768) rfl ?_
  refine g_daload A372 hZ rfl V369 (i := 2) (by decide) rfl (x := (FP.i2d n176)) rfl at_768 (pc' := 769) rfl ?_
  refine g_iload A372 at_769 rfl (pc' := 771) rfl ?_
  refine g_i2d A372 at_771 (pc' := 772) rfl ?_
  refine g_dcmp A372 at_772 (pc' := 773) rfl ?_
  refine g_ifN A372 at_773 (d_l_ne_f (own_self (i2d_fin n176))) (pc' := 776) rfl ?_
  refine g_aload A372 at_776 rfl rfl (pc' := 778) rfl ?_
  refine g_iconst A372 at_778 (v := (3 : Int32)) rfl (pc' := 779) rfl ?_
  refine g_daload A372 hZ rfl V369 (i := 3) (by decide) rfl (x := (FP.i2d n184)) rfl at_779 (pc' := 780) rfl ?_
  refine g_iload A372 at_780 rfl (pc' := 782) rfl ?_
  refine g_i2d A372 at_782 (pc' := 783) rfl ?_
  refine g_dcmp A372 at_783 (pc' := 784) rfl ?_
  refine g_ifN A372 at_784 (d_l_ne_f (own_self (i2d_fin n184))) (pc' := 787) rfl ?_
  refine g_aload A372 at_787 rfl rfl (pc' := 789) rfl ?_
  refine g_iconst A372 at_789 (v := (4 : Int32)) rfl (pc' := 790) rfl ?_
  refine g_daload A372 hZ rfl V369 (i := 4) (by decide) rfl (x := (FP.i2d n192)) rfl at_790 (pc' := 791) rfl ?_
  refine g_iload A372 at_791 rfl (pc' := 793) rfl ?_
  refine g_i2d A372 at_793 (pc' := 794) rfl ?_
  refine g_dcmp A372 at_794 (pc' := 795) rfl ?_
  refine g_ifN A372 at_795 (d_l_ne_f (own_self (i2d_fin n192))) (pc' := 798) rfl ?_
  refine g_aload A372 at_798 rfl rfl (pc' := 800) rfl ?_
  refine g_iconst A372 at_800 (v := (5 : Int32)) rfl (pc' := 801) rfl ?_
  refine g_daload A372 hZ rfl V369 (i := 5) (by decide) rfl (x := (FP.i2d n200)) rfl at_801 (pc' := 802) rfl ?_
  refine g_iload A372 at_802 rfl (pc' := 804) rfl ?_
  refine g_i2d A372 at_804 (pc' := 805) rfl ?_
  refine g_dcmp A372 at_805 (pc' := 806) rfl ?_
  refine g_ifN A372 at_806 (d_l_ne_f (own_self (i2d_fin n200))) (pc' := 809) rfl ?_
  refine g_aload A372 at_809 rfl rfl (pc' := 811) rfl ?_
  refine g_bipush A372 at_811 (v := (6 : Int32)) rfl (pc' := 813) rfl ?_
  refine g_daload A372 hZ rfl V369 (i := 6) (by decide) rfl (x := (FP.i2d n208)) rfl at_813 (pc' := 814) rfl ?_
  refine g_iload A372 at_814 rfl (pc' := 816) rfl ?_
  refine g_i2d A372 at_816 (pc' := 817) rfl ?_
  refine g_dcmp A372 at_817 (pc' := 818) rfl ?_
  refine g_ifN A372 at_818 (d_l_ne_f (own_self (i2d_fin n208))) (pc' := 821) rfl ?_
  refine g_aload A372 at_821 rfl rfl (pc' := 823) rfl ?_
  refine g_bipush A372 at_823 (v := (7 : Int32)) rfl (pc' := 825) rfl ?_
  refine g_daload A372 hZ rfl V369 (i := 7) (by decide) rfl (x := (FP.i2d n216)) rfl at_825 (pc' := 826) rfl ?_
  refine g_iload A372 at_826 rfl (pc' := 828) rfl ?_
  refine g_i2d A372 at_828 (pc' := 829) rfl ?_
  refine g_dcmp A372 at_829 (pc' := 830) rfl ?_
  refine g_ifN A372 at_830 (d_l_ne_f (own_self (i2d_fin n216))) (pc' := 833) rfl ?_
  refine g_aload A372 at_833 rfl rfl (pc' := 835) rfl ?_
  refine g_bipush A372 at_835 (v := (8 : Int32)) rfl (pc' := 837) rfl ?_
  refine g_daload A372 hZ rfl V369 (i := 8) (by decide) rfl (x := (FP.i2d n224)) rfl at_837 (pc' := 838) rfl ?_
  refine g_iload A372 at_838 rfl (pc' := 840) rfl ?_
  refine g_i2d A372 at_840 (pc' := 841) rfl ?_
  refine g_dcmp A372 at_841 (pc' := 842) rfl ?_
  refine g_ifN A372 at_842 (d_l_ne_f (own_self (i2d_fin n224))) (pc' := 845) rfl ?_
  refine g_iconst A372 at_845 (v := (1 : Int32)) rfl (pc' := 846) rfl ?_
  refine g_goto A372 at_846 (pc' := 850) rfl ?_
  refine g_istore A372 at_850 (ls' := #[.val (.long p0), .second, .val (.long p1), .second, .val (.long p2), .second, .val (.long p3), .second, .val (.long p4), .second, .val (.int n88), .val (.int n96), .val (.int n104), .val (.int n112), .val (.int n120), .val (.int n128), .val (.int n136), .val (.int n144), .val (.int n152), .val (.int n160), .val (.int n168), .val (.int n176), .val (.int n184), .val (.int n192), .val (.int n200), .val (.int n208), .val (.int n216), .val (.int n224), .val (.ref b227), .val (.ref b280), .val (.ref r362), .val (.long ((((n88.toInt64) * (n160.toInt64)) + ((n96.toInt64) * (n184.toInt64))) + ((n104.toInt64) * (n208.toInt64)))), .second, .val (.long ((((n88.toInt64) * (n168.toInt64)) + ((n96.toInt64) * (n192.toInt64))) + ((n104.toInt64) * (n216.toInt64)))), .second, .val (.long ((((n88.toInt64) * (n176.toInt64)) + ((n96.toInt64) * (n200.toInt64))) + ((n104.toInt64) * (n224.toInt64)))), .second, .val (.long ((((n112.toInt64) * (n160.toInt64)) + ((n120.toInt64) * (n184.toInt64))) + ((n128.toInt64) * (n208.toInt64)))), .second, .val (.long ((((n112.toInt64) * (n168.toInt64)) + ((n120.toInt64) * (n192.toInt64))) + ((n128.toInt64) * (n216.toInt64)))), .second, .val (.long ((((n112.toInt64) * (n176.toInt64)) + ((n120.toInt64) * (n200.toInt64))) + ((n128.toInt64) * (n224.toInt64)))), .second, .val (.long ((((n136.toInt64) * (n160.toInt64)) + ((n144.toInt64) * (n184.toInt64))) + ((n152.toInt64) * (n208.toInt64)))), .second, .val (.long ((((n136.toInt64) * (n168.toInt64)) + ((n144.toInt64) * (n192.toInt64))) + ((n152.toInt64) * (n216.toInt64)))), .second, .val (.long ((((n136.toInt64) * (n176.toInt64)) + ((n144.toInt64) * (n200.toInt64))) + ((n152.toInt64) * (n224.toInt64)))), .second, .val (.int (1 : Int32)), .val (.int (1 : Int32)), .val (.int (1 : Int32))]) rfl (pc' := 852) rfl ?_
  refine g_iload A372 at_852 rfl (pc' := 854) rfl ?_
  refine g_ifN A372 at_854 (c0_eq_f (by decide)) (pc' := 857) rfl ?_
  refine g_iload A372 at_857 rfl (pc' := 859) rfl ?_
  refine g_ifN A372 at_859 (c0_eq_f (by decide)) (pc' := 862) rfl ?_
  refine g_iload A372 at_862 rfl (pc' := 864) rfl ?_
  refine g_ifN A372 at_864 (c0_eq_f (by decide)) (pc' := 867) rfl ?_
  refine g_iconst A372 at_867 (v := (1 : Int32)) rfl (pc' := 868) rfl ?_
  refine g_goto A372 at_868 (pc' := 872) rfl ?_
  exact g_ret (Q := Q0 Z p0 p1 p2 p3 p4 h0 n0) A372 at_872 Bd.notSynchronized Bd.returns rfl (Or.inl ⟨rfl, by simp, _, rfl⟩) (by decide) (by decide) ⟨rfl, N367⟩
set_option maxRecDepth 65536 in
set_option maxHeartbeats 40000000 in
theorem comes_1 {Post : Tables → Env → Array Value → State → Outcome → State → Prop} (hpost : ∀ tb e args s v u, (limb_1_1.after args s (.returned v) u = true ∧ limb_1_2.after args s (.returned v) u = true ∧ True) → FrameEnd s (.returned v) u (Jvm.fieldLocs frame_1_writes args s ++ Jvm.arrayLocs frame_1_arrays args s ++ Jvm.staticLocs frame_1_statics s) 16 128 → Post tb e args s (.returned v) u) :
    ArmFor flags0 classFile x code maxLocals ret World_1 tables_1 room_1 Calls_1 rest_1 Pre_1 Post := by
  intro l hfl _ _ p e ha hc hk s m args below hf hA hF happ hP
  obtain ⟨hcalls, hrest, hpre⟩ := hP
  obtain ⟨-, -, -, hnamed, -, -, -, hat⟩ := (Spec.applies_iff hf).mp happ
  obtain ⟨hg, hn⟩ := and_e (Cond.before_iff.mp (show (Jvm.Cond.and given_1 narrow_1).before args s = true from hpre))
  obtain ⟨g0, hg1⟩ := and_e hg
  obtain ⟨w0, w1, w2, w3, w4, rfl⟩ : ∃ w0 w1 w2 w3 w4 : Value, args = #[w0, w1, w2, w3, w4] := by
    have hs : args.size = 5 := by simpa [Cond.value, given_1] using g0
    obtain ⟨L⟩ := args
    match L, hs with
    | [w0, w1, w2, w3, w4], _ => exact ⟨w0, w1, w2, w3, w4, rfl⟩
  have hw := fun d (hd : d ∈ tables_1) => atoms_spec (ws := Jvm.Cond.code x code maxLocals ret :: tables_1) hat d (List.mem_cons_of_mem _ hd)
  have hfit : Fit s := fun {y c} hc i hi => by
    obtain ⟨ha, rfl⟩ := Array.getElem?_eq_some_iff.mp hc
    have q := List.all_eq_true.mp ((Array.all_eq_true_iff_forall_mem.mp hF) _ (Array.getElem_mem ha)) i (List.mem_range.mpr hi)
    simpa [Array.getElem?_eq_getElem hi] using q
  obtain ⟨k0, hg2⟩ := and_e hg1
  obtain ⟨i0, j0⟩ := isL_v k0
  obtain rfl : w0 = (.long i0) := Option.some.inj j0
  obtain ⟨k1, hg3⟩ := and_e hg2
  obtain ⟨i1, j1⟩ := isL_v k1
  obtain rfl : w1 = (.long i1) := Option.some.inj j1
  obtain ⟨k2, hg4⟩ := and_e hg3
  obtain ⟨i2, j2⟩ := isL_v k2
  obtain rfl : w2 = (.long i2) := Option.some.inj j2
  obtain ⟨k3, hg5⟩ := and_e hg4
  obtain ⟨i3, j3⟩ := isL_v k3
  obtain rfl : w3 = (.long i3) := Option.some.inj j3
  obtain ⟨i4, j4⟩ := isL_v hg5
  obtain rfl : w4 = (.long i4) := Option.some.inj j4
  obtain ⟨n, o, h1, h2, h3, _, L, rfl, ⟨rfl, N⟩, hq⟩ := rm0 l s _ hw tables_1 i0 i1 i2 i3 i4 s.heap s.heap.size (Nat.le_refl _)  p e ha hc hk s m _ below hf ((Spec.applies_iff_loose hf).mp happ).1 ⟨rfl, State.Warmed39.refl s, rfl⟩ trivial
  refine ⟨n, _, h1, h2, h3, hpost _ _ _ _ _ _ ⟨Cond.after_iff.mpr rfl, Cond.after_iff.mpr (eq_i res_at (Term.int_eval (1)) rfl), trivial⟩ ⟨hq.1, hq.2.1, (hq.2.2.sift fun y hy => Or.inr (N y hy)).mono (by decide) (by decide)⟩⟩
theorem main_1_1 : Claimed_1_1 := comes_1 fun _ _ _ _ _ _ h hF => ⟨h.1, hF⟩
theorem main_1_2 : Claimed_1_2 := comes_1 fun _ _ _ _ _ _ h hF => ⟨h.2.1, hF⟩
end Jvm.Pilot.@@N@@
namespace Jvm.Pilot.@@N@@
open Jvm Jvm.ClassFile Sem Op Lib Jvm.Free Jvm.Stand Jvm.Pilot.@@N@@.Jvm.D
/-! MADE BY PROGRAM (witnessworld.py) out of the Statement's table words and the real class files: 11 classes; the members and pool entries that the words name. The judged class is class 1, her method 2. -/
namespace start1
open Jvm.ClassFile
def u (s : String) : CpInfo := .utf8 (stringToUtf16 s)
/-- a pool by its gaps: so many unusable entries, then the entry; so many at the end -/
def gap : Nat → List CpInfo → List CpInfo
  | 0, r => r
  | n + 1, r => .unusable :: gap n r
def poolList (es : List (Nat × CpInfo)) (last : Nat) : List CpInfo := es.foldr (fun e r => gap e.1 (e.2 :: r)) (gap last [])
def pool (es : List (Nat × CpInfo)) (last : Nat) : Array CpInfo := ⟨poolList es last⟩
def fileOf (pool : Array CpInfo) (this : Nat) (attrs : Array Attribute := #[]) (ms : Array MethodInfo := #[]) (fl : Nat := 33) (sup : Nat := 0) (ifs : Array Nat := #[]) (fds : Array FieldInfo := #[]) : ClassFile where
  minorVersion := 0
  majorVersion := 65
  constantPool := pool
  accessFlags := fl
  thisClass := this
  superClass := sup
  interfaces := ifs
  fields := fds
  methods := ms
  attributes := attrs
def plain (name : String) (sup : Option ClassId) : Class where
  name := name
  kind := .ordinary
  loader := none
  accessFlags := 33
  super := sup
  interfaces := #[]
  cf := none
  fields := #[]
  methods := #[]
  instanceTypes := #[]
  staticTypes := #[]
  resolved := #[]
  callSites := []
  init := .initialized
  statics := none
  mirror := none

def pool0 : Array CpInfo := pool [(5, u "<init>"), (0, u "()V"), (1, .class_ 10), (1, u "java/lang/Object")] 113

def k0m0 : Method := { name := "<init>", desc := "()V", sig := { parameters := [], returnType := none }, accessFlags := 1, code := none }
/-- java/lang/Object -/
def k0 : Class := { plain "java/lang/Object" none with
  accessFlags := 33
  interfaces := #[]
  cf := some (fileOf pool0 8 #[] #[{ accessFlags := 1, nameIndex := 5, descriptorIndex := 6, attributes := #[] }] 33 0 #[] #[])
  fields := #[]
  methods := #[k0m0]
  instanceTypes := #[]
  staticTypes := #[]
  resolved := Array.replicate 124 none
  statics := none }

def pool1 : Array CpInfo := pool [(2, .class_ 4), (1, u "java/lang/Object"), (0, u "<init>"), (0, u "()V"), (0, .methodref 8 9), (0, .class_ 10), (0, .nameAndType 11 12), (0, u "com/example/orientry/orientry/MatricesProductPinLaw"), (0, u "sh"), (0, u "(JI)I"), (0, .methodref 14 15), (0, .class_ 16), (0, .nameAndType 17 18), (0, u "com/example/orientry/orientry/Matrices"), (0, u "product"), (0, u "([D[D)[D"), (2, u "law"), (0, u "(JJJJJ)Z")] 5

def k1m0 : Method := { name := "<init>", desc := "()V", sig := { parameters := [], returnType := none }, accessFlags := 1, code := none }
def k1c1 : Code := { maxStack := 4, maxLocals := 3, code := method_2_code, exceptionTable := #[], attributes := #[] }
def k1m1 : Method := { name := "sh", desc := "(JI)I", sig := { parameters := [.long, .int], returnType := some .int }, accessFlags := 10, code := some k1c1 }
def k1c2 : Code := { maxStack := 6, maxLocals := 52, code := code, exceptionTable := #[], attributes := #[] }
def k1m2 : Method := { name := "law", desc := "(JJJJJ)Z", sig := { parameters := [.long, .long, .long, .long, .long], returnType := some .boolean }, accessFlags := 9, code := some k1c2 }
/-- com/example/orientry/orientry/MatricesProductPinLaw -/
def k1 : Class := { plain "com/example/orientry/orientry/MatricesProductPinLaw" (some 0) with
  accessFlags := 49
  interfaces := #[]
  cf := some (fileOf pool1 8 #[] #[{ accessFlags := 1, nameIndex := 5, descriptorIndex := 6, attributes := #[] }, { accessFlags := 10, nameIndex := 11, descriptorIndex := 12, attributes := #[] }, { accessFlags := 9, nameIndex := 21, descriptorIndex := 22, attributes := #[] }] 49 2 #[] #[])
  fields := #[]
  methods := #[k1m0, k1m1, k1m2]
  instanceTypes := #[]
  staticTypes := #[]
  resolved := Array.replicate 28 none
  statics := none }

def pool2 : Array CpInfo := pool [(2, .class_ 4), (1, u "java/lang/Object"), (0, u "<init>"), (0, u "()V"), (12, .class_ 20), (0, u "com/example/orientry/orientry/Matrices"), (17, u "ONE_STEP_DEPARTURE"), (0, u "D"), (1, u "ROUNDING_DEPARTURE"), (3, u "product"), (0, u "([D[D)[D")] 9

def k2m0 : Method := { name := "<init>", desc := "()V", sig := { parameters := [], returnType := none }, accessFlags := 2, code := none }
def k2c1 : Code := { maxStack := 9, maxLocals := 5, code := prog_7_method_3_code, exceptionTable := #[], attributes := #[] }
def k2m1 : Method := { name := "product", desc := "([D[D)[D", sig := { parameters := [(.array .double), (.array .double)], returnType := some (.array .double) }, accessFlags := 8, code := some k2c1 }
/-- com/example/orientry/orientry/Matrices -/
def k2 : Class := { plain "com/example/orientry/orientry/Matrices" (some 0) with
  accessFlags := 48
  interfaces := #[]
  cf := some (fileOf pool2 19 #[] #[{ accessFlags := 2, nameIndex := 5, descriptorIndex := 6, attributes := #[] }, { accessFlags := 8, nameIndex := 45, descriptorIndex := 46, attributes := #[] }] 48 2 #[] #[{ accessFlags := 26, nameIndex := 38, descriptorIndex := 39, attributes := #[] }, { accessFlags := 26, nameIndex := 41, descriptorIndex := 39, attributes := #[] }])
  fields := #[{ name := "ONE_STEP_DEPARTURE", type := .double, accessFlags := 26, slot := 0, constantValue := 0 }, { name := "ROUNDING_DEPARTURE", type := .double, accessFlags := 26, slot := 1, constantValue := 0 }]
  methods := #[k2m0, k2m1]
  instanceTypes := #[]
  staticTypes := #[.double, .double]
  resolved := Array.replicate 56 none
  statics := none }

def pool3 : Array CpInfo := pool [(1, u "java/lang/Cloneable"), (0, .class_ 1), (0, u "java/lang/Object"), (0, .class_ 3)] 3

/-- java/lang/Cloneable -/
def k3 : Class := { plain "java/lang/Cloneable" (some 0) with
  accessFlags := 1537
  interfaces := #[]
  cf := some (fileOf pool3 2 #[] #[] 1537 4 #[] #[])
  fields := #[]
  methods := #[]
  instanceTypes := #[]
  staticTypes := #[]
  resolved := Array.replicate 8 none
  statics := none }

def pool4 : Array CpInfo := pool [(1, u "java/io/Serializable"), (0, .class_ 1), (0, u "java/lang/Object"), (0, .class_ 3)] 3

/-- java/io/Serializable -/
def k4 : Class := { plain "java/io/Serializable" (some 0) with
  accessFlags := 1537
  interfaces := #[]
  cf := some (fileOf pool4 2 #[] #[] 1537 4 #[] #[])
  fields := #[]
  methods := #[]
  instanceTypes := #[]
  staticTypes := #[]
  resolved := Array.replicate 8 none
  statics := none }

/-- the primitive byte -/
def k5 : Class := { plain "byte" none with kind := .primitive 'B', accessFlags := 0x411 }
/-- [B -/
def k6 : Class := { plain "[B" (some 0) with kind := .array 5 .byte, interfaces := #[3, 4], accessFlags := 1041 }

/-- the primitive double -/
def k7 : Class := { plain "double" none with kind := .primitive 'D', accessFlags := 0x411 }
/-- [D -/
def k8 : Class := { plain "[D" (some 0) with kind := .array 7 .double, interfaces := #[3, 4], accessFlags := 1041 }

/-- the primitive int -/
def k9 : Class := { plain "int" none with kind := .primitive 'I', accessFlags := 0x411 }
/-- [I -/
def k10 : Class := { plain "[I" (some 0) with kind := .array 9 .int, interfaces := #[3, 4], accessFlags := 1041 }

def heap : Heap := #[]
def classes : Array Class := #[k0, k1, k2, k3, k4, k5, k6, k7, k8, k9, k10]
def interned : List (Array UInt16 × Addr) := []
def slotsUsed : Nat := 0
def theMethod : MethodId := ⟨1, 2⟩
def args0 : Array Value := #[.long 5, .long 3, .long 1, .long 9, .long 4]
def aboutOver (below : List Frame) : State where
  vm := { classes := classes, interned := interned.toArray }
  heap := heap
  slotsUsed := slotsUsed
  threads := #[{ frames := .invoking theMethod args0 :: below }]
def below0 : List Frame := [.native { method := ⟨0, 0⟩, args := #[] }]
def about1 : State := aboutOver below0
def p0 : Program := .bare "" "" ""
def e0 : Env := launch0.env 0 0 0
theorem w_frames : about1.frames = Frame.invoking theMethod args0 :: below0 := rfl
set_option maxRecDepth 65536 in
theorem w_args : argsFit about1.vm theMethod args0 = true := by decide +kernel
set_option maxRecDepth 65536 in
theorem w_heap : heapFits about1 = true := by decide +kernel
set_option maxRecDepth 65536 in
theorem w_runnable : about1.curStatus? = some .runnable := by decide +kernel
set_option maxRecDepth 65536 in
theorem w_alone : about1.alone = true := by decide +kernel
set_option maxRecDepth 65536 in
theorem w_named : about1.methodNamed? x = some theMethod := by decide +kernel
set_option maxRecDepth 65536 in
theorem w_hears : about1.hears theMethod below0 = true := by decide +kernel
set_option maxRecDepth 65536 in
theorem w_ripe : about1.ripe theMethod args0 below0 = true := by decide +kernel
theorem w_running : about1.status = .running := rfl
set_option maxRecDepth 65536 in
theorem w_room : about1.hasRoom e0.platform room_1 = true :=
  launch0.hasRoom_least _ room_1 (by decide +kernel) (by decide +kernel) (by decide +kernel) (by decide +kernel) (by decide +kernel) (by decide +kernel)
theorem allAtoms_all (ts : List Jvm.Cond) (a : Array Jvm.Value) (st : Jvm.State) : (allAtoms ts).before a st = ts.all (fun c => c.before a st) := by
  induction ts with
  | nil => rfl
  | cons c t ih =>
    show (Jvm.Cond.and c (allAtoms t)).before a st = _
    rw [Jvm.Cond.before_and, ih, List.all_cons]
def words1 : List Jvm.Cond := Jvm.Cond.code x code maxLocals ret :: tables_1
/-- a 'code' word, met by the world's own term for the bytes: nothing is compared byte by byte -/
theorem code_word {y : MethodName} {bytes : ByteArray} {mx : Nat} {rt : Option FieldType} {a : Array Value} {s : State} {m : MethodId} {meth : Method} {c : Code} (h1 : s.methodNamed? y = some m) (h2 : s.vm.method? m = some meth) (h3 : meth.code = some c) (h4 : c.code = bytes)
    (h5 : (c.maxLocals == mx && c.exceptionTable.isEmpty && decide (c.maxStack ≤ mostOperands) && decide (meth.sig.returnType = rt) && !meth.locks && decide (parseMethodDescriptor y.desc = some meth.sig)) = true) : (Jvm.Cond.code y bytes mx rt).before a s = true := by
  simp only [Bool.and_eq_true, beq_iff_eq, Bool.not_eq_true', decide_eq_true_eq] at h5
  obtain ⟨⟨⟨⟨⟨g1, g2⟩, g3⟩, g4⟩, g5⟩, g6⟩ := h5
  simp [Cond.before, Cond.holds, Cond.value, h1, h2, h3, h4, g1, g2, g3, g4, g5, g6]
def isCode : Jvm.Cond → Bool
  | .code _ _ _ _ => true
  | _ => false
theorem all_split {L : List Jvm.Cond} {P : Jvm.Cond → Bool} (h1 : L.all (fun c => isCode c || P c) = true) (h2 : ∀ c ∈ L.filter isCode, P c = true) : L.all P = true := by
  refine List.all_eq_true.mpr fun c hc => ?_
  have h := List.all_eq_true.mp h1 c hc
  rcases Bool.eq_false_or_eq_true (isCode c) with hi | hi
  · exact h2 c (List.mem_filter.mpr ⟨hc, hi⟩)
  · simpa [hi] using h
set_option maxRecDepth 65536 in
theorem w_c0 : (Jvm.Cond.code x code maxLocals ret).before args0 about1 = true := code_word (m := ⟨1, 2⟩) (meth := k1m2) (c := k1c2) (by decide +kernel) rfl rfl rfl (by decide +kernel)
set_option maxRecDepth 65536 in
theorem w_c1 : (Jvm.Cond.code ({ cls := "com/example/orientry/orientry/MatricesProductPinLaw", name := "sh", desc := "(JI)I" } : Jvm.MethodName) method_2_code (3 : Nat) (Option.some Jvm.ClassFile.FieldType.int)).before args0 about1 = true := code_word (m := ⟨1, 1⟩) (meth := k1m1) (c := k1c1) (by decide +kernel) rfl rfl rfl (by decide +kernel)
set_option maxRecDepth 65536 in
theorem w_c2 : (Jvm.Cond.code ({ cls := "com/example/orientry/orientry/Matrices", name := "product", desc := "([D[D)[D" } : Jvm.MethodName) prog_7_method_3_code (5 : Nat) (Option.some (Jvm.ClassFile.FieldType.array Jvm.ClassFile.FieldType.double))).before args0 about1 = true := code_word (m := ⟨2, 1⟩) (meth := k2m1) (c := k2c1) (by decide +kernel) rfl rfl rfl (by decide +kernel)
def codes1 : List Jvm.Cond := [Jvm.Cond.code x code maxLocals ret, Jvm.Cond.code ({ cls := "com/example/orientry/orientry/MatricesProductPinLaw", name := "sh", desc := "(JI)I" } : Jvm.MethodName) method_2_code (3 : Nat) (Option.some Jvm.ClassFile.FieldType.int), Jvm.Cond.code ({ cls := "com/example/orientry/orientry/Matrices", name := "product", desc := "([D[D)[D" } : Jvm.MethodName) prog_7_method_3_code (5 : Nat) (Option.some (Jvm.ClassFile.FieldType.array Jvm.ClassFile.FieldType.double))]
set_option maxRecDepth 65536 in
theorem codes_eq : words1.filter isCode = codes1 := rfl
theorem w_codes : ∀ c ∈ words1.filter isCode, c.before args0 about1 = true := by
  rw [codes_eq]
  intro c hc
  simp only [codes1, List.mem_cons, List.not_mem_nil, or_false] at hc
  rcases hc with rfl | rfl | rfl
  · exact w_c0
  · exact w_c1
  · exact w_c2
set_option maxRecDepth 65536 in
theorem w_t1 : words1.all (fun c => isCode c || c.before args0 about1) = true := by decide +kernel
theorem w_tables : (allAtoms (Jvm.Cond.code x code maxLocals ret :: tables_1)).before args0 about1 = true := by
  rw [allAtoms_all]
  show words1.all (fun c => c.before args0 about1) = true
  refine all_split ?_ w_codes
  rw [w_t1]
set_option maxRecDepth 65536 in
theorem w_case : (Jvm.Cond.and given_1 narrow_1).before args0 about1 = true := by decide +kernel
theorem w_applies : (headSpec (Jvm.Cond.code x code maxLocals ret :: tables_1) room_1).applies x e0.platform about1 = true :=
  (Spec.applies_iff w_frames).mpr ⟨w_running, w_runnable, w_alone, w_named, w_hears, w_ripe, w_room, w_tables⟩
theorem atStart : AtStart classFile x code maxLocals ret World_1 tables_1 room_1 Calls_1 rest_1 Pre_1 launch0 p0 e0 about1 theMethod args0 below0 :=
  ⟨lists_1, trivial, launch0.admits_env _ _ _, launch0.least_env, fairChoices_fair.cas, fairChoices_fair.clock, w_frames, w_args, w_heap, w_applies, trivial, trivial, w_case⟩
end start1
theorem witness_1 : WitnessClaimed_1 := ⟨start1.p0, start1.e0, start1.about1, start1.theMethod, start1.args0, start1.below0, start1.atStart⟩
end Jvm.Pilot.@@N@@
