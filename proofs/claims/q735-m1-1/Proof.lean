import JvmDerived
import JvmDerived.Pilot.@@N@@Statement
import JvmDerived.Pilot.@@N@@Code
set_option linter.unusedVariables false
set_option linter.unusedSimpArgs false
namespace Jvm.Pilot.@@N@@
open Jvm Jvm.ClassFile Sem Op Lib Jvm.Free Jvm.Stand Jvm.LawKit Jvm.RoadKit Bundle Jvm.Pilot.@@N@@.Jvm.D
section OwnKit
/-- the run goes on from here to the method's end; what it leaves is Q -/
def Go (p : Program) (e : Env) (below : List Frame) (s : State) (k n : Nat) (Q : Option Value → Heap → List Loc → Prop) (T : State) (g : JFrame) : Prop :=
  ∃ s₂ o, Steps p.tables e below (T.setTop g) s₂ ∧ s₂.status = .running ∧ Ended s₂ below o ∧ ∃ v L, o = .returned v ∧ Q v s₂.heap L ∧ FrameEnd s o s₂ L k n
variable {p : Program} {l : Launch} {e : Env} {R : Room} {s : State} {m : MethodId} {args : Array Value} {below : List Frame} {meth : Method} {c : Code} {T : State} {locs : List Loc} {cells slots : Nat} {k n : Nat} {Q : Option Value → Heap → List Loc → Prop} {pc : Nat} {Ls : Array Slot} {st : List Value} {Z : State} {a0 : Array Value} {h h' : Heap}
theorem Go.via {T' : State} {g g' : JFrame} (q : ∀ t, Steps p.tables e below (T'.setTop g') t → Steps p.tables e below (T.setTop g) t) (H : Go p e below s k n Q T' g') : Go p e below s k n Q T g := by
  obtain ⟨s₂, o, h1, r⟩ := H
  exact ⟨s₂, o, q _ h1, r⟩
theorem tltL {x y : Int64} (q : x < y) : ifCond.holds .lt (lcmpW x y) = true ∧ ifCond.holds .ge (lcmpW x y) = false ∧ ifCond.holds .gt (lcmpW y x) = true ∧ ifCond.holds .le (lcmpW y x) = false := by
  simp only [if0]
  exact ⟨(tlt ((lw_lt x y).mpr q)).1, (tlt ((lw_lt x y).mpr q)).2.1, (tlt ((lw_gt y x).mpr q)).2.2.1, (tlt ((lw_gt y x).mpr q)).2.2.2⟩
theorem fltL {x y : Int64} (q : ¬ x < y) : ifCond.holds .lt (lcmpW x y) = false ∧ ifCond.holds .ge (lcmpW x y) = true ∧ ifCond.holds .gt (lcmpW y x) = false ∧ ifCond.holds .le (lcmpW y x) = true := by
  simp only [if0]
  exact ⟨(flt (mt (lw_lt x y).mp q)).1, (flt (mt (lw_lt x y).mp q)).2.1, (flt (mt (lw_gt y x).mp q)).2.2.1, (flt (mt (lw_gt y x).mp q)).2.2.2⟩
theorem teqL {x y : Int64} (q : x = y) : ifCond.holds .eq (lcmpW x y) = true ∧ ifCond.holds .ne (lcmpW x y) = false := by
  simp only [if0]
  exact ⟨(teq ((lw_eq x y).mpr q)).1, (teq ((lw_eq x y).mpr q)).2⟩
theorem feqL {x y : Int64} (q : ¬ x = y) : ifCond.holds .eq (lcmpW x y) = false ∧ ifCond.holds .ne (lcmpW x y) = true := by
  simp only [if0]
  exact ⟨(feq (mt (lw_eq x y).mp q)).1, (feq (mt (lw_eq x y).mp q)).2⟩
theorem tlt0 {x y : Int32} (q : x < y) : (y = 0 → ifCond.holds .lt x = true ∧ ifCond.holds .ge x = false) ∧ (x = 0 → ifCond.holds .gt y = true ∧ ifCond.holds .le y = false) := by
  refine ⟨fun r => ?_, fun r => ?_⟩ <;> subst r <;> simp only [if0]
  · exact ⟨(tlt q).1, (tlt q).2.1⟩
  · exact ⟨(tlt q).2.2.1, (tlt q).2.2.2⟩
theorem g_iloadN (pc' : Nat) (X : Stand p l e R s m args below meth c T locs cells slots) (hx : p.tables.exec = Jvm.exec) {i : Fin 4} {v : Int32} (hd : decode c.code pc = .ok (.iload_n i, 1)) (hp : pc + 1 = pc') (hl : Ls[i.val]? = some (.val (.int v))) (H : Go p e below s k n Q T (mkF m pc' Ls (.int v :: st))) : Go p e below s k n Q T (mkF m pc Ls st) := by
  subst hp
  exact H.via fun t q => XS.iloadN X.here hx rfl hd hl q
theorem g_iload (pc' : Nat) (X : Stand p l e R s m args below meth c T locs cells slots) (hx : p.tables.exec = Jvm.exec) {i : Nat} {v : Int32} (hd : decode c.code pc = .ok (.iload i, 2)) (hp : pc + 2 = pc') (hl : Ls[i]? = some (.val (.int v))) (H : Go p e below s k n Q T (mkF m pc' Ls (.int v :: st))) : Go p e below s k n Q T (mkF m pc Ls st) := by
  subst hp
  exact H.via fun t q => XS.iload X.here hx rfl hd hl q
theorem g_istoreN (pc' : Nat) (X : Stand p l e R s m args below meth c T locs cells slots) (hx : p.tables.exec = Jvm.exec) {i : Fin 4} {v : Int32} {Ls' : Array Slot} (hd : decode c.code pc = .ok (.istore_n i, 1)) (hp : pc + 1 = pc') (hl : storeLocals Ls i.val (.int v) = some Ls') (H : Go p e below s k n Q T (mkF m pc' Ls' st)) : Go p e below s k n Q T (mkF m pc Ls (.int v :: st)) := by
  subst hp
  exact H.via fun t q => XS.istoreN X.here hx rfl hd rfl hl q
theorem g_istore (pc' : Nat) (X : Stand p l e R s m args below meth c T locs cells slots) (hx : p.tables.exec = Jvm.exec) {i : Nat} {v : Int32} {Ls' : Array Slot} (hd : decode c.code pc = .ok (.istore i, 2)) (hp : pc + 2 = pc') (hl : storeLocals Ls i (.int v) = some Ls') (H : Go p e below s k n Q T (mkF m pc' Ls' st)) : Go p e below s k n Q T (mkF m pc Ls (.int v :: st)) := by
  subst hp
  exact H.via fun t q => XS.istore X.here hx rfl hd rfl hl q
theorem g_lloadN (pc' : Nat) (X : Stand p l e R s m args below meth c T locs cells slots) (hx : p.tables.exec = Jvm.exec) {i : Fin 4} {v : Int64} (hd : decode c.code pc = .ok (.lload_n i, 1)) (hp : pc + 1 = pc') (hl : Ls[i.val]? = some (.val (.long v))) (H : Go p e below s k n Q T (mkF m pc' Ls (.long v :: st))) : Go p e below s k n Q T (mkF m pc Ls st) := by
  subst hp
  exact H.via fun t q => XS.lloadN X.here hx rfl hd hl q
theorem g_lload (pc' : Nat) (X : Stand p l e R s m args below meth c T locs cells slots) (hx : p.tables.exec = Jvm.exec) {i : Nat} {v : Int64} (hd : decode c.code pc = .ok (.lload i, 2)) (hp : pc + 2 = pc') (hl : Ls[i]? = some (.val (.long v))) (H : Go p e below s k n Q T (mkF m pc' Ls (.long v :: st))) : Go p e below s k n Q T (mkF m pc Ls st) := by
  subst hp
  exact H.via fun t q => XS.lload X.here hx rfl hd hl q
theorem g_lstoreN (pc' : Nat) (X : Stand p l e R s m args below meth c T locs cells slots) (hx : p.tables.exec = Jvm.exec) {i : Fin 4} {v : Int64} {Ls' : Array Slot} (hd : decode c.code pc = .ok (.lstore_n i, 1)) (hp : pc + 1 = pc') (hl : storeLocals Ls i.val (.long v) = some Ls') (H : Go p e below s k n Q T (mkF m pc' Ls' st)) : Go p e below s k n Q T (mkF m pc Ls (.long v :: st)) := by
  subst hp
  exact H.via fun t q => XS.lstoreN X.here hx rfl hd rfl hl q
theorem g_lstore (pc' : Nat) (X : Stand p l e R s m args below meth c T locs cells slots) (hx : p.tables.exec = Jvm.exec) {i : Nat} {v : Int64} {Ls' : Array Slot} (hd : decode c.code pc = .ok (.lstore i, 2)) (hp : pc + 2 = pc') (hl : storeLocals Ls i (.long v) = some Ls') (H : Go p e below s k n Q T (mkF m pc' Ls' st)) : Go p e below s k n Q T (mkF m pc Ls (.long v :: st)) := by
  subst hp
  exact H.via fun t q => XS.lstore X.here hx rfl hd rfl hl q
theorem g_aloadN (pc' : Nat) (X : Stand p l e R s m args below meth c T locs cells slots) (hx : p.tables.exec = Jvm.exec) {i : Fin 4} {v : Value} (hd : decode c.code pc = .ok (.aload_n i, 1)) (hp : pc + 1 = pc') (hl : Ls[i.val]? = some (.val v)) (hv : v.isRef = true) (H : Go p e below s k n Q T (mkF m pc' Ls (v :: st))) : Go p e below s k n Q T (mkF m pc Ls st) := by
  subst hp
  exact H.via fun t q => XS.aloadN X.here hx rfl hd hl hv q
theorem g_aload (pc' : Nat) (X : Stand p l e R s m args below meth c T locs cells slots) (hx : p.tables.exec = Jvm.exec) {i : Nat} {v : Value} (hd : decode c.code pc = .ok (.aload i, 2)) (hp : pc + 2 = pc') (hl : Ls[i]? = some (.val v)) (hv : v.isRef = true) (H : Go p e below s k n Q T (mkF m pc' Ls (v :: st))) : Go p e below s k n Q T (mkF m pc Ls st) := by
  subst hp
  exact H.via fun t q => XS.aload X.here hx rfl hd hl hv q
theorem g_astoreN (pc' : Nat) (X : Stand p l e R s m args below meth c T locs cells slots) (hx : p.tables.exec = Jvm.exec) {i : Fin 4} {v : Value} {Ls' : Array Slot} (hd : decode c.code pc = .ok (.astore_n i, 1)) (hp : pc + 1 = pc') (hv : v.isRef = true) (hl : storeLocals Ls i.val v = some Ls') (H : Go p e below s k n Q T (mkF m pc' Ls' st)) : Go p e below s k n Q T (mkF m pc Ls (v :: st)) := by
  subst hp
  exact H.via fun t q => XS.astoreN X.here hx rfl hd rfl hv hl q
theorem g_astore (pc' : Nat) (X : Stand p l e R s m args below meth c T locs cells slots) (hx : p.tables.exec = Jvm.exec) {i : Nat} {v : Value} {Ls' : Array Slot} (hd : decode c.code pc = .ok (.astore i, 2)) (hp : pc + 2 = pc') (hv : v.isRef = true) (hl : storeLocals Ls i v = some Ls') (H : Go p e below s k n Q T (mkF m pc' Ls' st)) : Go p e below s k n Q T (mkF m pc Ls (v :: st)) := by
  subst hp
  exact H.via fun t q => XS.astore X.here hx rfl hd rfl hv hl q
theorem g_iconst (pc' : Nat) (X : Stand p l e R s m args below meth c T locs cells slots) (hx : p.tables.exec = Jvm.exec) {i : Int} {z : Int32} (hd : decode c.code pc = .ok (.iconst i, 1)) (hp : pc + 1 = pc') (hz : Int32.ofInt i = z) (H : Go p e below s k n Q T (mkF m pc' Ls (.int z :: st))) : Go p e below s k n Q T (mkF m pc Ls st) := by
  subst hp hz
  exact H.via fun t q => XS.iconst X.here hx rfl hd q
theorem g_bipush (pc' : Nat) (X : Stand p l e R s m args below meth c T locs cells slots) (hx : p.tables.exec = Jvm.exec) {i : Int} {z : Int32} (hd : decode c.code pc = .ok (.bipush i, 2)) (hp : pc + 2 = pc') (hz : (Int8.ofInt i).toInt32 = z) (H : Go p e below s k n Q T (mkF m pc' Ls (.int z :: st))) : Go p e below s k n Q T (mkF m pc Ls st) := by
  subst hp hz
  exact H.via fun t q => XS.bipush X.here hx rfl hd q
theorem g_sipush (pc' : Nat) (X : Stand p l e R s m args below meth c T locs cells slots) (hx : p.tables.exec = Jvm.exec) {i : Int} {z : Int32} (hd : decode c.code pc = .ok (.sipush i, 3)) (hp : pc + 3 = pc') (hz : (Int16.ofInt i).toInt32 = z) (H : Go p e below s k n Q T (mkF m pc' Ls (.int z :: st))) : Go p e below s k n Q T (mkF m pc Ls st) := by
  subst hp hz
  exact H.via fun t q => XS.sipush X.here hx rfl hd q
theorem g_lconst (pc' : Nat) (X : Stand p l e R s m args below meth c T locs cells slots) (hx : p.tables.exec = Jvm.exec) {i : Fin 2} {z : Int64} (hd : decode c.code pc = .ok (.lconst i, 1)) (hp : pc + 1 = pc') (hz : Int64.ofNat i.val = z) (H : Go p e below s k n Q T (mkF m pc' Ls (.long z :: st))) : Go p e below s k n Q T (mkF m pc Ls st) := by
  subst hp hz
  exact H.via fun t q => XS.lconst X.here hx rfl hd q
theorem g_aconst_null (pc' : Nat) (X : Stand p l e R s m args below meth c T locs cells slots) (hx : p.tables.exec = Jvm.exec) (hd : decode c.code pc = .ok (.aconst_null, 1)) (hp : pc + 1 = pc')  (H : Go p e below s k n Q T (mkF m pc' Ls (.null :: st))) : Go p e below s k n Q T (mkF m pc Ls st) := by
  subst hp
  exact H.via fun t q => XS.aconstNull X.here hx rfl hd q
theorem g_iadd (pc' : Nat) (X : Stand p l e R s m args below meth c T locs cells slots) (hx : p.tables.exec = Jvm.exec) {x y z : Int32} (hd : decode c.code pc = .ok (.iadd, 1)) (hp : pc + 1 = pc') (hz : x + y = z) (H : Go p e below s k n Q T (mkF m pc' Ls (.int z :: st))) : Go p e below s k n Q T (mkF m pc Ls (.int y :: .int x :: st)) := by
  subst hp hz
  exact H.via fun t q => XS.iadd X.here hx rfl hd rfl q
theorem g_isub (pc' : Nat) (X : Stand p l e R s m args below meth c T locs cells slots) (hx : p.tables.exec = Jvm.exec) {x y z : Int32} (hd : decode c.code pc = .ok (.isub, 1)) (hp : pc + 1 = pc') (hz : x - y = z) (H : Go p e below s k n Q T (mkF m pc' Ls (.int z :: st))) : Go p e below s k n Q T (mkF m pc Ls (.int y :: .int x :: st)) := by
  subst hp hz
  exact H.via fun t q => XS.isub X.here hx rfl hd rfl q
theorem g_imul (pc' : Nat) (X : Stand p l e R s m args below meth c T locs cells slots) (hx : p.tables.exec = Jvm.exec) {x y z : Int32} (hd : decode c.code pc = .ok (.imul, 1)) (hp : pc + 1 = pc') (hz : x * y = z) (H : Go p e below s k n Q T (mkF m pc' Ls (.int z :: st))) : Go p e below s k n Q T (mkF m pc Ls (.int y :: .int x :: st)) := by
  subst hp hz
  exact H.via fun t q => XS.imul X.here hx rfl hd rfl q
theorem g_iand (pc' : Nat) (X : Stand p l e R s m args below meth c T locs cells slots) (hx : p.tables.exec = Jvm.exec) {x y z : Int32} (hd : decode c.code pc = .ok (.iand, 1)) (hp : pc + 1 = pc') (hz : x &&& y = z) (H : Go p e below s k n Q T (mkF m pc' Ls (.int z :: st))) : Go p e below s k n Q T (mkF m pc Ls (.int y :: .int x :: st)) := by
  subst hp hz
  exact H.via fun t q => XS.iand X.here hx rfl hd rfl q
theorem g_ior (pc' : Nat) (X : Stand p l e R s m args below meth c T locs cells slots) (hx : p.tables.exec = Jvm.exec) {x y z : Int32} (hd : decode c.code pc = .ok (.ior, 1)) (hp : pc + 1 = pc') (hz : x ||| y = z) (H : Go p e below s k n Q T (mkF m pc' Ls (.int z :: st))) : Go p e below s k n Q T (mkF m pc Ls (.int y :: .int x :: st)) := by
  subst hp hz
  exact H.via fun t q => XS.ior X.here hx rfl hd rfl q
theorem g_ixor (pc' : Nat) (X : Stand p l e R s m args below meth c T locs cells slots) (hx : p.tables.exec = Jvm.exec) {x y z : Int32} (hd : decode c.code pc = .ok (.ixor, 1)) (hp : pc + 1 = pc') (hz : x ^^^ y = z) (H : Go p e below s k n Q T (mkF m pc' Ls (.int z :: st))) : Go p e below s k n Q T (mkF m pc Ls (.int y :: .int x :: st)) := by
  subst hp hz
  exact H.via fun t q => XS.ixor X.here hx rfl hd rfl q
theorem g_ladd (pc' : Nat) (X : Stand p l e R s m args below meth c T locs cells slots) (hx : p.tables.exec = Jvm.exec) {x y z : Int64} (hd : decode c.code pc = .ok (.ladd, 1)) (hp : pc + 1 = pc') (hz : x + y = z) (H : Go p e below s k n Q T (mkF m pc' Ls (.long z :: st))) : Go p e below s k n Q T (mkF m pc Ls (.long y :: .long x :: st)) := by
  subst hp hz
  exact H.via fun t q => XS.ladd X.here hx rfl hd rfl q
theorem g_lsub (pc' : Nat) (X : Stand p l e R s m args below meth c T locs cells slots) (hx : p.tables.exec = Jvm.exec) {x y z : Int64} (hd : decode c.code pc = .ok (.lsub, 1)) (hp : pc + 1 = pc') (hz : x - y = z) (H : Go p e below s k n Q T (mkF m pc' Ls (.long z :: st))) : Go p e below s k n Q T (mkF m pc Ls (.long y :: .long x :: st)) := by
  subst hp hz
  exact H.via fun t q => XS.lsub X.here hx rfl hd rfl q
theorem g_lmul (pc' : Nat) (X : Stand p l e R s m args below meth c T locs cells slots) (hx : p.tables.exec = Jvm.exec) {x y z : Int64} (hd : decode c.code pc = .ok (.lmul, 1)) (hp : pc + 1 = pc') (hz : x * y = z) (H : Go p e below s k n Q T (mkF m pc' Ls (.long z :: st))) : Go p e below s k n Q T (mkF m pc Ls (.long y :: .long x :: st)) := by
  subst hp hz
  exact H.via fun t q => XS.lmul X.here hx rfl hd rfl q
theorem g_land (pc' : Nat) (X : Stand p l e R s m args below meth c T locs cells slots) (hx : p.tables.exec = Jvm.exec) {x y z : Int64} (hd : decode c.code pc = .ok (.land, 1)) (hp : pc + 1 = pc') (hz : x &&& y = z) (H : Go p e below s k n Q T (mkF m pc' Ls (.long z :: st))) : Go p e below s k n Q T (mkF m pc Ls (.long y :: .long x :: st)) := by
  subst hp hz
  exact H.via fun t q => XS.land X.here hx rfl hd rfl q
theorem g_lor (pc' : Nat) (X : Stand p l e R s m args below meth c T locs cells slots) (hx : p.tables.exec = Jvm.exec) {x y z : Int64} (hd : decode c.code pc = .ok (.lor, 1)) (hp : pc + 1 = pc') (hz : x ||| y = z) (H : Go p e below s k n Q T (mkF m pc' Ls (.long z :: st))) : Go p e below s k n Q T (mkF m pc Ls (.long y :: .long x :: st)) := by
  subst hp hz
  exact H.via fun t q => XS.lor X.here hx rfl hd rfl q
theorem g_lxor (pc' : Nat) (X : Stand p l e R s m args below meth c T locs cells slots) (hx : p.tables.exec = Jvm.exec) {x y z : Int64} (hd : decode c.code pc = .ok (.lxor, 1)) (hp : pc + 1 = pc') (hz : x ^^^ y = z) (H : Go p e below s k n Q T (mkF m pc' Ls (.long z :: st))) : Go p e below s k n Q T (mkF m pc Ls (.long y :: .long x :: st)) := by
  subst hp hz
  exact H.via fun t q => XS.lxor X.here hx rfl hd rfl q
theorem g_ishl (pc' : Nat) (X : Stand p l e R s m args below meth c T locs cells slots) (hx : p.tables.exec = Jvm.exec) {x y z : Int32} (hd : decode c.code pc = .ok (.ishl, 1)) (hp : pc + 1 = pc') (hz : x <<< (y &&& 31) = z) (H : Go p e below s k n Q T (mkF m pc' Ls (.int z :: st))) : Go p e below s k n Q T (mkF m pc Ls (.int y :: .int x :: st)) := by
  subst hp hz
  exact H.via fun t q => XS.ishl X.here hx rfl hd rfl q
theorem g_ishr (pc' : Nat) (X : Stand p l e R s m args below meth c T locs cells slots) (hx : p.tables.exec = Jvm.exec) {x y z : Int32} (hd : decode c.code pc = .ok (.ishr, 1)) (hp : pc + 1 = pc') (hz : x >>> (y &&& 31) = z) (H : Go p e below s k n Q T (mkF m pc' Ls (.int z :: st))) : Go p e below s k n Q T (mkF m pc Ls (.int y :: .int x :: st)) := by
  subst hp hz
  exact H.via fun t q => XS.ishr X.here hx rfl hd rfl q
theorem g_iushr (pc' : Nat) (X : Stand p l e R s m args below meth c T locs cells slots) (hx : p.tables.exec = Jvm.exec) {x y z : Int32} (hd : decode c.code pc = .ok (.iushr, 1)) (hp : pc + 1 = pc') (hz : (x.toUInt32 >>> (y &&& 31).toUInt32).toInt32 = z) (H : Go p e below s k n Q T (mkF m pc' Ls (.int z :: st))) : Go p e below s k n Q T (mkF m pc Ls (.int y :: .int x :: st)) := by
  subst hp hz
  exact H.via fun t q => XS.iushr X.here hx rfl hd rfl q
theorem g_lshl (pc' : Nat) (X : Stand p l e R s m args below meth c T locs cells slots) (hx : p.tables.exec = Jvm.exec) {x z : Int64} {y : Int32} (hd : decode c.code pc = .ok (.lshl, 1)) (hp : pc + 1 = pc') (hz : x <<< (y &&& 0x3f).toInt64 = z) (H : Go p e below s k n Q T (mkF m pc' Ls (.long z :: st))) : Go p e below s k n Q T (mkF m pc Ls (.int y :: .long x :: st)) := by
  subst hp hz
  exact H.via fun t q => XS.lshl X.here hx rfl hd rfl q
theorem g_lshr (pc' : Nat) (X : Stand p l e R s m args below meth c T locs cells slots) (hx : p.tables.exec = Jvm.exec) {x z : Int64} {y : Int32} (hd : decode c.code pc = .ok (.lshr, 1)) (hp : pc + 1 = pc') (hz : x >>> (y &&& 0x3f).toInt64 = z) (H : Go p e below s k n Q T (mkF m pc' Ls (.long z :: st))) : Go p e below s k n Q T (mkF m pc Ls (.int y :: .long x :: st)) := by
  subst hp hz
  exact H.via fun t q => XS.lshr X.here hx rfl hd rfl q
theorem g_lushr (pc' : Nat) (X : Stand p l e R s m args below meth c T locs cells slots) (hx : p.tables.exec = Jvm.exec) {x z : Int64} {y : Int32} (hd : decode c.code pc = .ok (.lushr, 1)) (hp : pc + 1 = pc') (hz : (x.toUInt64 >>> (y &&& 0x3f).toInt64.toUInt64).toInt64 = z) (H : Go p e below s k n Q T (mkF m pc' Ls (.long z :: st))) : Go p e below s k n Q T (mkF m pc Ls (.int y :: .long x :: st)) := by
  subst hp hz
  exact H.via fun t q => XS.lushr X.here hx rfl hd rfl q
theorem g_idiv (pc' : Nat) (X : Stand p l e R s m args below meth c T locs cells slots) (hx : p.tables.exec = Jvm.exec) {x y z : Int32} (hd : decode c.code pc = .ok (.idiv, 1)) (hp : pc + 1 = pc') (hy : y ≠ 0) (hz : x / y = z) (H : Go p e below s k n Q T (mkF m pc' Ls (.int z :: st))) : Go p e below s k n Q T (mkF m pc Ls (.int y :: .int x :: st)) := by
  subst hp hz
  exact H.via fun t q => XS.idiv X.here hx rfl hd rfl hy q
theorem g_irem (pc' : Nat) (X : Stand p l e R s m args below meth c T locs cells slots) (hx : p.tables.exec = Jvm.exec) {x y z : Int32} (hd : decode c.code pc = .ok (.irem, 1)) (hp : pc + 1 = pc') (hy : y ≠ 0) (hz : x % y = z) (H : Go p e below s k n Q T (mkF m pc' Ls (.int z :: st))) : Go p e below s k n Q T (mkF m pc Ls (.int y :: .int x :: st)) := by
  subst hp hz
  exact H.via fun t q => iremM X hx rfl hd rfl hy q
theorem g_ldiv (pc' : Nat) (X : Stand p l e R s m args below meth c T locs cells slots) (hx : p.tables.exec = Jvm.exec) {x y z : Int64} (hd : decode c.code pc = .ok (.ldiv, 1)) (hp : pc + 1 = pc') (hy : y ≠ 0) (hz : x / y = z) (H : Go p e below s k n Q T (mkF m pc' Ls (.long z :: st))) : Go p e below s k n Q T (mkF m pc Ls (.long y :: .long x :: st)) := by
  subst hp hz
  exact H.via fun t q => XS.ldiv X.here hx rfl hd rfl hy q
theorem g_lrem (pc' : Nat) (X : Stand p l e R s m args below meth c T locs cells slots) (hx : p.tables.exec = Jvm.exec) {x y z : Int64} (hd : decode c.code pc = .ok (.lrem, 1)) (hp : pc + 1 = pc') (hy : y ≠ 0) (hz : x % y = z) (H : Go p e below s k n Q T (mkF m pc' Ls (.long z :: st))) : Go p e below s k n Q T (mkF m pc Ls (.long y :: .long x :: st)) := by
  subst hp hz
  exact H.via fun t q => XS.lrem X.here hx rfl hd rfl hy (by rw [lrem_mod]; exact q)
theorem g_ineg (pc' : Nat) (X : Stand p l e R s m args below meth c T locs cells slots) (hx : p.tables.exec = Jvm.exec) {x : Int32} {z : Int32} (hd : decode c.code pc = .ok (.ineg, 1)) (hp : pc + 1 = pc') (hz : -x = z) (H : Go p e below s k n Q T (mkF m pc' Ls (.int z :: st))) : Go p e below s k n Q T (mkF m pc Ls (.int x :: st)) := by
  subst hp hz
  exact H.via fun t q => XS.ineg X.here hx rfl hd rfl q
theorem g_lneg (pc' : Nat) (X : Stand p l e R s m args below meth c T locs cells slots) (hx : p.tables.exec = Jvm.exec) {x : Int64} {z : Int64} (hd : decode c.code pc = .ok (.lneg, 1)) (hp : pc + 1 = pc') (hz : -x = z) (H : Go p e below s k n Q T (mkF m pc' Ls (.long z :: st))) : Go p e below s k n Q T (mkF m pc Ls (.long x :: st)) := by
  subst hp hz
  exact H.via fun t q => XS.lneg X.here hx rfl hd rfl q
theorem g_i2l (pc' : Nat) (X : Stand p l e R s m args below meth c T locs cells slots) (hx : p.tables.exec = Jvm.exec) {x : Int32} {z : Int64} (hd : decode c.code pc = .ok (.i2l, 1)) (hp : pc + 1 = pc') (hz : x.toInt64 = z) (H : Go p e below s k n Q T (mkF m pc' Ls (.long z :: st))) : Go p e below s k n Q T (mkF m pc Ls (.int x :: st)) := by
  subst hp hz
  exact H.via fun t q => XS.i2l X.here hx rfl hd rfl q
theorem g_l2i (pc' : Nat) (X : Stand p l e R s m args below meth c T locs cells slots) (hx : p.tables.exec = Jvm.exec) {x : Int64} {z : Int32} (hd : decode c.code pc = .ok (.l2i, 1)) (hp : pc + 1 = pc') (hz : x.toInt32 = z) (H : Go p e below s k n Q T (mkF m pc' Ls (.int z :: st))) : Go p e below s k n Q T (mkF m pc Ls (.long x :: st)) := by
  subst hp hz
  exact H.via fun t q => XS.l2i X.here hx rfl hd rfl q
theorem g_i2b (pc' : Nat) (X : Stand p l e R s m args below meth c T locs cells slots) (hx : p.tables.exec = Jvm.exec) {x : Int32} {z : Int32} (hd : decode c.code pc = .ok (.i2b, 1)) (hp : pc + 1 = pc') (hz : x.toInt8.toInt32 = z) (H : Go p e below s k n Q T (mkF m pc' Ls (.int z :: st))) : Go p e below s k n Q T (mkF m pc Ls (.int x :: st)) := by
  subst hp hz
  exact H.via fun t q => XS.i2b X.here hx rfl hd rfl q
theorem g_i2s (pc' : Nat) (X : Stand p l e R s m args below meth c T locs cells slots) (hx : p.tables.exec = Jvm.exec) {x : Int32} {z : Int32} (hd : decode c.code pc = .ok (.i2s, 1)) (hp : pc + 1 = pc') (hz : x.toInt16.toInt32 = z) (H : Go p e below s k n Q T (mkF m pc' Ls (.int z :: st))) : Go p e below s k n Q T (mkF m pc Ls (.int x :: st)) := by
  subst hp hz
  exact H.via fun t q => XS.i2s X.here hx rfl hd rfl q
theorem g_i2c (pc' : Nat) (X : Stand p l e R s m args below meth c T locs cells slots) (hx : p.tables.exec = Jvm.exec) {x : Int32} {z : Int32} (hd : decode c.code pc = .ok (.i2c, 1)) (hp : pc + 1 = pc') (hz : x.toUInt32.toUInt16.toUInt32.toInt32 = z) (H : Go p e below s k n Q T (mkF m pc' Ls (.int z :: st))) : Go p e below s k n Q T (mkF m pc Ls (.int x :: st)) := by
  subst hp hz
  exact H.via fun t q => XS.i2c X.here hx rfl hd rfl q
theorem g_dup (pc' : Nat) (X : Stand p l e R s m args below meth c T locs cells slots) (hx : p.tables.exec = Jvm.exec) {v : Value} (hd : decode c.code pc = .ok (.dup, 1)) (hp : pc + 1 = pc') (hv : v.category = 1) (H : Go p e below s k n Q T (mkF m pc' Ls (v :: v :: st))) : Go p e below s k n Q T (mkF m pc Ls (v :: st)) := by
  subst hp
  exact H.via fun t q => XS.dup X.here hx rfl hd rfl hv q
theorem g_pop (pc' : Nat) (X : Stand p l e R s m args below meth c T locs cells slots) (hx : p.tables.exec = Jvm.exec) {v : Value} (hd : decode c.code pc = .ok (.pop, 1)) (hp : pc + 1 = pc') (hv : v.category = 1) (H : Go p e below s k n Q T (mkF m pc' Ls st)) : Go p e below s k n Q T (mkF m pc Ls (v :: st)) := by
  subst hp
  exact H.via fun t q => XS.pop X.here hx rfl hd rfl hv q
theorem g_dup_x1 (pc' : Nat) (X : Stand p l e R s m args below meth c T locs cells slots) (hx : p.tables.exec = Jvm.exec) {v w : Value} (hd : decode c.code pc = .ok (.dup_x1, 1)) (hp : pc + 1 = pc') (hv : v.category = 1) (hw : w.category = 1) (H : Go p e below s k n Q T (mkF m pc' Ls (v :: w :: v :: st))) : Go p e below s k n Q T (mkF m pc Ls (v :: w :: st)) := by
  subst hp
  exact H.via fun t q => XS.dupX1 X.here hx rfl hd rfl hv hw q
theorem g_dup2 (pc' : Nat) (X : Stand p l e R s m args below meth c T locs cells slots) (hx : p.tables.exec = Jvm.exec) {v w : Value} (hd : decode c.code pc = .ok (.dup2, 1)) (hp : pc + 1 = pc') (hv : v.category = 1) (hw : w.category = 1) (H : Go p e below s k n Q T (mkF m pc' Ls (v :: w :: v :: w :: st))) : Go p e below s k n Q T (mkF m pc Ls (v :: w :: st)) := by
  subst hp
  exact H.via fun t q => XT.dup2 X.here hx rfl hd rfl hv hw q
theorem g_iinc (pc' : Nat) (X : Stand p l e R s m args below meth c T locs cells slots) (hx : p.tables.exec = Jvm.exec) {i : Nat} {cst : Int} {x z : Int32} {Ls' : Array Slot} (hd : decode c.code pc = .ok (.iinc i cst, 3)) (hp : pc + 3 = pc') (hl : Ls[i]? = some (.val (.int x))) (hz : x + Int32.ofInt cst = z) (hl' : storeLocals Ls i (.int z) = some Ls') (H : Go p e below s k n Q T (mkF m pc' Ls' st)) : Go p e below s k n Q T (mkF m pc Ls st) := by
  subst hp hz
  exact H.via fun t q => XS.iinc X.here hx rfl hd hl hl' q
theorem g_goto (pc' : Nat) (X : Stand p l e R s m args below meth c T locs cells slots) (hx : p.tables.exec = Jvm.exec) {o : Int} (hd : decode c.code pc = .ok (.goto o, 3)) (ho : 0 ≤ (pc : Int) + o) (hp : ((pc : Int) + o).toNat = pc') (H : Go p e below s k n Q T (mkF m pc' Ls st)) : Go p e below s k n Q T (mkF m pc Ls st) :=
  H.via fun t q => XS.goto X.here hx rfl rfl hd ho hp q
theorem g_ifYes (pc' : Nat) (X : Stand p l e R s m args below meth c T locs cells slots) (hx : p.tables.exec = Jvm.exec) {cd : ClassFile.Cond} {x : Int32} {o : Int} (hd : decode c.code pc = .ok (.ifCond cd o, 3)) (hc : ifCond.holds cd x = true) (ho : 0 ≤ (pc : Int) + o) (hp : ((pc : Int) + o).toNat = pc') (H : Go p e below s k n Q T (mkF m pc' Ls st)) : Go p e below s k n Q T (mkF m pc Ls (.int x :: st)) :=
  H.via fun t q => XS.ifYes X.here hx rfl rfl hd rfl hc ho hp q
theorem g_ifNo (pc' : Nat) (X : Stand p l e R s m args below meth c T locs cells slots) (hx : p.tables.exec = Jvm.exec) {cd : ClassFile.Cond} {x : Int32} {o : Int} (hd : decode c.code pc = .ok (.ifCond cd o, 3)) (hc : ifCond.holds cd x = false) (hp : pc + 3 = pc') (H : Go p e below s k n Q T (mkF m pc' Ls st)) : Go p e below s k n Q T (mkF m pc Ls (.int x :: st)) := by
  subst hp
  exact H.via fun t q => XS.ifNo X.here hx rfl hd rfl hc q
theorem g_icmpYes (pc' : Nat) (X : Stand p l e R s m args below meth c T locs cells slots) (hx : p.tables.exec = Jvm.exec) {cd : ClassFile.Cond} {x y : Int32} {o : Int} (hd : decode c.code pc = .ok (.if_icmp cd o, 3)) (hc : if_icmp.holds cd x y = true) (ho : 0 ≤ (pc : Int) + o) (hp : ((pc : Int) + o).toNat = pc') (H : Go p e below s k n Q T (mkF m pc' Ls st)) : Go p e below s k n Q T (mkF m pc Ls (.int y :: .int x :: st)) :=
  H.via fun t q => XS.icmpYes X.here hx rfl rfl hd rfl hc ho hp q
theorem g_icmpNo (pc' : Nat) (X : Stand p l e R s m args below meth c T locs cells slots) (hx : p.tables.exec = Jvm.exec) {cd : ClassFile.Cond} {x y : Int32} {o : Int} (hd : decode c.code pc = .ok (.if_icmp cd o, 3)) (hc : if_icmp.holds cd x y = false) (hp : pc + 3 = pc') (H : Go p e below s k n Q T (mkF m pc' Ls st)) : Go p e below s k n Q T (mkF m pc Ls (.int y :: .int x :: st)) := by
  subst hp
  exact H.via fun t q => XS.icmpNo X.here hx rfl hd rfl hc q
theorem g_lcmpYes (pc' : Nat) (X : Stand p l e R s m args below meth c T locs cells slots) (hx : p.tables.exec = Jvm.exec) {cd : ClassFile.Cond} {x y : Int64} {o : Int} {pc1 : Nat} (hd : decode c.code pc = .ok (.lcmp, 1)) (hp1 : pc + 1 = pc1) (hd' : decode c.code pc1 = .ok (.ifCond cd o, 3)) (hc : ifCond.holds cd (lcmpW x y) = true) (ho : 0 ≤ (pc1 : Int) + o) (hp : ((pc1 : Int) + o).toNat = pc') (H : Go p e below s k n Q T (mkF m pc' Ls st)) : Go p e below s k n Q T (mkF m pc Ls (.long y :: .long x :: st)) := by
  subst hp1
  exact H.via fun t q => XS.lcmp X.here hx rfl hd rfl (XS.ifYes X.here hx rfl rfl hd' rfl hc ho hp q)
theorem g_lcmpNo (pc' : Nat) (X : Stand p l e R s m args below meth c T locs cells slots) (hx : p.tables.exec = Jvm.exec) {cd : ClassFile.Cond} {x y : Int64} {o : Int} {pc1 : Nat} (hd : decode c.code pc = .ok (.lcmp, 1)) (hp1 : pc + 1 = pc1) (hd' : decode c.code pc1 = .ok (.ifCond cd o, 3)) (hc : ifCond.holds cd (lcmpW x y) = false) (hp : pc1 + 3 = pc') (H : Go p e below s k n Q T (mkF m pc' Ls st)) : Go p e below s k n Q T (mkF m pc Ls (.long y :: .long x :: st)) := by
  subst hp1; subst hp
  exact H.via fun t q => XS.lcmp X.here hx rfl hd rfl (XS.ifNo X.here hx rfl hd' rfl hc q)
theorem g_ifnullYes (pc' : Nat) (X : Stand p l e R s m args below meth c T locs cells slots) (hx : p.tables.exec = Jvm.exec) {b : Addr} {o : Int} (hd : decode c.code pc = .ok (.ifnull o, 3)) (ho : 0 ≤ (pc : Int) + o) (hp : ((pc : Int) + o).toNat = pc') (H : Go p e below s k n Q T (mkF m pc' Ls st)) : Go p e below s k n Q T (mkF m pc Ls (.null :: st)) :=
  H.via fun t q => XS.ifnullYes X.here hx rfl rfl hd rfl ho hp q
theorem g_ifnullNo (pc' : Nat) (X : Stand p l e R s m args below meth c T locs cells slots) (hx : p.tables.exec = Jvm.exec) {b : Addr} {o : Int} (hd : decode c.code pc = .ok (.ifnull o, 3)) (hp : pc + 3 = pc') (H : Go p e below s k n Q T (mkF m pc' Ls st)) : Go p e below s k n Q T (mkF m pc Ls (.ref b :: st)) := by
  subst hp
  exact H.via fun t q => XS.ifnullNo X.here hx rfl hd rfl q
theorem g_ifnonnullYes (pc' : Nat) (X : Stand p l e R s m args below meth c T locs cells slots) (hx : p.tables.exec = Jvm.exec) {b : Addr} {o : Int} (hd : decode c.code pc = .ok (.ifnonnull o, 3)) (ho : 0 ≤ (pc : Int) + o) (hp : ((pc : Int) + o).toNat = pc') (H : Go p e below s k n Q T (mkF m pc' Ls st)) : Go p e below s k n Q T (mkF m pc Ls (.ref b :: st)) :=
  H.via fun t q => XS.ifnonnullYes X.here hx rfl rfl hd rfl ho hp q
theorem g_ifnonnullNo (pc' : Nat) (X : Stand p l e R s m args below meth c T locs cells slots) (hx : p.tables.exec = Jvm.exec) {b : Addr} {o : Int} (hd : decode c.code pc = .ok (.ifnonnull o, 3)) (hp : pc + 3 = pc') (H : Go p e below s k n Q T (mkF m pc' Ls st)) : Go p e below s k n Q T (mkF m pc Ls (.null :: st)) := by
  subst hp
  exact H.via fun t q => XS.ifnonnullNo X.here hx rfl hd rfl q
theorem g_ldc (pc' : Nat) (X : Stand p l e R s m args below meth c T locs cells slots) (hx : p.tables.exec = Jvm.exec) (hZ : Z.Warmed39 s.vm) {own : String} {index : Nat} {z : Int32} (hown : s.vm.findClass own = some m.cls) (w : (Cond.constant own index z).before a0 Z = true) (hd : decode c.code pc = .ok (.ldc index, 2)) (hp : pc + 2 = pc') (H : Go p e below s k n Q T (mkF m pc' Ls (.int z :: st))) : Go p e below s k n Q T (mkF m pc Ls st) := by
  subst hp
  exact H.via fun t q => X.ldcInt hx hown (mvT hZ w) (g := mkF m pc Ls st) rfl hd t q
theorem g_ldc2 (pc' : Nat) (X : Stand p l e R s m args below meth c T locs cells slots) (hx : p.tables.exec = Jvm.exec) (hZ : Z.Warmed39 s.vm) {own : String} {index : Nat} {z : Int64} (hown : s.vm.findClass own = some m.cls) (w : (Cond.constantLong own index z).before a0 Z = true) (hd : decode c.code pc = .ok (.ldc2_w index, 3)) (hp : pc + 3 = pc') (H : Go p e below s k n Q T (mkF m pc' Ls (.long z :: st))) : Go p e below s k n Q T (mkF m pc Ls st) := by
  subst hp
  exact H.via fun t q => X.ldc2Long hx hown (mvT hZ w) (g := mkF m pc Ls st) rfl hd t q
theorem g_retI (X : Stand p l e R s m args below meth c T locs cells slots) (hx : p.tables.exec = Jvm.exec) (hret : meth.sig.returnType = some .int) (hlk : meth.locks = false) {z : Int32} (hd : decode c.code pc = .ok (.ireturn, 1)) (hk : cells ≤ k) (hn : slots ≤ n) (hQ : Q (some (.int z)) T.heap locs) : Go p e below s k n Q T (mkF m pc Ls (.int z :: st)) := by
  obtain ⟨fs, hr, hrun, hended, hW, hsame⟩ := X.leave (v := some (.int z)) (fun q => by rw [hret] at q; cases q) hlk
  exact ⟨_, _, retOut X hx hret rfl (Or.inl ⟨rfl, Or.inl rfl, z, rfl⟩) hd hr, hrun, hended, _, _, rfl, hQ, ⟨_, rfl⟩, hW, hsame.mono hk hn⟩
theorem g_retJ (X : Stand p l e R s m args below meth c T locs cells slots) (hx : p.tables.exec = Jvm.exec) (hret : meth.sig.returnType = some .long) (hlk : meth.locks = false) {z : Int64} (hd : decode c.code pc = .ok (.lreturn, 1)) (hk : cells ≤ k) (hn : slots ≤ n) (hQ : Q (some (.long z)) T.heap locs) : Go p e below s k n Q T (mkF m pc Ls (.long z :: st)) := by
  obtain ⟨fs, hr, hrun, hended, hW, hsame⟩ := X.leave (v := some (.long z)) (fun q => by rw [hret] at q; cases q) hlk
  exact ⟨_, _, retOut X hx hret rfl (Or.inr (Or.inl ⟨rfl, rfl, z, rfl⟩)) hd hr, hrun, hended, _, _, rfl, hQ, ⟨_, rfl⟩, hW, hsame.mono hk hn⟩
theorem g_retA {ty : FieldType} (X : Stand p l e R s m args below meth c T locs cells slots) (hx : p.tables.exec = Jvm.exec) (hret : meth.sig.returnType = some ty) (hlk : meth.locks = false) {v : Value} (hty : ty.isReference = true) (hv : v.isRef = true) (hnv : narrow ty v = v) (hd : decode c.code pc = .ok (.areturn, 1)) (hk : cells ≤ k) (hn : slots ≤ n) (hQ : Q (some v) T.heap locs) : Go p e below s k n Q T (mkF m pc Ls (v :: st)) := by
  obtain ⟨fs, hr, hrun, hended, hW, hsame⟩ := X.leave (v := some v) (fun q => by rw [hret] at q; cases q) hlk
  exact ⟨_, _, retOut X hx hret hnv (Or.inr (Or.inr (Or.inr (Or.inr ⟨rfl, hty, hv⟩)))) hd hr, hrun, hended, _, _, rfl, hQ, ⟨_, rfl⟩, hW, hsame.mono hk hn⟩
theorem g_ret0 (X : Stand p l e R s m args below meth c T locs cells slots) (hx : p.tables.exec = Jvm.exec) (hret : meth.sig.returnType = none) (hlk : meth.locks = false) (hd : decode c.code pc = .ok (.return_, 1)) (hk : cells ≤ k) (hn : slots ≤ n) (hQ : Q (none) T.heap locs) : Go p e below s k n Q T (mkF m pc Ls []) := by
  obtain ⟨fs, hr, hrun, hended, hW, hsame⟩ := X.leave (v := none) (fun _ => rfl) hlk
  exact ⟨_, _, X.returnOut hx hret hd hr, hrun, hended, _, _, rfl, hQ, ⟨_, rfl⟩, hW, hsame.mono hk hn⟩
theorem g_retN (X : Stand p l e R s m args below meth c T locs cells slots) (hx : p.tables.exec = Jvm.exec) {t : FieldType} (hret : meth.sig.returnType = some t) (hlk : meth.locks = false) {z z' : Int32} (ht : t = .boolean ∨ t = .byte ∨ t = .char ∨ t = .short) (hz : nar t z = z') (hd : decode c.code pc = .ok (.ireturn, 1)) (hk : cells ≤ k) (hn : slots ≤ n) (hQ : Q (some (.int z')) T.heap locs) : Go p e below s k n Q T (mkF m pc Ls (.int z :: st)) := by
  subst hz
  obtain ⟨fs, hr, hrun, hended, hW, hsame⟩ := X.leave (v := some (.int (nar t z))) (fun q => by rw [hret] at q; cases q) hlk
  exact ⟨_, _, retN X hx hret ht hd hr, hrun, hended, _, _, rfl, hQ, ⟨_, rfl⟩, hW, hsame.mono hk hn⟩
theorem g_getF (pc' : Nat) (X : Stand p l e R s m args below meth c T locs cells slots) (hx : p.tables.exec = Jvm.exec) (hZ : Z.Warmed39 s.vm) {own R0 O nm d : String} {index : Nat} (hown : s.vm.findClass own = some m.cls) (w : (Cond.fieldLink own index R0 nm d).before a0 Z = true) (via : Via Z R0 O nm d) (eT : T.heap = h) {a : Addr} {v : Value} (F : Fld Z h a O nm d v) (hd : decode c.code pc = .ok (.getfield index, 3)) (hp : pc + 3 = pc') (H : ∀ T', Stand p l e R s m args below meth c T' locs cells slots → T'.heap = h → Go p e below s k n Q T' (mkF m pc' Ls (v :: st))) : Go p e below s k n Q T (mkF m pc Ls (.ref a :: st)) := by
  subst hp
  obtain ⟨T', X', e', q⟩ := getF X hx hZ hown (host := "") (Or.inl w) via eT F (g := mkF m pc Ls (.ref a :: st)) rfl rfl hd
  exact (H T' X' e').via q
theorem g_putF (pc' : Nat) (X : Stand p l e R s m args below meth c T locs cells slots) (hx : p.tables.exec = Jvm.exec) (hZ : Z.Warmed39 s.vm) {own R0 O nm d C : String} {index kk : Nat} {ty : FieldType} (hown : s.vm.findClass own = some m.cls) (w : (Cond.fieldLink own index R0 nm d).before a0 Z = true) (via : Via Z R0 O nm d) (eT : T.heap = h) {a : Addr} {v old : Value} (F : Fld Z h a O nm d old) (E : Exa Z h a C) (L : (Cond.lays C O nm d).before a0 Z = true ∨ ((Cond.laysFinal C O nm d).before a0 Z = true ∧ own = O ∧ meth.name = "<init>")) (wi : (Cond.instantiable C kk).before a0 Z = true) (hty : parseFieldDescriptor d = some ty) (hn : narrow ty v = v) (hf : fits ty v = true) (hd : decode c.code pc = .ok (.putfield index, 3)) (hp : pc + 3 = pc') (H : ∀ T' h', Stand p l e R s m args below meth c T' (locs ++ [⟨a, Jvm.RoadKit.slotOf Z O nm d⟩]) cells slots → T'.heap = h' → Wr h h' a (Jvm.RoadKit.slotOf Z O nm d) v → Go p e below s k n Q T' (mkF m pc' Ls st)) : Go p e below s k n Q T (mkF m pc Ls (v :: .ref a :: st)) := by
  subst hp
  obtain ⟨T', h', X', e', W, q⟩ := putF X hx hZ hown (host := "") (Or.inl w) via eT F E L wi hty hn hf (g := mkF m pc Ls (v :: .ref a :: st)) rfl rfl hd
  exact (H T' h' X' e' W).via q
theorem g_newO (pc' : Nat) (X : Stand p l e R s m args below meth c T locs cells slots) (hx : p.tables.exec = Jvm.exec) (hZ : Z.Warmed39 s.vm) {own C : String} {index nn : Nat} (hown : s.vm.findClass own = some m.cls) (w : (Cond.classLink own index C).before a0 Z = true) (wi : (Cond.instantiable C nn).before a0 Z = true) (wz : (Cond.initialized C).before a0 Z = true) (eT : T.heap = h) (hd : decode c.code pc = .ok (.new index, 3)) (hc : cells + 1 ≤ R.cells) (hl : slots + nn ≤ R.slots) (hp : pc + 3 = pc') (H : ∀ T' h' b, Stand p l e R s m args below meth c T' locs (cells + 1) (slots + nn) → T'.heap = h' → Ext h h' → b = h.size → Exa Z h' b C → (∀ {O nm d : String} {ty : FieldType}, Laid Z a0 C O nm d → parseFieldDescriptor d = some ty → Fld Z h' b O nm d (defaultValue ty)) → Go p e below s k n Q T' (mkF m pc' Ls (.ref b :: st))) : Go p e below s k n Q T (mkF m pc Ls st) := by
  subst hp
  obtain ⟨T', h', X', e', E, A, D, -, q⟩ := newO X hx hZ hown w wi wz eT (g := mkF m pc Ls st) rfl hd hc hl
  exact (H T' h' _ X' e' E rfl A D).via q
theorem g_initO (pc' : Nat) (X : Stand p l e R s m args below meth c T locs cells slots) (hx : p.tables.exec = Jvm.exec) (hZ : Z.Warmed39 s.vm) {own : String} {idx : Nat} (hown : s.vm.findClass own = some m.cls) (w1 : (Cond.methodLink own idx Lib.objectInit).before a0 Z = true) (w2 : (Cond.instanceMethod Lib.objectInit).before a0 Z = true) (w3 : (Cond.code Lib.objectInit ⟨#[0xb1]⟩ 1 none).before a0 Z = true) (eT : T.heap = h) (hsize : Ls.size = c.maxLocals) {a : Addr} (hd : decode c.code pc = .ok (.invokespecial idx, 3)) (hf : 1 ≤ R.frames) (W : Nat) (hW : (st.map fun v => v.category).sum ≤ W) (hl : W + 12 ≤ R.locals) (hp : pc + 3 = pc') (H : ∀ T', Stand p l e R s m args below meth c T' locs cells slots → T'.heap = h → Go p e below s k n Q T' (mkF m pc' Ls st)) : Go p e below s k n Q T (mkF m pc Ls (.ref a :: st)) := by
  subst hp
  obtain ⟨T', X', e', q⟩ := initO X hx hZ hown w1 w2 w3 eT (g := mkF m pc Ls (.ref a :: st)) rfl hsize rfl hd hf (W := W) (by show 2 * 0 + _ ≤ _; omega) hl
  exact (H T' X' e').via q
theorem g_callS (pc' : Nat) (X : Stand p l e R s m args below meth c T locs cells slots) (hx : p.tables.exec = Jvm.exec) (hZ : Z.Warmed39 s.vm) {own : String} {index : Nat} {y : MethodName} {bytes : ByteArray} {maxL : Nat} {ret : Option FieldType} {rm : Room} {as' : Array Value} {Qc : Option Value → Heap → List Loc → Prop} (hown : s.vm.findClass own = some m.cls) (w1 : (Cond.methodLink own index y).before a0 Z = true) (w2 : (Cond.static y).before a0 Z = true) (w3 : (Cond.initialized y.cls).before a0 Z = true) (w4 : (Cond.code y bytes maxL ret).before a0 Z = true) (hy : y.cls ≠ "java/lang/invoke/MethodHandle" ∧ y.cls ≠ "java/lang/invoke/VarHandle") (eT : T.heap = h) (hM : MetFree l y (head1 [Cond.code y bytes maxL ret] rm) (fun a U => a = as' ∧ Z.Warmed39 U.vm ∧ U.heap = h) (fun _ _ _ _ _ => True) (fun _ U o U' => ∃ v L, o = .returned v ∧ Qc v U'.heap L ∧ FrameEnd U o U' L rm.cells rm.slots)) (hsize : Ls.size = c.maxLocals) (argsL rest : List Value) (ha : argsL.toArray = as') (hst : st = argsL.reverse ++ rest) (hlen : ∀ sig, parseMethodDescriptor y.desc = some sig → argsL.length = sig.parameters.length) (W : Nat) (hW : (rest.map fun v => v.category).sum ≤ W) (hd : decode c.code pc = .ok (.invokestatic index, 3)) (hfr : rm.frames + 1 ≤ R.frames) (hlo : W + (maxL + 11) + rm.locals ≤ R.locals) (hce : cells + rm.cells ≤ R.cells) (hsl : slots + rm.slots ≤ R.slots) (hp : pc + 3 = pc') (H : ∀ v T' L, Stand p l e R s m args below meth c T' (locs ++ L) (cells + rm.cells) (slots + rm.slots) → Qc v T'.heap L → Go p e below s k n Q T' (mkF m pc' Ls (v.toList ++ rest))) : Go p e below s k n Q T (mkF m pc Ls st) := by
  subst hp hst
  obtain ⟨v, _, ⟨T', L, k', n'⟩, -, X', ⟨Lc, hQ, l1, l2, l3⟩, q⟩ := Jvm.LawKit.callS X hx (y := y) hown (mvT hZ w1) (mvT hZ w2) (mvT hZ w3) (mvT hZ w4) hy (backOf (W := W) hM hZ w4 w3 hfr hlo) (g := mkF m pc Ls (argsL.reverse ++ rest)) rfl hsize (argsL := argsL) (rest := rest) hlen rfl (by show 2 * 0 + _ ≤ _; omega) hd (fun _ _ => ⟨ha, eT, hce, hsl⟩)
  dsimp only [Pt.U, Pt.locs, Pt.cells, Pt.slots] at X' l1 l2 l3 q hQ
  subst l1 l2 l3
  exact (H v T' Lc X' hQ).via q
theorem g_callI (pc' : Nat) (X : Stand p l e R s m args below meth c T locs cells slots) (hx : p.tables.exec = Jvm.exec) (hZ : Z.Warmed39 s.vm) {own : String} {index : Nat} {y : MethodName} {bytes : ByteArray} {maxL : Nat} {rm : Room} {as' : Array Value} {Qc : Option Value → Heap → List Loc → Prop} (hy1 : y.name = "<init>") (hown : s.vm.findClass own = some m.cls) (w1 : (Cond.methodLink own index y).before a0 Z = true) (w2 : (Cond.instanceMethod y).before a0 Z = true) (w3 : (Cond.initialized y.cls).before a0 Z = true) (w4 : (Cond.code y bytes maxL none).before a0 Z = true) (hy : y.cls ≠ "java/lang/invoke/MethodHandle" ∧ y.cls ≠ "java/lang/invoke/VarHandle") (eT : T.heap = h) (hM : MetFree l y (head1 [Cond.code y bytes maxL none] rm) (fun a U => a = as' ∧ Z.Warmed39 U.vm ∧ U.heap = h) (fun _ _ _ _ _ => True) (fun _ U o U' => ∃ v L, o = .returned v ∧ Qc v U'.heap L ∧ FrameEnd U o U' L rm.cells rm.slots)) (hsize : Ls.size = c.maxLocals) (a : Addr) (argsL rest : List Value) (ha : (.ref a :: argsL).toArray = as') (hst : st = argsL.reverse ++ .ref a :: rest) (hlen : ∀ sig, parseMethodDescriptor y.desc = some sig → argsL.length = sig.parameters.length) (W : Nat) (hW : (rest.map fun v => v.category).sum ≤ W) (hd : decode c.code pc = .ok (.invokespecial index, 3)) (hfr : rm.frames + 1 ≤ R.frames) (hlo : W + (maxL + 11) + rm.locals ≤ R.locals) (hce : cells + rm.cells ≤ R.cells) (hsl : slots + rm.slots ≤ R.slots) (hp : pc + 3 = pc') (H : ∀ v T' L, Stand p l e R s m args below meth c T' (locs ++ L) (cells + rm.cells) (slots + rm.slots) → Qc v T'.heap L → Go p e below s k n Q T' (mkF m pc' Ls (v.toList ++ rest))) : Go p e below s k n Q T (mkF m pc Ls st) := by
  subst hp hst
  obtain ⟨v, _, ⟨T', L, k', n'⟩, -, X', ⟨Lc, hQ, l1, l2, l3⟩, q⟩ := X.specialBack hx (y := y) hy1 hown (mvT hZ w1) (mvT hZ w2) (mvT hZ w4) hy (backOf (W := W) hM hZ w4 w3 hfr hlo) (g := mkF m pc Ls (argsL.reverse ++ .ref a :: rest)) rfl hsize (Steps.refl _) (a := a) (argsL := argsL) (rest := rest) hlen rfl (by show 2 * 0 + _ ≤ _; omega) hd (fun _ _ => ⟨ha, eT, hce, hsl⟩)
  dsimp only [Pt.U, Pt.locs, Pt.cells, Pt.slots] at X' l1 l2 l3 q hQ
  subst l1 l2 l3
  exact (H v T' Lc X' hQ).via fun t r => q.trans r
theorem g_callV (pc' : Nat) (X : Stand p l e R s m args below meth c T locs cells slots) (hx : p.tables.exec = Jvm.exec) (hZ : Z.Warmed39 s.vm) {own : String} {index : Nat} {y : MethodName} {bytes : ByteArray} {maxL : Nat} {ret : Option FieldType} {rm : Room} {as' : Array Value} {Qc : Option Value → Heap → List Loc → Prop} (hown : s.vm.findClass own = some m.cls) (w1 : (Cond.methodLink own index y).before a0 Z = true) (w2 : (Cond.declares y).before a0 Z = true) (w5 : (Cond.selects y.cls y y).before a0 Z = true) (w6 : (Cond.instanceMethod y).before a0 Z = true) (w3 : (Cond.initialized y.cls).before a0 Z = true) (w4 : (Cond.code y bytes maxL ret).before a0 Z = true) (hy : y.cls ≠ "java/lang/invoke/MethodHandle" ∧ y.cls ≠ "java/lang/invoke/VarHandle") (eT : T.heap = h) {a : Addr} (E : Exa Z h a y.cls) (hM : MetFree l y (head1 [Cond.code y bytes maxL ret] rm) (fun a U => a = as' ∧ Z.Warmed39 U.vm ∧ U.heap = h) (fun _ _ _ _ _ => True) (fun _ U o U' => ∃ v L, o = .returned v ∧ Qc v U'.heap L ∧ FrameEnd U o U' L rm.cells rm.slots)) (hsize : Ls.size = c.maxLocals) (argsL rest : List Value) (ha : (.ref a :: argsL).toArray = as') (hst : st = argsL.reverse ++ .ref a :: rest) (hlen : ∀ sig, parseMethodDescriptor y.desc = some sig → argsL.length = sig.parameters.length) (W : Nat) (hW : (rest.map fun v => v.category).sum ≤ W) (hd : decode c.code pc = .ok (.invokevirtual index, 3)) (hfr : rm.frames + 1 ≤ R.frames) (hlo : W + (maxL + 11) + rm.locals ≤ R.locals) (hce : cells + rm.cells ≤ R.cells) (hsl : slots + rm.slots ≤ R.slots) (hp : pc + 3 = pc') (H : ∀ v T' L, Stand p l e R s m args below meth c T' (locs ++ L) (cells + rm.cells) (slots + rm.slots) → Qc v T'.heap L → Go p e below s k n Q T' (mkF m pc' Ls (v.toList ++ rest))) : Go p e below s k n Q T (mkF m pc Ls st) := by
  subst hp hst
  obtain ⟨cq, kq, qa, qb, qc⟩ := isOf hZ eT E
  obtain ⟨v, _, ⟨T', L, k', n'⟩, -, X', ⟨Lc, hQ, l1, l2, l3⟩, q⟩ := X.virtualBack hx (y := y) (z := y) hown (mvT hZ w1) (mvT hZ w2) (notFace_of_selects (args := #[]) (mvT hZ w5)) (mvT hZ w5) (mvT hZ w6) hy (backOf (W := W) hM hZ w4 w3 hfr hlo) qa qc (g := mkF m pc Ls (argsL.reverse ++ .ref a :: rest)) rfl hsize (Steps.refl _) (argsL := argsL) (rest := rest) hlen rfl (by show 2 * 0 + _ ≤ _; omega) hd (fun _ _ => ⟨ha, eT, hce, hsl⟩)
  dsimp only [Pt.U, Pt.locs, Pt.cells, Pt.slots] at X' l1 l2 l3 q hQ
  subst l1 l2 l3
  exact (H v T' Lc X' hQ).via fun t r => q.trans r
/-- an array of ints (bytes, chars, shorts, booleans) at a, whole -/
def AI (Z : State) (h : Heap) (a : Addr) (ty : FieldType) (bs : List Int32) : Prop := ∃ c : Cell, Arr Z h a c ty ∧ c.slots = (bs.map Value.int).toArray ∧ bs.length < 2 ^ 31
/-- an array of longs at a, whole -/
def AJ (Z : State) (h : Heap) (a : Addr) (bs : List Int64) : Prop := ∃ c : Cell, Arr Z h a c .long ∧ c.slots = (bs.map Value.long).toArray ∧ bs.length < 2 ^ 31
theorem AI.lt {a : Addr} {ty : FieldType} {bs : List Int32} (A : AI Z h a ty bs) : a < h.size := by obtain ⟨c, A, -⟩ := A; exact A.lt
theorem AI.ext {a : Addr} {ty : FieldType} {bs : List Int32} (A : AI Z h a ty bs) (E : Ext h h') : AI Z h' a ty bs := by obtain ⟨c, A, r⟩ := A; exact ⟨c, A.ext E, r⟩
theorem AI.other {a b : Addr} {ty : FieldType} {bs : List Int32} {sl : Nat} {v : Value} (A : AI Z h b ty bs) (W : Wr h h' a sl v) (q : b ≠ a) : AI Z h' b ty bs := by obtain ⟨c, A, r⟩ := A; exact ⟨c, A.other W q, r⟩
theorem AI.keep {a : Addr} {ty : FieldType} {bs : List Int32} {ws : List Addr} (A : AI Z h a ty bs) (K : Keep h h' ws) (q : a ∉ ws) : AI Z h' a ty bs := by obtain ⟨c, A, r⟩ := A; exact ⟨c, ⟨K.2.1 a c A.1 q, A.2⟩, r⟩
theorem AJ.lt {a : Addr} {bs : List Int64} (A : AJ Z h a bs) : a < h.size := by obtain ⟨c, A, -⟩ := A; exact A.lt
theorem AJ.ext {a : Addr} {bs : List Int64} (A : AJ Z h a bs) (E : Ext h h') : AJ Z h' a bs := by obtain ⟨c, A, r⟩ := A; exact ⟨c, A.ext E, r⟩
theorem AJ.other {a b : Addr} {bs : List Int64} {sl : Nat} {v : Value} (A : AJ Z h b bs) (W : Wr h h' a sl v) (q : b ≠ a) : AJ Z h' b bs := by obtain ⟨c, A, r⟩ := A; exact ⟨c, A.other W q, r⟩
theorem AJ.keep {a : Addr} {bs : List Int64} {ws : List Addr} (A : AJ Z h a bs) (K : Keep h h' ws) (q : a ∉ ws) : AJ Z h' a bs := by obtain ⟨c, A, r⟩ := A; exact ⟨c, ⟨K.2.1 a c A.1 q, A.2⟩, r⟩
theorem own_inI {a : Addr} {c : Cell} {bs : List Int32} {j : Int32} {i : Nat} (S : c.slots = (bs.map Value.int).toArray) (h0 : ¬ j < 0) (hj : j.toNatClampNeg = i) (hi : i < bs.length) : ¬ (j < 0 ∨ c.slots.size ≤ j.toNatClampNeg) := by
  rw [S]; simp [h0, hj]; omega
theorem own_inJ {a : Addr} {c : Cell} {bs : List Int64} {j : Int32} {i : Nat} (S : c.slots = (bs.map Value.long).toArray) (h0 : ¬ j < 0) (hj : j.toNatClampNeg = i) (hi : i < bs.length) : ¬ (j < 0 ∨ c.slots.size ≤ j.toNatClampNeg) := by
  rw [S]; simp [h0, hj]; omega
theorem own_setI {c : Cell} {bs : List Int32} {i : Nat} {x : Int32} (S : c.slots = (bs.map Value.int).toArray) : (c.setSlot i (.int x)).slots = ((bs.set i x).map Value.int).toArray := by
  simp [Cell.setSlot, S, List.map_set]
theorem own_setJ {c : Cell} {bs : List Int64} {i : Nat} {x : Int64} (S : c.slots = (bs.map Value.long).toArray) : (c.setSlot i (.long x)).slots = ((bs.set i x).map Value.long).toArray := by
  simp [Cell.setSlot, S, List.map_set]
theorem g_bastore (pc' : Nat) (X : Stand p l e R s m args below meth c T locs cells slots) (hx : p.tables.exec = Jvm.exec) (hZ : Z.Warmed39 s.vm) (eT : T.heap = h) {a : Addr} {bs : List Int32} (A : AI Z h a .byte bs) {j x : Int32} (i : Nat) (h0 : ¬ j < 0) (hj : j.toNatClampNeg = i) (hi : i < bs.length) {z : Int32} (hz : x.toInt8.toInt32 = z) (hd : decode c.code pc = .ok (.bastore, 1)) (hp : pc + 1 = pc') (H : ∀ T' h', Stand p l e R s m args below meth c T' (locs ++ [⟨a, i⟩]) cells slots → T'.heap = h' → Wr h h' a i (.int z) → AI Z h' a .byte (bs.set i z) → Go p e below s k n Q T' (mkF m pc' Ls st)) : Go p e below s k n Q T (mkF m pc Ls (.int x :: .int j :: .ref a :: st)) := by
  subst hp hz hj
  obtain ⟨cl, A, S, hl⟩ := A
  obtain ⟨T', h', X', e', W, q⟩ := stB X hx hZ eT A (own_inI (a := a) S h0 rfl hi) (g := mkF m pc Ls (.int x :: .int j :: .ref a :: st)) rfl rfl hd
  exact (H T' h' X' e' W ⟨_, A.same W, own_setI S, by simpa using hl⟩).via q
theorem g_iastore (pc' : Nat) (X : Stand p l e R s m args below meth c T locs cells slots) (hx : p.tables.exec = Jvm.exec) (hZ : Z.Warmed39 s.vm) (eT : T.heap = h) {a : Addr} {bs : List Int32} (A : AI Z h a .int bs) {j x : Int32} (i : Nat) (h0 : ¬ j < 0) (hj : j.toNatClampNeg = i) (hi : i < bs.length) {z : Int32} (hz : x = z) (hd : decode c.code pc = .ok (.iastore, 1)) (hp : pc + 1 = pc') (H : ∀ T' h', Stand p l e R s m args below meth c T' (locs ++ [⟨a, i⟩]) cells slots → T'.heap = h' → Wr h h' a i (.int z) → AI Z h' a .int (bs.set i z) → Go p e below s k n Q T' (mkF m pc' Ls st)) : Go p e below s k n Q T (mkF m pc Ls (.int x :: .int j :: .ref a :: st)) := by
  subst hp hz hj
  obtain ⟨cl, A, S, hl⟩ := A
  obtain ⟨T', h', X', e', W, q⟩ := stI X hx hZ eT A (own_inI (a := a) S h0 rfl hi) (g := mkF m pc Ls (.int x :: .int j :: .ref a :: st)) rfl rfl hd
  exact (H T' h' X' e' W ⟨_, A.same W, own_setI S, by simpa using hl⟩).via q
theorem g_castore (pc' : Nat) (X : Stand p l e R s m args below meth c T locs cells slots) (hx : p.tables.exec = Jvm.exec) (hZ : Z.Warmed39 s.vm) (eT : T.heap = h) {a : Addr} {bs : List Int32} (A : AI Z h a .char bs) {j x : Int32} (i : Nat) (h0 : ¬ j < 0) (hj : j.toNatClampNeg = i) (hi : i < bs.length) {z : Int32} (hz : x.toUInt32.toUInt16.toUInt32.toInt32 = z) (hd : decode c.code pc = .ok (.castore, 1)) (hp : pc + 1 = pc') (H : ∀ T' h', Stand p l e R s m args below meth c T' (locs ++ [⟨a, i⟩]) cells slots → T'.heap = h' → Wr h h' a i (.int z) → AI Z h' a .char (bs.set i z) → Go p e below s k n Q T' (mkF m pc' Ls st)) : Go p e below s k n Q T (mkF m pc Ls (.int x :: .int j :: .ref a :: st)) := by
  subst hp hz hj
  obtain ⟨cl, A, S, hl⟩ := A
  obtain ⟨T', h', X', e', W, q⟩ := stC X hx hZ eT A (own_inI (a := a) S h0 rfl hi) (g := mkF m pc Ls (.int x :: .int j :: .ref a :: st)) rfl rfl hd
  exact (H T' h' X' e' W ⟨_, A.same W, own_setI S, by simpa using hl⟩).via q
theorem g_sastore (pc' : Nat) (X : Stand p l e R s m args below meth c T locs cells slots) (hx : p.tables.exec = Jvm.exec) (hZ : Z.Warmed39 s.vm) (eT : T.heap = h) {a : Addr} {bs : List Int32} (A : AI Z h a .short bs) {j x : Int32} (i : Nat) (h0 : ¬ j < 0) (hj : j.toNatClampNeg = i) (hi : i < bs.length) {z : Int32} (hz : x.toInt16.toInt32 = z) (hd : decode c.code pc = .ok (.sastore, 1)) (hp : pc + 1 = pc') (H : ∀ T' h', Stand p l e R s m args below meth c T' (locs ++ [⟨a, i⟩]) cells slots → T'.heap = h' → Wr h h' a i (.int z) → AI Z h' a .short (bs.set i z) → Go p e below s k n Q T' (mkF m pc' Ls st)) : Go p e below s k n Q T (mkF m pc Ls (.int x :: .int j :: .ref a :: st)) := by
  subst hp hz hj
  obtain ⟨cl, A, S, hl⟩ := A
  obtain ⟨T', h', X', e', W, q⟩ := stS X hx hZ eT A (own_inI (a := a) S h0 rfl hi) (g := mkF m pc Ls (.int x :: .int j :: .ref a :: st)) rfl rfl hd
  exact (H T' h' X' e' W ⟨_, A.same W, own_setI S, by simpa using hl⟩).via q
theorem g_lastore (pc' : Nat) (X : Stand p l e R s m args below meth c T locs cells slots) (hx : p.tables.exec = Jvm.exec) (hZ : Z.Warmed39 s.vm) (eT : T.heap = h) {a : Addr} {bs : List Int64} (A : AJ Z h a bs) {j : Int32} {x : Int64} (i : Nat) (h0 : ¬ j < 0) (hj : j.toNatClampNeg = i) (hi : i < bs.length) (hd : decode c.code pc = .ok (.lastore, 1)) (hp : pc + 1 = pc') (H : ∀ T' h', Stand p l e R s m args below meth c T' (locs ++ [⟨a, i⟩]) cells slots → T'.heap = h' → Wr h h' a i (.long x) → AJ Z h' a (bs.set i x) → Go p e below s k n Q T' (mkF m pc' Ls st)) : Go p e below s k n Q T (mkF m pc Ls (.long x :: .int j :: .ref a :: st)) := by
  subst hp hj
  obtain ⟨cl, A, S, hl⟩ := A
  obtain ⟨T', h', X', e', W, q⟩ := stJ X hx hZ eT A (own_inJ (a := a) S h0 rfl hi) (g := mkF m pc Ls (.long x :: .int j :: .ref a :: st)) rfl rfl hd
  exact (H T' h' X' e' W ⟨_, A.same W, own_setJ S, by simpa using hl⟩).via q
theorem g_baload (pc' : Nat) (X : Stand p l e R s m args below meth c T locs cells slots) (hx : p.tables.exec = Jvm.exec) (hZ : Z.Warmed39 s.vm) (eT : T.heap = h) {a : Addr} {bs : List Int32} (A : AI Z h a .byte bs) {j z : Int32} (i : Nat) (h0 : ¬ j < 0) (hj : j.toNatClampNeg = i) (hv : bs[i]? = some z) (hd : decode c.code pc = .ok (.baload, 1)) (hp : pc + 1 = pc') (H : Go p e below s k n Q T (mkF m pc' Ls (.int z :: st))) : Go p e below s k n Q T (mkF m pc Ls (.int j :: .ref a :: st)) := by
  subst hp hj
  obtain ⟨cl, A, S, hl⟩ := A
  exact H.via fun t q => X.baloadBytes hx (by rw [eT]; exact A.1) (State.isArrayOf_alike hZ.alike A.2.1) A.2.2 (own_inI (a := a) S h0 rfl (List.getElem?_eq_some_iff.mp hv).1) (v := .int z) (by rw [S]; simp [hv]) (g := mkF m pc Ls (.int j :: .ref a :: st)) rfl rfl hd t q
theorem g_iaload (pc' : Nat) (X : Stand p l e R s m args below meth c T locs cells slots) (hx : p.tables.exec = Jvm.exec) (hZ : Z.Warmed39 s.vm) (eT : T.heap = h) {a : Addr} {bs : List Int32} (A : AI Z h a .int bs) {j z : Int32} (i : Nat) (h0 : ¬ j < 0) (hj : j.toNatClampNeg = i) (hv : bs[i]? = some z) (hd : decode c.code pc = .ok (.iaload, 1)) (hp : pc + 1 = pc') (H : Go p e below s k n Q T (mkF m pc' Ls (.int z :: st))) : Go p e below s k n Q T (mkF m pc Ls (.int j :: .ref a :: st)) := by
  subst hp hj
  obtain ⟨cl, A, S, hl⟩ := A
  exact H.via fun t q => X.iaload hx (by rw [eT]; exact A.1) (State.isArrayOf_alike hZ.alike A.2.1) A.2.2 (own_inI (a := a) S h0 rfl (List.getElem?_eq_some_iff.mp hv).1) (v := .int z) (by rw [S]; simp [hv]) (g := mkF m pc Ls (.int j :: .ref a :: st)) rfl rfl hd t q
theorem g_caload (pc' : Nat) (X : Stand p l e R s m args below meth c T locs cells slots) (hx : p.tables.exec = Jvm.exec) (hZ : Z.Warmed39 s.vm) (eT : T.heap = h) {a : Addr} {bs : List Int32} (A : AI Z h a .char bs) {j z : Int32} (i : Nat) (h0 : ¬ j < 0) (hj : j.toNatClampNeg = i) (hv : bs[i]? = some z) (hd : decode c.code pc = .ok (.caload, 1)) (hp : pc + 1 = pc') (H : Go p e below s k n Q T (mkF m pc' Ls (.int z :: st))) : Go p e below s k n Q T (mkF m pc Ls (.int j :: .ref a :: st)) := by
  subst hp hj
  obtain ⟨cl, A, S, hl⟩ := A
  exact H.via fun t q => X.caload hx (by rw [eT]; exact A.1) (State.isArrayOf_alike hZ.alike A.2.1) A.2.2 (own_inI (a := a) S h0 rfl (List.getElem?_eq_some_iff.mp hv).1) (v := .int z) (by rw [S]; simp [hv]) (g := mkF m pc Ls (.int j :: .ref a :: st)) rfl rfl hd t q
theorem g_saload (pc' : Nat) (X : Stand p l e R s m args below meth c T locs cells slots) (hx : p.tables.exec = Jvm.exec) (hZ : Z.Warmed39 s.vm) (eT : T.heap = h) {a : Addr} {bs : List Int32} (A : AI Z h a .short bs) {j z : Int32} (i : Nat) (h0 : ¬ j < 0) (hj : j.toNatClampNeg = i) (hv : bs[i]? = some z) (hd : decode c.code pc = .ok (.saload, 1)) (hp : pc + 1 = pc') (H : Go p e below s k n Q T (mkF m pc' Ls (.int z :: st))) : Go p e below s k n Q T (mkF m pc Ls (.int j :: .ref a :: st)) := by
  subst hp hj
  obtain ⟨cl, A, S, hl⟩ := A
  exact H.via fun t q => X.saload hx (by rw [eT]; exact A.1) (State.isArrayOf_alike hZ.alike A.2.1) A.2.2 (own_inI (a := a) S h0 rfl (List.getElem?_eq_some_iff.mp hv).1) (v := .int z) (by rw [S]; simp [hv]) (g := mkF m pc Ls (.int j :: .ref a :: st)) rfl rfl hd t q
theorem g_laload (pc' : Nat) (X : Stand p l e R s m args below meth c T locs cells slots) (hx : p.tables.exec = Jvm.exec) (hZ : Z.Warmed39 s.vm) (eT : T.heap = h) {a : Addr} {bs : List Int64} (A : AJ Z h a bs) {j : Int32} {z : Int64} (i : Nat) (h0 : ¬ j < 0) (hj : j.toNatClampNeg = i) (hv : bs[i]? = some z) (hd : decode c.code pc = .ok (.laload, 1)) (hp : pc + 1 = pc') (H : Go p e below s k n Q T (mkF m pc' Ls (.long z :: st))) : Go p e below s k n Q T (mkF m pc Ls (.int j :: .ref a :: st)) := by
  subst hp hj
  obtain ⟨cl, A, S, hl⟩ := A
  exact H.via fun t q => X.laload hx (by rw [eT]; exact A.1) (State.isArrayOf_alike hZ.alike A.2.1) A.2.2 (own_inJ (a := a) S h0 rfl (List.getElem?_eq_some_iff.mp hv).1) (v := .long z) (by rw [S]; simp [hv]) (g := mkF m pc Ls (.int j :: .ref a :: st)) rfl rfl hd t q
theorem g_arraylengthI (pc' : Nat) (X : Stand p l e R s m args below meth c T locs cells slots) (hx : p.tables.exec = Jvm.exec) (hZ : Z.Warmed39 s.vm) (eT : T.heap = h) {a : Addr} {ty : FieldType} {bs : List Int32} (A : AI Z h a ty bs) {z : Int32} (hz : Int32.ofNat bs.length = z) (hd : decode c.code pc = .ok (.arraylength, 1)) (hp : pc + 1 = pc') (H : Go p e below s k n Q T (mkF m pc' Ls (.int z :: st))) : Go p e below s k n Q T (mkF m pc Ls (.ref a :: st)) := by
  subst hp hz
  obtain ⟨cl, A, S, hl⟩ := A
  have q0 : cl.slots.size.toInt32 = Int32.ofNat bs.length := by rw [S]; simp
  exact H.via fun t q => X.arraylength hx (by rw [eT]; exact A.1) (State.isArrayOf_alike hZ.alike A.2.1) (g := mkF m pc Ls (.ref a :: st)) rfl rfl hd t (by rw [q0]; exact q)
theorem g_arraylengthJ (pc' : Nat) (X : Stand p l e R s m args below meth c T locs cells slots) (hx : p.tables.exec = Jvm.exec) (hZ : Z.Warmed39 s.vm) (eT : T.heap = h) {a : Addr} {bs : List Int64} (A : AJ Z h a bs) {z : Int32} (hz : Int32.ofNat bs.length = z) (hd : decode c.code pc = .ok (.arraylength, 1)) (hp : pc + 1 = pc') (H : Go p e below s k n Q T (mkF m pc' Ls (.int z :: st))) : Go p e below s k n Q T (mkF m pc Ls (.ref a :: st)) := by
  subst hp hz
  obtain ⟨cl, A, S, hl⟩ := A
  have q0 : cl.slots.size.toInt32 = Int32.ofNat bs.length := by rw [S]; simp
  exact H.via fun t q => X.arraylength hx (by rw [eT]; exact A.1) (State.isArrayOf_alike hZ.alike A.2.1) (g := mkF m pc Ls (.ref a :: st)) rfl rfl hd t (by rw [q0]; exact q)
theorem g_new_byte (pc' : Nat) (X : Stand p l e R s m args below meth c T locs cells slots) (hx : p.tables.exec = Jvm.exec) (hZ : Z.Warmed39 s.vm) (w : (Cond.arrayClass .byte).before a0 Z = true) (eT : T.heap = h) {nn : Int32} (len cap : Nat) (hn0 : ¬ nn < 0) (hlen : nn.toNatClampNeg = len) (hcap : len ≤ cap) (hb : cap * 8 ≤ 536870912) (hc : cells + 1 ≤ R.cells) (hl : slots + cap ≤ R.slots) (hd : decode c.code pc = .ok (.newarray .byte, 2)) (hp : pc + 2 = pc') (H : ∀ T' h' b, Stand p l e R s m args below meth c T' locs (cells + 1) (slots + cap) → T'.heap = h' → Ext h h' → b = h.size → AI Z h' b .byte (List.replicate len (0 : Int32)) → Go p e below s k n Q T' (mkF m pc' Ls (.ref b :: st))) : Go p e below s k n Q T (mkF m pc Ls (.int nn :: st)) := by
  subst hp hlen
  obtain ⟨T', h', cA, X', e', E, A, q⟩ := newP X hx hZ (aty := .byte) w eT (g := mkF m pc Ls (.int nn :: st)) rfl hd rfl hn0 hcap hb hc hl
  exact (H T' h' _ X' e' E rfl ⟨_, A, by simp [newA, defaultValue, newarray.typeOf], by simpa using (back32 hn0).2⟩).via q
theorem g_new_int (pc' : Nat) (X : Stand p l e R s m args below meth c T locs cells slots) (hx : p.tables.exec = Jvm.exec) (hZ : Z.Warmed39 s.vm) (w : (Cond.arrayClass .int).before a0 Z = true) (eT : T.heap = h) {nn : Int32} (len cap : Nat) (hn0 : ¬ nn < 0) (hlen : nn.toNatClampNeg = len) (hcap : len ≤ cap) (hb : cap * 8 ≤ 536870912) (hc : cells + 1 ≤ R.cells) (hl : slots + cap ≤ R.slots) (hd : decode c.code pc = .ok (.newarray .int, 2)) (hp : pc + 2 = pc') (H : ∀ T' h' b, Stand p l e R s m args below meth c T' locs (cells + 1) (slots + cap) → T'.heap = h' → Ext h h' → b = h.size → AI Z h' b .int (List.replicate len (0 : Int32)) → Go p e below s k n Q T' (mkF m pc' Ls (.ref b :: st))) : Go p e below s k n Q T (mkF m pc Ls (.int nn :: st)) := by
  subst hp hlen
  obtain ⟨T', h', cA, X', e', E, A, q⟩ := newP X hx hZ (aty := .int) w eT (g := mkF m pc Ls (.int nn :: st)) rfl hd rfl hn0 hcap hb hc hl
  exact (H T' h' _ X' e' E rfl ⟨_, A, by simp [newA, defaultValue, newarray.typeOf], by simpa using (back32 hn0).2⟩).via q
theorem g_new_long (pc' : Nat) (X : Stand p l e R s m args below meth c T locs cells slots) (hx : p.tables.exec = Jvm.exec) (hZ : Z.Warmed39 s.vm) (w : (Cond.arrayClass .long).before a0 Z = true) (eT : T.heap = h) {nn : Int32} (len cap : Nat) (hn0 : ¬ nn < 0) (hlen : nn.toNatClampNeg = len) (hcap : len ≤ cap) (hb : cap * 8 ≤ 536870912) (hc : cells + 1 ≤ R.cells) (hl : slots + cap ≤ R.slots) (hd : decode c.code pc = .ok (.newarray .long, 2)) (hp : pc + 2 = pc') (H : ∀ T' h' b, Stand p l e R s m args below meth c T' locs (cells + 1) (slots + cap) → T'.heap = h' → Ext h h' → b = h.size → AJ Z h' b (List.replicate len (0 : Int64)) → Go p e below s k n Q T' (mkF m pc' Ls (.ref b :: st))) : Go p e below s k n Q T (mkF m pc Ls (.int nn :: st)) := by
  subst hp hlen
  obtain ⟨T', h', cA, X', e', E, A, q⟩ := newP X hx hZ (aty := .long) w eT (g := mkF m pc Ls (.int nn :: st)) rfl hd rfl hn0 hcap hb hc hl
  exact (H T' h' _ X' e' E rfl ⟨_, A, by simp [newA, defaultValue, newarray.typeOf], by simpa using (back32 hn0).2⟩).via q
end OwnKit
theorem own_lrem (x y : Int64) (d : Int) (hy : y.toInt = d) : (0 ≤ x.toInt → (x % y).toInt = x.toInt % d) ∧ (x.toInt < 0 → (x % y).toInt = -((-x.toInt) % d)) := by
  rw [Int64.toInt_mod, hy]; exact tr _ _
theorem own_lremV (x y : Int64) : 0 ≤ x.toInt → 0 < y.toInt → 0 ≤ (x % y).toInt ∧ (x % y).toInt < y.toInt ∧ (x % y).toInt ≤ x.toInt := by
  intro h1 h2
  rw [Int64.toInt_mod, Int.tmod_eq_emod_of_nonneg h1]
  have a := Int.emod_nonneg x.toInt (by omega : y.toInt ≠ 0)
  have b := Int.emod_lt_of_pos x.toInt h2
  refine ⟨a, b, ?_⟩
  by_cases c : x.toInt < y.toInt
  · rw [Int.emod_eq_of_lt h1 c]; exact Int.le_refl _
  · omega
theorem own_prod {a b A B : Int} (h1 : 0 ≤ a) (h2 : a ≤ A) (h3 : 0 ≤ b) (h4 : b ≤ B) : 0 ≤ a * b ∧ a * b ≤ A * B :=
  ⟨Int.mul_nonneg h1 h3, Int.mul_le_mul h2 h4 h3 (Int.le_trans h1 h2)⟩
theorem own_get {bs : List Int32} {i : Nat} (h : i < bs.length) : bs[i]? = some (bs.getD i 0) := by
  rw [List.getD_eq_getElem?_getD, List.getElem?_eq_getElem h]; rfl
def own_t (x : Int32) : Bool := decide (x = (13 : Int32) ∨ x = (10 : Int32))
theorem own_tm (bs : List Int32) (i : Nat) : (bs.map own_t).getD i false = own_t (bs.getD i 0) := by
  rw [List.getD_eq_getElem?_getD, List.getD_eq_getElem?_getD, List.getElem?_map]
  cases bs[i]? <;> rfl
def own_cnt (ts : List Bool) (t : Int32) : Nat → Int32 → Int32 → Int32 → Int32
  | 0, _, s, c => if s < t then c + (1 : Int32) else c
  | k + 1, i, s, c => if ts.getD i.toInt.toNat false = true then own_cnt ts t k (i + (1 : Int32)) (i + (1 : Int32)) (if s < i then c + (1 : Int32) else c) else own_cnt ts t k (i + (1 : Int32)) s c
def own_start (ts : List Bool) (i f t : Int32) : Int32 := if i < f ∨ ¬ i < t then 0 else if ts.getD i.toInt.toNat false = true then 0 else if i = f then 1 else if ts.getD (i - (1 : Int32)).toInt.toNat false = true then 1 else 0
def own_sum (ts : List Bool) (f t : Int32) : Int32 := ((((own_start ts 0 f t + own_start ts 1 f t) + own_start ts 2 f t) + own_start ts 3 f t) + own_start ts 4 f t) + own_start ts 5 f t
theorem own_all : ∀ (b0 b1 b2 b3 b4 b5 : Bool) (f t : Fin 7), f ≤ t → own_cnt [b0, b1, b2, b3, b4, b5] (Int32.ofNat t) (t.val - f.val) (Int32.ofNat f) (Int32.ofNat f) 0 = own_sum [b0, b1, b2, b3, b4, b5] (Int32.ofNat f) (Int32.ofNat t) := by decide +kernel
theorem own_inc {i : Int32} (h : 0 ≤ i.toInt) (q : i.toInt < 1000) : (i + (1 : Int32)).toInt = i.toInt + 1 := by
  have a := c_iadd i (1 : Int32)
  have b := rng32 (i + (1 : Int32))
  simp only [Int32.reduceToInt] at a
  omega
theorem own_dec {i : Int32} (h : 0 ≤ i.toInt) (q : i.toInt < 1000) : (i - (1 : Int32)).toInt = i.toInt - 1 := by
  have a := c_isub i (1 : Int32)
  have b := rng32 (i - (1 : Int32))
  simp only [Int32.reduceToInt] at a
  omega
theorem own_nat0 {i : Int32} (h : 0 ≤ i.toInt) : ¬ i < 0 := by
  rw [Int32.lt_iff_toInt_lt]; simp only [Int32.reduceToInt]; omega
theorem own_ofNat {i : Int32} (h : 0 ≤ i.toInt) : Int32.ofNat i.toInt.toNat = i := by
  have r := rng32 i
  apply Int32.toInt_inj.mp
  rw [Int32.toInt_ofNat_small (by omega)]
  omega
theorem own_k (t i : Int32) (h0 : 0 ≤ i.toInt) (h1 : i.toInt < 1000) (h : i < t) : (t.toInt - i.toInt).toNat = (t.toInt - (i + (1 : Int32)).toInt).toNat + 1 := by
  rw [Int32.lt_iff_toInt_lt] at h
  rw [own_inc h0 h1]; omega
theorem own_T1 (bs : List Int32) (t i s c : Int32) (h0 : 0 ≤ i.toInt) (h1 : i.toInt < 1000) (h : i < t) (q : own_t (bs.getD i.toInt.toNat 0) = true) (g : s < i) : own_cnt (bs.map own_t) t (t.toInt - (i + (1 : Int32)).toInt).toNat (i + (1 : Int32)) (i + (1 : Int32)) (c + (1 : Int32)) = own_cnt (bs.map own_t) t (t.toInt - i.toInt).toNat i s c := by
  rw [own_k t i h0 h1 h]; conv => rhs; rw [own_cnt, own_tm, if_pos q, if_pos g]
theorem own_T0 (bs : List Int32) (t i s c : Int32) (h0 : 0 ≤ i.toInt) (h1 : i.toInt < 1000) (h : i < t) (q : own_t (bs.getD i.toInt.toNat 0) = true) (g : ¬ s < i) : own_cnt (bs.map own_t) t (t.toInt - (i + (1 : Int32)).toInt).toNat (i + (1 : Int32)) (i + (1 : Int32)) c = own_cnt (bs.map own_t) t (t.toInt - i.toInt).toNat i s c := by
  rw [own_k t i h0 h1 h]; conv => rhs; rw [own_cnt, own_tm, if_pos q, if_neg g]
theorem own_F (bs : List Int32) (t i s c : Int32) (h0 : 0 ≤ i.toInt) (h1 : i.toInt < 1000) (h : i < t) (q : ¬ own_t (bs.getD i.toInt.toNat 0) = true) : own_cnt (bs.map own_t) t (t.toInt - (i + (1 : Int32)).toInt).toNat (i + (1 : Int32)) s c = own_cnt (bs.map own_t) t (t.toInt - i.toInt).toNat i s c := by
  rw [own_k t i h0 h1 h]; conv => rhs; rw [own_cnt, own_tm, if_neg q]
theorem own_E1 (ts : List Bool) (t i s c : Int32) (h : ¬ i < t) (g : s < t) : c + (1 : Int32) = own_cnt ts t (t.toInt - i.toInt).toNat i s c := by
  rw [Int32.lt_iff_toInt_lt] at h
  rw [show (t.toInt - i.toInt).toNat = 0 by omega, own_cnt, if_pos g]
theorem own_E0 (ts : List Bool) (t i s c : Int32) (h : ¬ i < t) (g : ¬ s < t) : c = own_cnt ts t (t.toInt - i.toInt).toNat i s c := by
  rw [Int32.lt_iff_toInt_lt] at h
  rw [show (t.toInt - i.toInt).toNat = 0 by omega, own_cnt, if_neg g]

theorem pn_0 : plainName "com/example/paillasse/paillasse/message/SegmentIndexCountPinLaw" = true := by first | (simp [plainName, overriddenIn]; done) | decide +kernel
theorem d1_0 : decode method_3_code 0 = .ok (.iload_n 2, 1) := by decide +kernel
theorem d1_1 : decode method_3_code 1 = .ok (.iconst 2, 1) := by decide +kernel
theorem d1_2 : decode method_3_code 2 = .ok (.iload_n 3, 1) := by decide +kernel
theorem d1_3 : decode method_3_code 3 = .ok (.imul, 1) := by decide +kernel
theorem d1_4 : decode method_3_code 4 = .ok (.iushr, 1) := by decide +kernel
theorem d1_5 : decode method_3_code 5 = .ok (.iconst 3, 1) := by decide +kernel
theorem d1_6 : decode method_3_code 6 = .ok (.iand, 1) := by decide +kernel
theorem d1_7 : decode method_3_code 7 = .ok (.istore 4, 2) := by decide +kernel
theorem d1_9 : decode method_3_code 9 = .ok (.iload 4, 2) := by decide +kernel
theorem d1_11 : decode method_3_code 11 = .ok (.ifCond .ne 6, 3) := by decide +kernel
theorem d1_14 : decode method_3_code 14 = .ok (.bipush 13, 2) := by decide +kernel
theorem d1_16 : decode method_3_code 16 = .ok (.ireturn, 1) := by decide +kernel
theorem d1_17 : decode method_3_code 17 = .ok (.iload 4, 2) := by decide +kernel
theorem d1_19 : decode method_3_code 19 = .ok (.iconst 1, 1) := by decide +kernel
theorem d1_20 : decode method_3_code 20 = .ok (.if_icmp .ne 6, 3) := by decide +kernel
theorem d1_23 : decode method_3_code 23 = .ok (.bipush 10, 2) := by decide +kernel
theorem d1_25 : decode method_3_code 25 = .ok (.ireturn, 1) := by decide +kernel
theorem d1_26 : decode method_3_code 26 = .ok (.lload_n 0, 1) := by decide +kernel
theorem d1_27 : decode method_3_code 27 = .ok (.bipush 8, 2) := by decide +kernel
theorem d1_29 : decode method_3_code 29 = .ok (.iload_n 3, 1) := by decide +kernel
theorem d1_30 : decode method_3_code 30 = .ok (.imul, 1) := by decide +kernel
theorem d1_31 : decode method_3_code 31 = .ok (.lushr, 1) := by decide +kernel
theorem d1_32 : decode method_3_code 32 = .ok (.l2i, 1) := by decide +kernel
theorem d1_33 : decode method_3_code 33 = .ok (.i2b, 1) := by decide +kernel
theorem d1_34 : decode method_3_code 34 = .ok (.ireturn, 1) := by decide +kernel
def Rel1 (q1 : Int64) (p2 : Int32) (p3 : Int32) (r : Int32) : Prop := ((((p2.toUInt32 >>> (((2 : Int32) * p3) &&& 31).toUInt32).toInt32) &&& (3 : Int32)) = (0 : Int32) ∧ r = (nar .byte (13 : Int32))) ∨ (¬ ((((p2.toUInt32 >>> (((2 : Int32) * p3) &&& 31).toUInt32).toInt32) &&& (3 : Int32)) = (0 : Int32)) ∧ (((p2.toUInt32 >>> (((2 : Int32) * p3) &&& 31).toUInt32).toInt32) &&& (3 : Int32)) = (1 : Int32) ∧ r = (nar .byte (10 : Int32))) ∨ (¬ ((((p2.toUInt32 >>> (((2 : Int32) * p3) &&& 31).toUInt32).toInt32) &&& (3 : Int32)) = (0 : Int32)) ∧ ¬ ((((p2.toUInt32 >>> (((2 : Int32) * p3) &&& 31).toUInt32).toInt32) &&& (3 : Int32)) = (1 : Int32)) ∧ r = (nar .byte ((((q1.toUInt64 >>> (((8 : Int32) * p3) &&& 0x3f).toInt64.toUInt64).toInt64).toInt32).toInt8.toInt32)))
def Q1 (Z : State) (q1 : Int64) (p2 : Int32) (p3 : Int32) (h0 : Heap) (n0 : Nat) (v : Option Value) (h : Heap) (L : List Loc) : Prop := ∃ r : Int32, v = some (.int r) ∧ Rel1 q1 p2 p3 r ∧ Fr n0 L ∧ h = h0
theorem ef_rm1 (m : MethodId) (q1 : Int64) (p2 : Int32) (p3 : Int32) : entryFrame m #[(.long q1), (.int p2), (.int p3)] 5 = mkF m 0 #[.val (.long q1), .second, .val (.int p2), .val (.int p3), .unset] [] := by first | (simp [entryFrame, mkF, argsToLocals, Value.category]; done) | rfl
set_option maxRecDepth 65536 in
set_option maxHeartbeats 40000000 in
theorem rm1 (l : Launch) (Z : State) (a0 : Array Value) (hw : ∀ d ∈ tables_1, d.before a0 Z = true) (ws : List Jvm.Cond) (q1 : Int64) (p2 : Int32) (p3 : Int32) (h0 : Heap) (n0 : Nat) (Z0 : n0 ≤ h0.size)  :
    MetFree l (⟨"com/example/paillasse/paillasse/message/SegmentIndexCountPinLaw", "draw", "(JII)B"⟩ : MethodName) (head1 (Jvm.Cond.code (⟨"com/example/paillasse/paillasse/message/SegmentIndexCountPinLaw", "draw", "(JII)B"⟩ : MethodName) method_3_code 5 (some .byte) :: ws) ({ frames := 0, cells := 0, slots := 0, locals := 0 } : Room)) (fun a U => a = #[(.long q1), (.int p2), (.int p3)] ∧ Z.Warmed39 U.vm ∧ U.heap = h0) (fun _ _ _ _ _ => True) (fun _ U o U' => ∃ v L, o = .returned v ∧ (Q1 Z q1 p2 p3 h0 n0) v U'.heap L ∧ FrameEnd U o U' L ({ frames := 0, cells := 0, slots := 0, locals := 0 } : Room).cells ({ frames := 0, cells := 0, slots := 0, locals := 0 } : Room).slots) := by
  refine MetFree.of_bodySF (plainFor_of_name pn_0) hisR ?_
  intro p e s m args below meth c s₁ Bd hml0 hP hK
  obtain ⟨rfl, hZ, hh⟩ := hP
  have hx := Bd.exec
  have hby := Bd.bytes
  have hml : c.maxLocals = 5 := hml0
  have hown : s.vm.findClass "com/example/paillasse/paillasse/message/SegmentIndexCountPinLaw" = some m.cls := findClass_of_methodNamed Bd.named
  have hnm := (name_of_methodNamed Bd.named Bd.method).1
  have hlk : meth.locks = false := BodyLoose.notSynchronized Bd
  have X0 : Stand p l e ({ frames := 0, cells := 0, slots := 0, locals := 0 } : Room) s m #[(.long q1), (.int p2), (.int p3)] below meth c s₁ [] 0 0 := Stand.of_body Bd
  have e0 : s₁.heap = h0 := by rw [← hh, Bd.state]; rfl
  have N0 := Fr.nil n0
  show Go p e below s ({ frames := 0, cells := 0, slots := 0, locals := 0 } : Room).cells ({ frames := 0, cells := 0, slots := 0, locals := 0 } : Room).slots (Q1 Z q1 p2 p3 h0 n0) s₁ (entryFrame m #[(.long q1), (.int p2), (.int p3)] 5)
  rw [ef_rm1 m q1 p2 p3]
  refine g_iloadN 1 X0 hx (hb hby d1_0) rfl (v := p2) rfl ?_
  refine g_iconst 2 X0 hx (hb hby d1_1) rfl (z := (2 : Int32)) rfl ?_
  refine g_iloadN 3 X0 hx (hb hby d1_2) rfl (v := p3) rfl ?_
  refine g_imul 4 X0 hx (hb hby d1_3) rfl (z := ((2 : Int32) * p3)) rfl ?_
  refine g_iushr 5 X0 hx (hb hby d1_4) rfl (z := ((p2.toUInt32 >>> (((2 : Int32) * p3) &&& 31).toUInt32).toInt32)) rfl ?_
  refine g_iconst 6 X0 hx (hb hby d1_5) rfl (z := (3 : Int32)) rfl ?_
  refine g_iand 7 X0 hx (hb hby d1_6) rfl (z := (((p2.toUInt32 >>> (((2 : Int32) * p3) &&& 31).toUInt32).toInt32) &&& (3 : Int32))) rfl ?_
  refine g_istore 9 X0 hx (hb hby d1_7) rfl (Ls' := #[.val (.long q1), .second, .val (.int p2), .val (.int p3), .val (.int (((p2.toUInt32 >>> (((2 : Int32) * p3) &&& 31).toUInt32).toInt32) &&& (3 : Int32)))]) rfl ?_
  refine g_iload 11 X0 hx (hb hby d1_9) rfl (v := (((p2.toUInt32 >>> (((2 : Int32) * p3) &&& 31).toUInt32).toInt32) &&& (3 : Int32))) rfl ?_
  by_cases hc11_0 : (((p2.toUInt32 >>> (((2 : Int32) * p3) &&& 31).toUInt32).toInt32) &&& (3 : Int32)) = (0 : Int32)
  ·
    refine g_ifNo 14 X0 hx (hb hby d1_11)  ((if0 _ _).trans (teq hc11_0).2) rfl ?_
    refine g_bipush 16 X0 hx (hb hby d1_14) rfl (z := (13 : Int32)) rfl ?_
    exact g_retN X0 hx (t := .byte) Bd.returns hlk (by simp) rfl (hb hby d1_16) (by decide) (by decide) ⟨(nar .byte (13 : Int32)), rfl, (Or.inl ⟨hc11_0, rfl⟩), N0, e0⟩
  ·
    refine g_ifYes 17 X0 hx (hb hby d1_11)  ((if0 _ _).trans (feq hc11_0).2) (by decide) (by decide) ?_
    refine g_iload 19 X0 hx (hb hby d1_17) rfl (v := (((p2.toUInt32 >>> (((2 : Int32) * p3) &&& 31).toUInt32).toInt32) &&& (3 : Int32))) rfl ?_
    refine g_iconst 20 X0 hx (hb hby d1_19) rfl (z := (1 : Int32)) rfl ?_
    by_cases hc20_1 : (((p2.toUInt32 >>> (((2 : Int32) * p3) &&& 31).toUInt32).toInt32) &&& (3 : Int32)) = (1 : Int32)
    ·
      refine g_icmpNo 23 X0 hx (hb hby d1_20)  (teq hc20_1).2 rfl ?_
      refine g_bipush 25 X0 hx (hb hby d1_23) rfl (z := (10 : Int32)) rfl ?_
      exact g_retN X0 hx (t := .byte) Bd.returns hlk (by simp) rfl (hb hby d1_25) (by decide) (by decide) ⟨(nar .byte (10 : Int32)), rfl, (Or.inr (Or.inl ⟨hc11_0, hc20_1, rfl⟩)), N0, e0⟩
    ·
      refine g_icmpYes 26 X0 hx (hb hby d1_20)  (feq hc20_1).2 (by decide) (by decide) ?_
      refine g_lloadN 27 X0 hx (hb hby d1_26) rfl (v := q1) rfl ?_
      refine g_bipush 29 X0 hx (hb hby d1_27) rfl (z := (8 : Int32)) rfl ?_
      refine g_iloadN 30 X0 hx (hb hby d1_29) rfl (v := p3) rfl ?_
      refine g_imul 31 X0 hx (hb hby d1_30) rfl (z := ((8 : Int32) * p3)) rfl ?_
      refine g_lushr 32 X0 hx (hb hby d1_31) rfl (z := ((q1.toUInt64 >>> (((8 : Int32) * p3) &&& 0x3f).toInt64.toUInt64).toInt64)) rfl ?_
      refine g_l2i 33 X0 hx (hb hby d1_32) rfl (z := (((q1.toUInt64 >>> (((8 : Int32) * p3) &&& 0x3f).toInt64.toUInt64).toInt64).toInt32)) rfl ?_
      refine g_i2b 34 X0 hx (hb hby d1_33) rfl (z := ((((q1.toUInt64 >>> (((8 : Int32) * p3) &&& 0x3f).toInt64.toUInt64).toInt64).toInt32).toInt8.toInt32)) rfl ?_
      exact g_retN X0 hx (t := .byte) Bd.returns hlk (by simp) rfl (hb hby d1_34) (by decide) (by decide) ⟨(nar .byte ((((q1.toUInt64 >>> (((8 : Int32) * p3) &&& 0x3f).toInt64.toUInt64).toInt64).toInt32).toInt8.toInt32)), rfl, (Or.inr (Or.inr ⟨hc11_0, hc20_1, rfl⟩)), N0, e0⟩
theorem d2_0 : decode jdk_29_method_69_code 0 = .ok (.iload_n 0, 1) := by decide +kernel
theorem d2_1 : decode jdk_29_method_69_code 1 = .ok (.iload_n 1, 1) := by decide +kernel
theorem d2_2 : decode jdk_29_method_69_code 2 = .ok (.if_icmp .gt 7, 3) := by decide +kernel
theorem d2_5 : decode jdk_29_method_69_code 5 = .ok (.iload_n 0, 1) := by decide +kernel
theorem d2_6 : decode jdk_29_method_69_code 6 = .ok (.goto 4, 3) := by decide +kernel
theorem d2_9 : decode jdk_29_method_69_code 9 = .ok (.iload_n 1, 1) := by decide +kernel
theorem d2_10 : decode jdk_29_method_69_code 10 = .ok (.ireturn, 1) := by decide +kernel
def Rel2 (p1 : Int32) (p2 : Int32) (r : Int32) : Prop := (p2 < p1 ∧ r = p2) ∨ (¬ (p2 < p1) ∧ r = p1)
def Q2 (Z : State) (p1 : Int32) (p2 : Int32) (h0 : Heap) (n0 : Nat) (v : Option Value) (h : Heap) (L : List Loc) : Prop := ∃ r : Int32, v = some (.int r) ∧ Rel2 p1 p2 r ∧ Fr n0 L ∧ h = h0
theorem ef_rm2 (m : MethodId) (p1 : Int32) (p2 : Int32) : entryFrame m #[(.int p1), (.int p2)] 2 = mkF m 0 #[.val (.int p1), .val (.int p2)] [] := by first | (simp [entryFrame, mkF, argsToLocals, Value.category]; done) | rfl
set_option maxRecDepth 65536 in
set_option maxHeartbeats 40000000 in
theorem rm2 (l : Launch) (Z : State) (a0 : Array Value) (hw : ∀ d ∈ tables_1, d.before a0 Z = true) (ws : List Jvm.Cond) (p1 : Int32) (p2 : Int32) (h0 : Heap) (n0 : Nat) (Z0 : n0 ≤ h0.size)  :
    MetFree l (⟨"java/lang/Math", "min", "(II)I"⟩ : MethodName) (head1 (Jvm.Cond.code (⟨"java/lang/Math", "min", "(II)I"⟩ : MethodName) jdk_29_method_69_code 2 (some .int) :: ws) ({ frames := 0, cells := 0, slots := 0, locals := 0 } : Room)) (fun a U => a = #[(.int p1), (.int p2)] ∧ Z.Warmed39 U.vm ∧ U.heap = h0) (fun _ _ _ _ _ => True) (fun _ U o U' => ∃ v L, o = .returned v ∧ (Q2 Z p1 p2 h0 n0) v U'.heap L ∧ FrameEnd U o U' L ({ frames := 0, cells := 0, slots := 0, locals := 0 } : Room).cells ({ frames := 0, cells := 0, slots := 0, locals := 0 } : Room).slots) := by
  refine MetFree.of_bodySF (Jvm.Free.JP.mathPlain rfl (by decide +kernel)) hisR ?_
  intro p e s m args below meth c s₁ Bd hml0 hP hK
  obtain ⟨rfl, hZ, hh⟩ := hP
  have hx := Bd.exec
  have hby := Bd.bytes
  have hml : c.maxLocals = 2 := hml0
  have hown : s.vm.findClass "java/lang/Math" = some m.cls := findClass_of_methodNamed Bd.named
  have hnm := (name_of_methodNamed Bd.named Bd.method).1
  have hlk : meth.locks = false := BodyLoose.notSynchronized Bd
  have X0 : Stand p l e ({ frames := 0, cells := 0, slots := 0, locals := 0 } : Room) s m #[(.int p1), (.int p2)] below meth c s₁ [] 0 0 := Stand.of_body Bd
  have e0 : s₁.heap = h0 := by rw [← hh, Bd.state]; rfl
  have N0 := Fr.nil n0
  show Go p e below s ({ frames := 0, cells := 0, slots := 0, locals := 0 } : Room).cells ({ frames := 0, cells := 0, slots := 0, locals := 0 } : Room).slots (Q2 Z p1 p2 h0 n0) s₁ (entryFrame m #[(.int p1), (.int p2)] 2)
  rw [ef_rm2 m p1 p2]
  refine g_iloadN 1 X0 hx (hb hby d2_0) rfl (v := p1) rfl ?_
  refine g_iloadN 2 X0 hx (hb hby d2_1) rfl (v := p2) rfl ?_
  by_cases hc2_0 : p2 < p1
  ·
    refine g_icmpYes 9 X0 hx (hb hby d2_2)  (tlt hc2_0).2.2.1 (by decide) (by decide) ?_
    refine g_iloadN 10 X0 hx (hb hby d2_9) rfl (v := p2) rfl ?_
    exact g_retI X0 hx Bd.returns hlk (hb hby d2_10) (by decide) (by decide) ⟨p2, rfl, (Or.inl ⟨hc2_0, rfl⟩), N0, e0⟩
  ·
    refine g_icmpNo 5 X0 hx (hb hby d2_2)  (flt hc2_0).2.2.1 rfl ?_
    refine g_iloadN 6 X0 hx (hb hby d2_5) rfl (v := p1) rfl ?_
    refine g_goto 10 X0 hx (hb hby d2_6) (by decide) (by decide) ?_
    exact g_retI X0 hx Bd.returns hlk (hb hby d2_10) (by decide) (by decide) ⟨p1, rfl, (Or.inr ⟨hc2_0, rfl⟩), N0, e0⟩
theorem d3_0 : decode jdk_29_method_65_code 0 = .ok (.iload_n 0, 1) := by decide +kernel
theorem d3_1 : decode jdk_29_method_65_code 1 = .ok (.iload_n 1, 1) := by decide +kernel
theorem d3_2 : decode jdk_29_method_65_code 2 = .ok (.if_icmp .lt 7, 3) := by decide +kernel
theorem d3_5 : decode jdk_29_method_65_code 5 = .ok (.iload_n 0, 1) := by decide +kernel
theorem d3_6 : decode jdk_29_method_65_code 6 = .ok (.goto 4, 3) := by decide +kernel
theorem d3_9 : decode jdk_29_method_65_code 9 = .ok (.iload_n 1, 1) := by decide +kernel
theorem d3_10 : decode jdk_29_method_65_code 10 = .ok (.ireturn, 1) := by decide +kernel
def Rel3 (p1 : Int32) (p2 : Int32) (r : Int32) : Prop := (p1 < p2 ∧ r = p2) ∨ (¬ (p1 < p2) ∧ r = p1)
def Q3 (Z : State) (p1 : Int32) (p2 : Int32) (h0 : Heap) (n0 : Nat) (v : Option Value) (h : Heap) (L : List Loc) : Prop := ∃ r : Int32, v = some (.int r) ∧ Rel3 p1 p2 r ∧ Fr n0 L ∧ h = h0
theorem ef_rm3 (m : MethodId) (p1 : Int32) (p2 : Int32) : entryFrame m #[(.int p1), (.int p2)] 2 = mkF m 0 #[.val (.int p1), .val (.int p2)] [] := by first | (simp [entryFrame, mkF, argsToLocals, Value.category]; done) | rfl
set_option maxRecDepth 65536 in
set_option maxHeartbeats 40000000 in
theorem rm3 (l : Launch) (Z : State) (a0 : Array Value) (hw : ∀ d ∈ tables_1, d.before a0 Z = true) (ws : List Jvm.Cond) (p1 : Int32) (p2 : Int32) (h0 : Heap) (n0 : Nat) (Z0 : n0 ≤ h0.size)  :
    MetFree l (⟨"java/lang/Math", "max", "(II)I"⟩ : MethodName) (head1 (Jvm.Cond.code (⟨"java/lang/Math", "max", "(II)I"⟩ : MethodName) jdk_29_method_65_code 2 (some .int) :: ws) ({ frames := 0, cells := 0, slots := 0, locals := 0 } : Room)) (fun a U => a = #[(.int p1), (.int p2)] ∧ Z.Warmed39 U.vm ∧ U.heap = h0) (fun _ _ _ _ _ => True) (fun _ U o U' => ∃ v L, o = .returned v ∧ (Q3 Z p1 p2 h0 n0) v U'.heap L ∧ FrameEnd U o U' L ({ frames := 0, cells := 0, slots := 0, locals := 0 } : Room).cells ({ frames := 0, cells := 0, slots := 0, locals := 0 } : Room).slots) := by
  refine MetFree.of_bodySF (Jvm.Free.JP.mathPlain rfl (by decide +kernel)) hisR ?_
  intro p e s m args below meth c s₁ Bd hml0 hP hK
  obtain ⟨rfl, hZ, hh⟩ := hP
  have hx := Bd.exec
  have hby := Bd.bytes
  have hml : c.maxLocals = 2 := hml0
  have hown : s.vm.findClass "java/lang/Math" = some m.cls := findClass_of_methodNamed Bd.named
  have hnm := (name_of_methodNamed Bd.named Bd.method).1
  have hlk : meth.locks = false := BodyLoose.notSynchronized Bd
  have X0 : Stand p l e ({ frames := 0, cells := 0, slots := 0, locals := 0 } : Room) s m #[(.int p1), (.int p2)] below meth c s₁ [] 0 0 := Stand.of_body Bd
  have e0 : s₁.heap = h0 := by rw [← hh, Bd.state]; rfl
  have N0 := Fr.nil n0
  show Go p e below s ({ frames := 0, cells := 0, slots := 0, locals := 0 } : Room).cells ({ frames := 0, cells := 0, slots := 0, locals := 0 } : Room).slots (Q3 Z p1 p2 h0 n0) s₁ (entryFrame m #[(.int p1), (.int p2)] 2)
  rw [ef_rm3 m p1 p2]
  refine g_iloadN 1 X0 hx (hb hby d3_0) rfl (v := p1) rfl ?_
  refine g_iloadN 2 X0 hx (hb hby d3_1) rfl (v := p2) rfl ?_
  by_cases hc2_0 : p1 < p2
  ·
    refine g_icmpYes 9 X0 hx (hb hby d3_2)  (tlt hc2_0).1 (by decide) (by decide) ?_
    refine g_iloadN 10 X0 hx (hb hby d3_9) rfl (v := p2) rfl ?_
    exact g_retI X0 hx Bd.returns hlk (hb hby d3_10) (by decide) (by decide) ⟨p2, rfl, (Or.inl ⟨hc2_0, rfl⟩), N0, e0⟩
  ·
    refine g_icmpNo 5 X0 hx (hb hby d3_2)  (flt hc2_0).1 rfl ?_
    refine g_iloadN 6 X0 hx (hb hby d3_5) rfl (v := p1) rfl ?_
    refine g_goto 10 X0 hx (hb hby d3_6) (by decide) (by decide) ?_
    exact g_retI X0 hx Bd.returns hlk (hb hby d3_10) (by decide) (by decide) ⟨p1, rfl, (Or.inr ⟨hc2_0, rfl⟩), N0, e0⟩
theorem d5_0 : decode method_4_code 0 = .ok (.iload_n 0, 1) := by decide +kernel
theorem d5_1 : decode method_4_code 1 = .ok (.bipush 13, 2) := by decide +kernel
theorem d5_3 : decode method_4_code 3 = .ok (.if_icmp .eq 9, 3) := by decide +kernel
theorem d5_6 : decode method_4_code 6 = .ok (.iload_n 0, 1) := by decide +kernel
theorem d5_7 : decode method_4_code 7 = .ok (.bipush 10, 2) := by decide +kernel
theorem d5_9 : decode method_4_code 9 = .ok (.if_icmp .ne 7, 3) := by decide +kernel
theorem d5_12 : decode method_4_code 12 = .ok (.iconst 1, 1) := by decide +kernel
theorem d5_13 : decode method_4_code 13 = .ok (.goto 4, 3) := by decide +kernel
theorem d5_16 : decode method_4_code 16 = .ok (.iconst 0, 1) := by decide +kernel
theorem d5_17 : decode method_4_code 17 = .ok (.ireturn, 1) := by decide +kernel
def Rel5 (p1 : Int32) (r : Int32) : Prop := (p1 = (13 : Int32) ∧ r = (1 : Int32)) ∨ (¬ (p1 = (13 : Int32)) ∧ p1 = (10 : Int32) ∧ r = (1 : Int32)) ∨ (¬ (p1 = (13 : Int32)) ∧ ¬ (p1 = (10 : Int32)) ∧ r = (0 : Int32))
def Q5 (Z : State) (p1 : Int32) (h0 : Heap) (n0 : Nat) (v : Option Value) (h : Heap) (L : List Loc) : Prop := ∃ r : Int32, v = some (.int r) ∧ Rel5 p1 r ∧ Fr n0 L ∧ h = h0
theorem ef_rm5 (m : MethodId) (p1 : Int32) : entryFrame m #[(.int p1)] 1 = mkF m 0 #[.val (.int p1)] [] := by first | (simp [entryFrame, mkF, argsToLocals, Value.category]; done) | rfl
set_option maxRecDepth 65536 in
set_option maxHeartbeats 40000000 in
theorem rm5 (l : Launch) (Z : State) (a0 : Array Value) (hw : ∀ d ∈ tables_1, d.before a0 Z = true) (ws : List Jvm.Cond) (p1 : Int32) (h0 : Heap) (n0 : Nat) (Z0 : n0 ≤ h0.size)  :
    MetFree l (⟨"com/example/paillasse/paillasse/message/SegmentIndexCountPinLaw", "isTerm", "(B)Z"⟩ : MethodName) (head1 (Jvm.Cond.code (⟨"com/example/paillasse/paillasse/message/SegmentIndexCountPinLaw", "isTerm", "(B)Z"⟩ : MethodName) method_4_code 1 (some .boolean) :: ws) ({ frames := 0, cells := 0, slots := 0, locals := 0 } : Room)) (fun a U => a = #[(.int p1)] ∧ Z.Warmed39 U.vm ∧ U.heap = h0) (fun _ _ _ _ _ => True) (fun _ U o U' => ∃ v L, o = .returned v ∧ (Q5 Z p1 h0 n0) v U'.heap L ∧ FrameEnd U o U' L ({ frames := 0, cells := 0, slots := 0, locals := 0 } : Room).cells ({ frames := 0, cells := 0, slots := 0, locals := 0 } : Room).slots) := by
  refine MetFree.of_bodySF (plainFor_of_name pn_0) hisR ?_
  intro p e s m args below meth c s₁ Bd hml0 hP hK
  obtain ⟨rfl, hZ, hh⟩ := hP
  have hx := Bd.exec
  have hby := Bd.bytes
  have hml : c.maxLocals = 1 := hml0
  have hown : s.vm.findClass "com/example/paillasse/paillasse/message/SegmentIndexCountPinLaw" = some m.cls := findClass_of_methodNamed Bd.named
  have hnm := (name_of_methodNamed Bd.named Bd.method).1
  have hlk : meth.locks = false := BodyLoose.notSynchronized Bd
  have X0 : Stand p l e ({ frames := 0, cells := 0, slots := 0, locals := 0 } : Room) s m #[(.int p1)] below meth c s₁ [] 0 0 := Stand.of_body Bd
  have e0 : s₁.heap = h0 := by rw [← hh, Bd.state]; rfl
  have N0 := Fr.nil n0
  show Go p e below s ({ frames := 0, cells := 0, slots := 0, locals := 0 } : Room).cells ({ frames := 0, cells := 0, slots := 0, locals := 0 } : Room).slots (Q5 Z p1 h0 n0) s₁ (entryFrame m #[(.int p1)] 1)
  rw [ef_rm5 m p1]
  refine g_iloadN 1 X0 hx (hb hby d5_0) rfl (v := p1) rfl ?_
  refine g_bipush 3 X0 hx (hb hby d5_1) rfl (z := (13 : Int32)) rfl ?_
  by_cases hc3_0 : p1 = (13 : Int32)
  ·
    refine g_icmpYes 12 X0 hx (hb hby d5_3)  (teq hc3_0).1 (by decide) (by decide) ?_
    refine g_iconst 13 X0 hx (hb hby d5_12) rfl (z := (1 : Int32)) rfl ?_
    refine g_goto 17 X0 hx (hb hby d5_13) (by decide) (by decide) ?_
    exact g_retN X0 hx (t := .boolean) Bd.returns hlk (by simp) rfl (hb hby d5_17) (by decide) (by decide) ⟨(1 : Int32), rfl, (Or.inl ⟨hc3_0, rfl⟩), N0, e0⟩
  ·
    refine g_icmpNo 6 X0 hx (hb hby d5_3)  (feq hc3_0).1 rfl ?_
    refine g_iloadN 7 X0 hx (hb hby d5_6) rfl (v := p1) rfl ?_
    refine g_bipush 9 X0 hx (hb hby d5_7) rfl (z := (10 : Int32)) rfl ?_
    by_cases hc9_1 : p1 = (10 : Int32)
    ·
      refine g_icmpNo 12 X0 hx (hb hby d5_9)  (teq hc9_1).2 rfl ?_
      refine g_iconst 13 X0 hx (hb hby d5_12) rfl (z := (1 : Int32)) rfl ?_
      refine g_goto 17 X0 hx (hb hby d5_13) (by decide) (by decide) ?_
      exact g_retN X0 hx (t := .boolean) Bd.returns hlk (by simp) rfl (hb hby d5_17) (by decide) (by decide) ⟨(1 : Int32), rfl, (Or.inr (Or.inl ⟨hc3_0, hc9_1, rfl⟩)), N0, e0⟩
    ·
      refine g_icmpYes 16 X0 hx (hb hby d5_9)  (feq hc9_1).2 (by decide) (by decide) ?_
      refine g_iconst 17 X0 hx (hb hby d5_16) rfl (z := (0 : Int32)) rfl ?_
      exact g_retN X0 hx (t := .boolean) Bd.returns hlk (by simp) rfl (hb hby d5_17) (by decide) (by decide) ⟨(0 : Int32), rfl, (Or.inr (Or.inr ⟨hc3_0, hc9_1, rfl⟩)), N0, e0⟩
theorem own_it (x r : Int32) (h : Rel5 x r) : (own_t x = true ∧ r = 1) ∨ (¬ own_t x = true ∧ r = 0) := by
  unfold own_t
  rw [decide_eq_true_iff]
  rcases h with ⟨a, b⟩ | ⟨a, b, c⟩ | ⟨a, b, c⟩
  · exact Or.inl ⟨Or.inl a, b⟩
  · exact Or.inl ⟨Or.inr b, c⟩
  · exact Or.inr ⟨fun q => q.elim a b, c⟩
theorem pd_0 : parseMethodDescriptor "(B)Z" = some ⟨[.byte], some .boolean⟩ := by decide +kernel
theorem d4_0 : decode method_5_code 0 = .ok (.iload_n 1, 1) := by decide +kernel
theorem d4_1 : decode method_5_code 1 = .ok (.iload_n 2, 1) := by decide +kernel
theorem d4_2 : decode method_5_code 2 = .ok (.if_icmp .lt 8, 3) := by decide +kernel
theorem d4_5 : decode method_5_code 5 = .ok (.iload_n 1, 1) := by decide +kernel
theorem d4_6 : decode method_5_code 6 = .ok (.iload_n 3, 1) := by decide +kernel
theorem d4_7 : decode method_5_code 7 = .ok (.if_icmp .lt 5, 3) := by decide +kernel
theorem d4_10 : decode method_5_code 10 = .ok (.iconst 0, 1) := by decide +kernel
theorem d4_11 : decode method_5_code 11 = .ok (.ireturn, 1) := by decide +kernel
theorem d4_12 : decode method_5_code 12 = .ok (.aload_n 0, 1) := by decide +kernel
theorem d4_13 : decode method_5_code 13 = .ok (.iload_n 1, 1) := by decide +kernel
theorem d4_14 : decode method_5_code 14 = .ok (.baload, 1) := by decide +kernel
theorem d4_15 : decode method_5_code 15 = .ok (.invokestatic 33, 3) := by decide +kernel
theorem d4_18 : decode method_5_code 18 = .ok (.ifCond .eq 5, 3) := by decide +kernel
theorem d4_21 : decode method_5_code 21 = .ok (.iconst 0, 1) := by decide +kernel
theorem d4_22 : decode method_5_code 22 = .ok (.ireturn, 1) := by decide +kernel
theorem d4_23 : decode method_5_code 23 = .ok (.iload_n 1, 1) := by decide +kernel
theorem d4_24 : decode method_5_code 24 = .ok (.iload_n 2, 1) := by decide +kernel
theorem d4_25 : decode method_5_code 25 = .ok (.if_icmp .ne 5, 3) := by decide +kernel
theorem d4_28 : decode method_5_code 28 = .ok (.iconst 1, 1) := by decide +kernel
theorem d4_29 : decode method_5_code 29 = .ok (.ireturn, 1) := by decide +kernel
theorem d4_30 : decode method_5_code 30 = .ok (.aload_n 0, 1) := by decide +kernel
theorem d4_31 : decode method_5_code 31 = .ok (.iload_n 1, 1) := by decide +kernel
theorem d4_32 : decode method_5_code 32 = .ok (.iconst 1, 1) := by decide +kernel
theorem d4_33 : decode method_5_code 33 = .ok (.isub, 1) := by decide +kernel
theorem d4_34 : decode method_5_code 34 = .ok (.baload, 1) := by decide +kernel
theorem d4_35 : decode method_5_code 35 = .ok (.invokestatic 33, 3) := by decide +kernel
theorem d4_38 : decode method_5_code 38 = .ok (.ifCond .eq 7, 3) := by decide +kernel
theorem d4_41 : decode method_5_code 41 = .ok (.iconst 1, 1) := by decide +kernel
theorem d4_42 : decode method_5_code 42 = .ok (.goto 4, 3) := by decide +kernel
theorem d4_45 : decode method_5_code 45 = .ok (.iconst 0, 1) := by decide +kernel
theorem d4_46 : decode method_5_code 46 = .ok (.ireturn, 1) := by decide +kernel
def Rel4 (p2 : Int32) (p3 : Int32) (p4 : Int32) (bs1 : List Int32) (r : Int32) : Prop := (p2 < p3 ∧ r = (0 : Int32)) ∨ (∃ (r3 : Int32), ¬ (p2 < p3) ∧ p2 < p4 ∧ Rel5 (bs1.getD p2.toInt.toNat 0) r3 ∧ r3 = (0 : Int32) ∧ p2 = p3 ∧ r = (1 : Int32)) ∨ (∃ (r3 : Int32) (r6 : Int32), ¬ (p2 < p3) ∧ p2 < p4 ∧ Rel5 (bs1.getD p2.toInt.toNat 0) r3 ∧ r3 = (0 : Int32) ∧ ¬ (p2 = p3) ∧ Rel5 (bs1.getD (p2 - (1 : Int32)).toInt.toNat 0) r6 ∧ r6 = (0 : Int32) ∧ r = (0 : Int32)) ∨ (∃ (r3 : Int32) (r6 : Int32), ¬ (p2 < p3) ∧ p2 < p4 ∧ Rel5 (bs1.getD p2.toInt.toNat 0) r3 ∧ r3 = (0 : Int32) ∧ ¬ (p2 = p3) ∧ Rel5 (bs1.getD (p2 - (1 : Int32)).toInt.toNat 0) r6 ∧ ¬ (r6 = (0 : Int32)) ∧ r = (1 : Int32)) ∨ (∃ (r3 : Int32), ¬ (p2 < p3) ∧ p2 < p4 ∧ Rel5 (bs1.getD p2.toInt.toNat 0) r3 ∧ ¬ (r3 = (0 : Int32)) ∧ r = (0 : Int32)) ∨ (¬ (p2 < p3) ∧ ¬ (p2 < p4) ∧ r = (0 : Int32))
def Q4 (Z : State) (a1 : Addr) (p2 : Int32) (p3 : Int32) (p4 : Int32) (bs1 : List Int32) (h0 : Heap) (n0 : Nat) (v : Option Value) (h : Heap) (L : List Loc) : Prop := ∃ r : Int32, v = some (.int r) ∧ Rel4 p2 p3 p4 bs1 r ∧ Fr n0 L ∧ h = h0
theorem ef_rm4 (m : MethodId) (a1 : Addr) (p2 : Int32) (p3 : Int32) (p4 : Int32) : entryFrame m #[(.ref a1), (.int p2), (.int p3), (.int p4)] 4 = mkF m 0 #[.val (.ref a1), .val (.int p2), .val (.int p3), .val (.int p4)] [] := by first | (simp [entryFrame, mkF, argsToLocals, Value.category]; done) | rfl
set_option maxRecDepth 65536 in
set_option maxHeartbeats 40000000 in
theorem rm4 (l : Launch) (Z : State) (a0 : Array Value) (hw : ∀ d ∈ tables_1, d.before a0 Z = true) (ws : List Jvm.Cond) (a1 : Addr) (p2 : Int32) (p3 : Int32) (p4 : Int32) (bs1 : List Int32) (h0 : Heap) (n0 : Nat) (Z0 : n0 ≤ h0.size) (A_a1 : AI Z h0 a1 .byte bs1) (hi : 0 ≤ p2.toInt ∧ p2.toInt ≤ 5) (hf : 0 ≤ p3.toInt) (hl : bs1.length = 6) :
    MetFree l (⟨"com/example/paillasse/paillasse/message/SegmentIndexCountPinLaw", "startAt", "([BIII)I"⟩ : MethodName) (head1 (Jvm.Cond.code (⟨"com/example/paillasse/paillasse/message/SegmentIndexCountPinLaw", "startAt", "([BIII)I"⟩ : MethodName) method_5_code 4 (some .int) :: ws) ({ frames := 1, cells := 0, slots := 0, locals := 12 } : Room)) (fun a U => a = #[(.ref a1), (.int p2), (.int p3), (.int p4)] ∧ Z.Warmed39 U.vm ∧ U.heap = h0) (fun _ _ _ _ _ => True) (fun _ U o U' => ∃ v L, o = .returned v ∧ (Q4 Z a1 p2 p3 p4 bs1 h0 n0) v U'.heap L ∧ FrameEnd U o U' L ({ frames := 1, cells := 0, slots := 0, locals := 12 } : Room).cells ({ frames := 1, cells := 0, slots := 0, locals := 12 } : Room).slots) := by
  refine MetFree.of_bodySF (plainFor_of_name pn_0) hisR ?_
  intro p e s m args below meth c s₁ Bd hml0 hP hK
  obtain ⟨rfl, hZ, hh⟩ := hP
  have hx := Bd.exec
  have hby := Bd.bytes
  have hml : c.maxLocals = 4 := hml0
  have hown : s.vm.findClass "com/example/paillasse/paillasse/message/SegmentIndexCountPinLaw" = some m.cls := findClass_of_methodNamed Bd.named
  have hnm := (name_of_methodNamed Bd.named Bd.method).1
  have hlk : meth.locks = false := BodyLoose.notSynchronized Bd
  have X0 : Stand p l e ({ frames := 1, cells := 0, slots := 0, locals := 12 } : Room) s m #[(.ref a1), (.int p2), (.int p3), (.int p4)] below meth c s₁ [] 0 0 := Stand.of_body Bd
  have e0 : s₁.heap = h0 := by rw [← hh, Bd.state]; rfl
  have N0 := Fr.nil n0
  show Go p e below s ({ frames := 1, cells := 0, slots := 0, locals := 12 } : Room).cells ({ frames := 1, cells := 0, slots := 0, locals := 12 } : Room).slots (Q4 Z a1 p2 p3 p4 bs1 h0 n0) s₁ (entryFrame m #[(.ref a1), (.int p2), (.int p3), (.int p4)] 4)
  rw [ef_rm4 m a1 p2 p3 p4]
  refine g_iloadN 1 X0 hx (hb hby d4_0) rfl (v := p2) rfl ?_
  refine g_iloadN 2 X0 hx (hb hby d4_1) rfl (v := p3) rfl ?_
  by_cases hc2_0 : p2 < p3
  ·
    refine g_icmpYes 10 X0 hx (hb hby d4_2)  (tlt hc2_0).1 (by decide) (by decide) ?_
    refine g_iconst 11 X0 hx (hb hby d4_10) rfl (z := (0 : Int32)) rfl ?_
    exact g_retI X0 hx Bd.returns hlk (hb hby d4_11) (by decide) (by decide) ⟨(0 : Int32), rfl, (Or.inl ⟨hc2_0, rfl⟩), N0, e0⟩
  ·
    refine g_icmpNo 5 X0 hx (hb hby d4_2)  (flt hc2_0).1 rfl ?_
    refine g_iloadN 6 X0 hx (hb hby d4_5) rfl (v := p2) rfl ?_
    refine g_iloadN 7 X0 hx (hb hby d4_6) rfl (v := p4) rfl ?_
    by_cases hc7_1 : p2 < p4
    ·
      refine g_icmpYes 12 X0 hx (hb hby d4_7)  (tlt hc7_1).1 (by decide) (by decide) ?_
      refine g_aloadN 13 X0 hx (hb hby d4_12) rfl (v := (.ref a1)) rfl rfl ?_
      refine g_iloadN 14 X0 hx (hb hby d4_13) rfl (v := p2) rfl ?_
      refine g_baload 15 X0 hx hZ e0 A_a1 (p2.toInt.toNat) (own_nat0 hi.1) rfl (z := (bs1.getD p2.toInt.toNat 0)) (own_get (by omega)) (hb hby d4_14) rfl ?_
      refine g_callS 18 X0 hx hZ (y := (⟨"com/example/paillasse/paillasse/message/SegmentIndexCountPinLaw", "isTerm", "(B)Z"⟩ : MethodName)) hown (hw _ (List.mem_of_getElem? (i := 16) rfl)) (hw _ (List.mem_of_getElem? (i := 17) rfl)) (hw _ (List.mem_of_getElem? (i := 3) rfl)) (hw _ (List.mem_of_getElem? (i := 18) rfl)) (by decide) e0 (rm5 l Z a0 hw [] (bs1.getD p2.toInt.toNat 0)  h0 n0 Z0 ) (by rw [hml]; rfl) [(.int (bs1.getD p2.toInt.toNat 0))] [] rfl rfl (lenOf pd_0 rfl) 0 (Nat.le_of_eq rfl) (hb hby d4_15) (by decide) (by decide) (by decide) (by decide) rfl ?_
      intro v3 T3 L3 X3 hQ3
      obtain ⟨r3, rfl, hr3, N3q, e3⟩ := hQ3
      have N3 := Fr.app N0 N3q
      show Go p e below s ({ frames := 1, cells := 0, slots := 0, locals := 12 } : Room).cells ({ frames := 1, cells := 0, slots := 0, locals := 12 } : Room).slots (Q4 Z a1 p2 p3 p4 bs1 h0 n0) T3 (mkF m 18 #[.val (.ref a1), .val (.int p2), .val (.int p3), .val (.int p4)] [(.int r3)])
      by_cases hc18_3 : r3 = (0 : Int32)
      ·
        refine g_ifYes 23 X3 hx (hb hby d4_18)  ((if0 _ _).trans (teq hc18_3).1) (by decide) (by decide) ?_
        refine g_iloadN 24 X3 hx (hb hby d4_23) rfl (v := p2) rfl ?_
        refine g_iloadN 25 X3 hx (hb hby d4_24) rfl (v := p3) rfl ?_
        by_cases hc25_4 : p2 = p3
        ·
          refine g_icmpNo 28 X3 hx (hb hby d4_25)  (teq hc25_4).2 rfl ?_
          refine g_iconst 29 X3 hx (hb hby d4_28) rfl (z := (1 : Int32)) rfl ?_
          exact g_retI X3 hx Bd.returns hlk (hb hby d4_29) (by decide) (by decide) ⟨(1 : Int32), rfl, (Or.inr (Or.inl ⟨r3, hc2_0, hc7_1, hr3, hc18_3, hc25_4, rfl⟩)), N3, e3⟩
        ·
          refine g_icmpYes 30 X3 hx (hb hby d4_25)  (feq hc25_4).2 (by decide) (by decide) ?_
          refine g_aloadN 31 X3 hx (hb hby d4_30) rfl (v := (.ref a1)) rfl rfl ?_
          refine g_iloadN 32 X3 hx (hb hby d4_31) rfl (v := p2) rfl ?_
          refine g_iconst 33 X3 hx (hb hby d4_32) rfl (z := (1 : Int32)) rfl ?_
          refine g_isub 34 X3 hx (hb hby d4_33) rfl (z := (p2 - (1 : Int32))) rfl ?_
          refine g_baload 35 X3 hx hZ e3 A_a1 ((p2 - (1 : Int32)).toInt.toNat) (own_nat0 (by rw [own_dec hi.1 (by omega)]; exact (by have q := mt Int32.lt_iff_toInt_lt.mpr hc2_0; have r : ¬ p2.toInt = p3.toInt := fun e => hc25_4 (Int32.toInt_inj.mp e); omega))) rfl (z := (bs1.getD (p2 - (1 : Int32)).toInt.toNat 0)) (own_get (by rw [own_dec hi.1 (by omega)]; omega)) (hb hby d4_34) rfl ?_
          refine g_callS 38 X3 hx hZ (y := (⟨"com/example/paillasse/paillasse/message/SegmentIndexCountPinLaw", "isTerm", "(B)Z"⟩ : MethodName)) hown (hw _ (List.mem_of_getElem? (i := 16) rfl)) (hw _ (List.mem_of_getElem? (i := 17) rfl)) (hw _ (List.mem_of_getElem? (i := 3) rfl)) (hw _ (List.mem_of_getElem? (i := 18) rfl)) (by decide) e3 (rm5 l Z a0 hw [] (bs1.getD (p2 - (1 : Int32)).toInt.toNat 0)  h0 n0 Z0 ) (by rw [hml]; rfl) [(.int (bs1.getD (p2 - (1 : Int32)).toInt.toNat 0))] [] rfl rfl (lenOf pd_0 rfl) 0 (Nat.le_of_eq rfl) (hb hby d4_35) (by decide) (by decide) (by decide) (by decide) rfl ?_
          intro v6 T6 L6 X6 hQ6
          obtain ⟨r6, rfl, hr6, N6q, e6⟩ := hQ6
          have N6 := Fr.app N3 N6q
          show Go p e below s ({ frames := 1, cells := 0, slots := 0, locals := 12 } : Room).cells ({ frames := 1, cells := 0, slots := 0, locals := 12 } : Room).slots (Q4 Z a1 p2 p3 p4 bs1 h0 n0) T6 (mkF m 38 #[.val (.ref a1), .val (.int p2), .val (.int p3), .val (.int p4)] [(.int r6)])
          by_cases hc38_6 : r6 = (0 : Int32)
          ·
            refine g_ifYes 45 X6 hx (hb hby d4_38)  ((if0 _ _).trans (teq hc38_6).1) (by decide) (by decide) ?_
            refine g_iconst 46 X6 hx (hb hby d4_45) rfl (z := (0 : Int32)) rfl ?_
            exact g_retI X6 hx Bd.returns hlk (hb hby d4_46) (by decide) (by decide) ⟨(0 : Int32), rfl, (Or.inr (Or.inr (Or.inl ⟨r3, r6, hc2_0, hc7_1, hr3, hc18_3, hc25_4, hr6, hc38_6, rfl⟩))), N6, e6⟩
          ·
            refine g_ifNo 41 X6 hx (hb hby d4_38)  ((if0 _ _).trans (feq hc38_6).1) rfl ?_
            refine g_iconst 42 X6 hx (hb hby d4_41) rfl (z := (1 : Int32)) rfl ?_
            refine g_goto 46 X6 hx (hb hby d4_42) (by decide) (by decide) ?_
            exact g_retI X6 hx Bd.returns hlk (hb hby d4_46) (by decide) (by decide) ⟨(1 : Int32), rfl, (Or.inr (Or.inr (Or.inr (Or.inl ⟨r3, r6, hc2_0, hc7_1, hr3, hc18_3, hc25_4, hr6, hc38_6, rfl⟩)))), N6, e6⟩
      ·
        refine g_ifNo 21 X3 hx (hb hby d4_18)  ((if0 _ _).trans (feq hc18_3).1) rfl ?_
        refine g_iconst 22 X3 hx (hb hby d4_21) rfl (z := (0 : Int32)) rfl ?_
        exact g_retI X3 hx Bd.returns hlk (hb hby d4_22) (by decide) (by decide) ⟨(0 : Int32), rfl, (Or.inr (Or.inr (Or.inr (Or.inr (Or.inl ⟨r3, hc2_0, hc7_1, hr3, hc18_3, rfl⟩))))), N3, e3⟩
    ·
      refine g_icmpNo 10 X0 hx (hb hby d4_7)  (flt hc7_1).1 rfl ?_
      refine g_iconst 11 X0 hx (hb hby d4_10) rfl (z := (0 : Int32)) rfl ?_
      exact g_retI X0 hx Bd.returns hlk (hb hby d4_11) (by decide) (by decide) ⟨(0 : Int32), rfl, (Or.inr (Or.inr (Or.inr (Or.inr (Or.inr ⟨hc2_0, hc7_1, rfl⟩))))), N0, e0⟩
theorem own_sa (bs : List Int32) (i f t r : Int32) (h : Rel4 i f t bs r) : r = own_start (bs.map own_t) i f t := by
  unfold own_start
  rw [own_tm, own_tm]
  rcases h with ⟨a, b⟩ | h
  · rw [if_pos (Or.inl a), b]
  · rcases h with h | h | h | h | h
    all_goals first
      | (obtain ⟨a, b, c⟩ := h; rw [if_pos (Or.inr b), c])
      | (obtain ⟨r1, a, b, c, d, e⟩ := h; rw [if_neg (fun q => q.elim a (fun g => g b))]; rcases own_it _ _ c with ⟨x, y⟩ | ⟨x, y⟩ <;> first | (rw [if_pos x, e]; done) | (rw [y] at d; exact absurd d (by decide)) | (rw [y] at d; exact absurd rfl d))
      | (obtain ⟨r1, a, b, c, d, e, g⟩ := h; rw [if_neg (fun q => q.elim a (fun g => g b))]; rcases own_it _ _ c with ⟨x, y⟩ | ⟨x, y⟩ <;> first | (rw [if_neg x, if_pos e, g]; done) | (rw [y] at d; exact absurd d (by decide)) | (rw [y] at d; exact absurd rfl d))
      | (obtain ⟨r1, r2, a, b, c, d, e, g, k, m⟩ := h; rw [if_neg (fun q => q.elim a (fun g => g b))]; rcases own_it _ _ c with ⟨x, y⟩ | ⟨x, y⟩ <;> rcases own_it _ _ g with ⟨u, v⟩ | ⟨u, v⟩ <;> first | (rw [if_neg x, if_neg e, if_pos u, m]; done) | (rw [if_neg x, if_neg e, if_neg u, m]; done) | (rw [y] at d; exact absurd d (by decide)) | (rw [y] at d; exact absurd rfl d) | (rw [v] at k; exact absurd k (by decide)) | (rw [v] at k; exact absurd rfl k))
theorem pn_1 : plainName "com/example/paillasse/paillasse/message/SegmentIndex" = true := by first | (simp [plainName, overriddenIn]; done) | decide +kernel
theorem d6_0 : decode prog_92_method_2_code 0 = .ok (.iconst 0, 1) := by decide +kernel
theorem d6_1 : decode prog_92_method_2_code 1 = .ok (.istore_n 3, 1) := by decide +kernel
theorem d6_2 : decode prog_92_method_2_code 2 = .ok (.iload_n 1, 1) := by decide +kernel
theorem d6_3 : decode prog_92_method_2_code 3 = .ok (.istore 4, 2) := by decide +kernel
theorem d6_5 : decode prog_92_method_2_code 5 = .ok (.iload_n 1, 1) := by decide +kernel
theorem d6_6 : decode prog_92_method_2_code 6 = .ok (.istore 5, 2) := by decide +kernel
theorem d6_8 : decode prog_92_method_2_code 8 = .ok (.iload 5, 2) := by decide +kernel
theorem d6_10 : decode prog_92_method_2_code 10 = .ok (.iload_n 2, 1) := by decide +kernel
theorem d6_11 : decode prog_92_method_2_code 11 = .ok (.if_icmp .ge 43, 3) := by decide +kernel
theorem d6_14 : decode prog_92_method_2_code 14 = .ok (.aload_n 0, 1) := by decide +kernel
theorem d6_15 : decode prog_92_method_2_code 15 = .ok (.iload 5, 2) := by decide +kernel
theorem d6_17 : decode prog_92_method_2_code 17 = .ok (.baload, 1) := by decide +kernel
theorem d6_18 : decode prog_92_method_2_code 18 = .ok (.bipush 13, 2) := by decide +kernel
theorem d6_20 : decode prog_92_method_2_code 20 = .ok (.if_icmp .eq 12, 3) := by decide +kernel
theorem d6_23 : decode prog_92_method_2_code 23 = .ok (.aload_n 0, 1) := by decide +kernel
theorem d6_24 : decode prog_92_method_2_code 24 = .ok (.iload 5, 2) := by decide +kernel
theorem d6_26 : decode prog_92_method_2_code 26 = .ok (.baload, 1) := by decide +kernel
theorem d6_27 : decode prog_92_method_2_code 27 = .ok (.bipush 10, 2) := by decide +kernel
theorem d6_29 : decode prog_92_method_2_code 29 = .ok (.if_icmp .ne 19, 3) := by decide +kernel
theorem d6_32 : decode prog_92_method_2_code 32 = .ok (.iload 5, 2) := by decide +kernel
theorem d6_34 : decode prog_92_method_2_code 34 = .ok (.iload 4, 2) := by decide +kernel
theorem d6_36 : decode prog_92_method_2_code 36 = .ok (.if_icmp .le 6, 3) := by decide +kernel
theorem d6_39 : decode prog_92_method_2_code 39 = .ok (.iinc 3 1, 3) := by decide +kernel
theorem d6_42 : decode prog_92_method_2_code 42 = .ok (.iload 5, 2) := by decide +kernel
theorem d6_44 : decode prog_92_method_2_code 44 = .ok (.iconst 1, 1) := by decide +kernel
theorem d6_45 : decode prog_92_method_2_code 45 = .ok (.iadd, 1) := by decide +kernel
theorem d6_46 : decode prog_92_method_2_code 46 = .ok (.istore 4, 2) := by decide +kernel
theorem d6_48 : decode prog_92_method_2_code 48 = .ok (.iinc 5 1, 3) := by decide +kernel
theorem d6_51 : decode prog_92_method_2_code 51 = .ok (.goto (-43), 3) := by decide +kernel
theorem d6_54 : decode prog_92_method_2_code 54 = .ok (.iload_n 2, 1) := by decide +kernel
theorem d6_55 : decode prog_92_method_2_code 55 = .ok (.iload 4, 2) := by decide +kernel
theorem d6_57 : decode prog_92_method_2_code 57 = .ok (.if_icmp .le 9, 3) := by decide +kernel
theorem d6_60 : decode prog_92_method_2_code 60 = .ok (.iload_n 3, 1) := by decide +kernel
theorem d6_61 : decode prog_92_method_2_code 61 = .ok (.iconst 1, 1) := by decide +kernel
theorem d6_62 : decode prog_92_method_2_code 62 = .ok (.iadd, 1) := by decide +kernel
theorem d6_63 : decode prog_92_method_2_code 63 = .ok (.goto 4, 3) := by decide +kernel
theorem d6_66 : decode prog_92_method_2_code 66 = .ok (.iload_n 3, 1) := by decide +kernel
theorem d6_67 : decode prog_92_method_2_code 67 = .ok (.ireturn, 1) := by decide +kernel
def Rel6 (p2 : Int32) (p3 : Int32) (bs1 : List Int32) (r : Int32) : Prop := r = own_cnt (bs1.map own_t) p3 (p3.toInt - p2.toInt).toNat p2 p2 0
def Q6 (Z : State) (a1 : Addr) (p2 : Int32) (p3 : Int32) (bs1 : List Int32) (h0 : Heap) (n0 : Nat) (v : Option Value) (h : Heap) (L : List Loc) : Prop := ∃ r : Int32, v = some (.int r) ∧ Rel6 p2 p3 bs1 r ∧ Fr n0 L ∧ h = h0
theorem ef_rm6 (m : MethodId) (a1 : Addr) (p2 : Int32) (p3 : Int32) : entryFrame m #[(.ref a1), (.int p2), (.int p3)] 6 = mkF m 0 #[.val (.ref a1), .val (.int p2), .val (.int p3), .unset, .unset, .unset] [] := by first | (simp [entryFrame, mkF, argsToLocals, Value.category]; done) | rfl
set_option maxRecDepth 65536 in
set_option maxHeartbeats 40000000 in
theorem rm6 (l : Launch) (Z : State) (a0 : Array Value) (hw : ∀ d ∈ tables_1, d.before a0 Z = true) (ws : List Jvm.Cond) (a1 : Addr) (p2 : Int32) (p3 : Int32) (bs1 : List Int32) (h0 : Heap) (n0 : Nat) (Z0 : n0 ≤ h0.size) (A_a1 : AI Z h0 a1 .byte bs1) (hf : 0 ≤ p2.toInt) (ht : p3.toInt ≤ 6) (hl : bs1.length = 6) :
    MetFree l (⟨"com/example/paillasse/paillasse/message/SegmentIndex", "count", "([BII)I"⟩ : MethodName) (head1 (Jvm.Cond.code (⟨"com/example/paillasse/paillasse/message/SegmentIndex", "count", "([BII)I"⟩ : MethodName) prog_92_method_2_code 6 (some .int) :: ws) ({ frames := 0, cells := 0, slots := 0, locals := 0 } : Room)) (fun a U => a = #[(.ref a1), (.int p2), (.int p3)] ∧ Z.Warmed39 U.vm ∧ U.heap = h0) (fun _ _ _ _ _ => True) (fun _ U o U' => ∃ v L, o = .returned v ∧ (Q6 Z a1 p2 p3 bs1 h0 n0) v U'.heap L ∧ FrameEnd U o U' L ({ frames := 0, cells := 0, slots := 0, locals := 0 } : Room).cells ({ frames := 0, cells := 0, slots := 0, locals := 0 } : Room).slots) := by
  refine MetFree.of_bodySF (plainFor_of_name pn_1) hisR ?_
  intro p e s m args below meth c s₁ Bd hml0 hP hK
  obtain ⟨rfl, hZ, hh⟩ := hP
  have hx := Bd.exec
  have hby := Bd.bytes
  have hml : c.maxLocals = 6 := hml0
  have hown : s.vm.findClass "com/example/paillasse/paillasse/message/SegmentIndex" = some m.cls := findClass_of_methodNamed Bd.named
  have hnm := (name_of_methodNamed Bd.named Bd.method).1
  have hlk : meth.locks = false := BodyLoose.notSynchronized Bd
  have X0 : Stand p l e ({ frames := 0, cells := 0, slots := 0, locals := 0 } : Room) s m #[(.ref a1), (.int p2), (.int p3)] below meth c s₁ [] 0 0 := Stand.of_body Bd
  have e0 : s₁.heap = h0 := by rw [← hh, Bd.state]; rfl
  have N0 := Fr.nil n0
  show Go p e below s ({ frames := 0, cells := 0, slots := 0, locals := 0 } : Room).cells ({ frames := 0, cells := 0, slots := 0, locals := 0 } : Room).slots (Q6 Z a1 p2 p3 bs1 h0 n0) s₁ (entryFrame m #[(.ref a1), (.int p2), (.int p3)] 6)
  rw [ef_rm6 m a1 p2 p3]
  refine g_iconst 1 X0 hx (hb hby d6_0) rfl (z := (0 : Int32)) rfl ?_
  refine g_istoreN 2 X0 hx (hb hby d6_1) rfl (Ls' := #[.val (.ref a1), .val (.int p2), .val (.int p3), .val (.int (0 : Int32)), .unset, .unset]) rfl ?_
  refine g_iloadN 3 X0 hx (hb hby d6_2) rfl (v := p2) rfl ?_
  refine g_istore 5 X0 hx (hb hby d6_3) rfl (Ls' := #[.val (.ref a1), .val (.int p2), .val (.int p3), .val (.int (0 : Int32)), .val (.int p2), .unset]) rfl ?_
  refine g_iloadN 6 X0 hx (hb hby d6_5) rfl (v := p2) rfl ?_
  refine g_istore 8 X0 hx (hb hby d6_6) rfl (Ls' := #[.val (.ref a1), .val (.int p2), .val (.int p3), .val (.int (0 : Int32)), .val (.int p2), .val (.int p2)]) rfl ?_
  have LOOP8 : ∀ (fuel : Nat) (lc : Int32) (ls : Int32) (li : Int32), (p3.toInt - li.toInt).toNat < fuel → (0 ≤ li.toInt) → (own_cnt (bs1.map own_t) p3 (p3.toInt - li.toInt).toNat li ls lc = own_cnt (bs1.map own_t) p3 (p3.toInt - p2.toInt).toNat p2 p2 0) → Go p e below s ({ frames := 0, cells := 0, slots := 0, locals := 0 } : Room).cells ({ frames := 0, cells := 0, slots := 0, locals := 0 } : Room).slots (Q6 Z a1 p2 p3 bs1 h0 n0) s₁ (mkF m 8 #[.val (.ref a1), .val (.int p2), .val (.int p3), .val (.int lc), .val (.int ls), .val (.int li)] []) := by
    intro fuel
    induction fuel with
    | zero => intro lc ls li hm; exact absurd hm (Nat.not_lt_zero _)
    | succ fuel ih =>
      intro lc ls li hm hi0 hq
      refine g_iload 10 X0 hx (hb hby d6_8) rfl (v := li) rfl ?_
      refine g_iloadN 11 X0 hx (hb hby d6_10) rfl (v := p3) rfl ?_
      by_cases hc11_0 : li < p3
      ·
        refine g_icmpNo 14 X0 hx (hb hby d6_11)  (tlt hc11_0).2.1 rfl ?_
        refine g_aloadN 15 X0 hx (hb hby d6_14) rfl (v := (.ref a1)) rfl rfl ?_
        refine g_iload 17 X0 hx (hb hby d6_15) rfl (v := li) rfl ?_
        refine g_baload 18 X0 hx hZ e0 A_a1 (li.toInt.toNat) (own_nat0 hi0) rfl (z := (bs1.getD li.toInt.toNat 0)) (own_get (by have q := Int32.lt_iff_toInt_lt.mp hc11_0; omega)) (hb hby d6_17) rfl ?_
        refine g_bipush 20 X0 hx (hb hby d6_18) rfl (z := (13 : Int32)) rfl ?_
        by_cases hc20_1 : (bs1.getD li.toInt.toNat 0) = (13 : Int32)
        ·
          refine g_icmpYes 32 X0 hx (hb hby d6_20)  (teq hc20_1).1 (by decide) (by decide) ?_
          refine g_iload 34 X0 hx (hb hby d6_32) rfl (v := li) rfl ?_
          refine g_iload 36 X0 hx (hb hby d6_34) rfl (v := ls) rfl ?_
          by_cases hc36_2 : ls < li
          ·
            refine g_icmpNo 39 X0 hx (hb hby d6_36)  (tlt hc36_2).2.2.2 rfl ?_
            refine g_iinc 42 X0 hx (hb hby d6_39) rfl (x := lc) rfl (z := (lc + (1 : Int32))) rfl (Ls' := #[.val (.ref a1), .val (.int p2), .val (.int p3), .val (.int (lc + (1 : Int32))), .val (.int ls), .val (.int li)]) rfl ?_
            refine g_iload 44 X0 hx (hb hby d6_42) rfl (v := li) rfl ?_
            refine g_iconst 45 X0 hx (hb hby d6_44) rfl (z := (1 : Int32)) rfl ?_
            refine g_iadd 46 X0 hx (hb hby d6_45) rfl (z := (li + (1 : Int32))) rfl ?_
            refine g_istore 48 X0 hx (hb hby d6_46) rfl (Ls' := #[.val (.ref a1), .val (.int p2), .val (.int p3), .val (.int (lc + (1 : Int32))), .val (.int (li + (1 : Int32))), .val (.int li)]) rfl ?_
            refine g_iinc 51 X0 hx (hb hby d6_48) rfl (x := li) rfl (z := (li + (1 : Int32))) rfl (Ls' := #[.val (.ref a1), .val (.int p2), .val (.int p3), .val (.int (lc + (1 : Int32))), .val (.int (li + (1 : Int32))), .val (.int (li + (1 : Int32)))]) rfl ?_
            refine g_goto 8 X0 hx (hb hby d6_51) (by decide) (by decide) ?_
            exact ih (lc + (1 : Int32)) (li + (1 : Int32)) (li + (1 : Int32)) (by have q := Int32.lt_iff_toInt_lt.mp hc11_0; rw [own_inc hi0 (by omega)]; omega) (by rw [own_inc hi0 (by have q := Int32.lt_iff_toInt_lt.mp hc11_0; omega)]; omega) ((own_T1 bs1 p3 li ls lc hi0 (by have q := Int32.lt_iff_toInt_lt.mp hc11_0; omega) hc11_0 (decide_eq_true (Or.inl hc20_1)) hc36_2).trans hq)
          ·
            refine g_icmpYes 42 X0 hx (hb hby d6_36)  (flt hc36_2).2.2.2 (by decide) (by decide) ?_
            refine g_iload 44 X0 hx (hb hby d6_42) rfl (v := li) rfl ?_
            refine g_iconst 45 X0 hx (hb hby d6_44) rfl (z := (1 : Int32)) rfl ?_
            refine g_iadd 46 X0 hx (hb hby d6_45) rfl (z := (li + (1 : Int32))) rfl ?_
            refine g_istore 48 X0 hx (hb hby d6_46) rfl (Ls' := #[.val (.ref a1), .val (.int p2), .val (.int p3), .val (.int lc), .val (.int (li + (1 : Int32))), .val (.int li)]) rfl ?_
            refine g_iinc 51 X0 hx (hb hby d6_48) rfl (x := li) rfl (z := (li + (1 : Int32))) rfl (Ls' := #[.val (.ref a1), .val (.int p2), .val (.int p3), .val (.int lc), .val (.int (li + (1 : Int32))), .val (.int (li + (1 : Int32)))]) rfl ?_
            refine g_goto 8 X0 hx (hb hby d6_51) (by decide) (by decide) ?_
            exact ih lc (li + (1 : Int32)) (li + (1 : Int32)) (by have q := Int32.lt_iff_toInt_lt.mp hc11_0; rw [own_inc hi0 (by omega)]; omega) (by rw [own_inc hi0 (by have q := Int32.lt_iff_toInt_lt.mp hc11_0; omega)]; omega) ((own_T0 bs1 p3 li ls lc hi0 (by have q := Int32.lt_iff_toInt_lt.mp hc11_0; omega) hc11_0 (decide_eq_true (Or.inl hc20_1)) hc36_2).trans hq)
        ·
          refine g_icmpNo 23 X0 hx (hb hby d6_20)  (feq hc20_1).1 rfl ?_
          refine g_aloadN 24 X0 hx (hb hby d6_23) rfl (v := (.ref a1)) rfl rfl ?_
          refine g_iload 26 X0 hx (hb hby d6_24) rfl (v := li) rfl ?_
          refine g_baload 27 X0 hx hZ e0 A_a1 (li.toInt.toNat) (own_nat0 hi0) rfl (z := (bs1.getD li.toInt.toNat 0)) (own_get (by have q := Int32.lt_iff_toInt_lt.mp hc11_0; omega)) (hb hby d6_26) rfl ?_
          refine g_bipush 29 X0 hx (hb hby d6_27) rfl (z := (10 : Int32)) rfl ?_
          by_cases hc29_3 : (bs1.getD li.toInt.toNat 0) = (10 : Int32)
          ·
            refine g_icmpNo 32 X0 hx (hb hby d6_29)  (teq hc29_3).2 rfl ?_
            refine g_iload 34 X0 hx (hb hby d6_32) rfl (v := li) rfl ?_
            refine g_iload 36 X0 hx (hb hby d6_34) rfl (v := ls) rfl ?_
            by_cases hc36_4 : ls < li
            ·
              refine g_icmpNo 39 X0 hx (hb hby d6_36)  (tlt hc36_4).2.2.2 rfl ?_
              refine g_iinc 42 X0 hx (hb hby d6_39) rfl (x := lc) rfl (z := (lc + (1 : Int32))) rfl (Ls' := #[.val (.ref a1), .val (.int p2), .val (.int p3), .val (.int (lc + (1 : Int32))), .val (.int ls), .val (.int li)]) rfl ?_
              refine g_iload 44 X0 hx (hb hby d6_42) rfl (v := li) rfl ?_
              refine g_iconst 45 X0 hx (hb hby d6_44) rfl (z := (1 : Int32)) rfl ?_
              refine g_iadd 46 X0 hx (hb hby d6_45) rfl (z := (li + (1 : Int32))) rfl ?_
              refine g_istore 48 X0 hx (hb hby d6_46) rfl (Ls' := #[.val (.ref a1), .val (.int p2), .val (.int p3), .val (.int (lc + (1 : Int32))), .val (.int (li + (1 : Int32))), .val (.int li)]) rfl ?_
              refine g_iinc 51 X0 hx (hb hby d6_48) rfl (x := li) rfl (z := (li + (1 : Int32))) rfl (Ls' := #[.val (.ref a1), .val (.int p2), .val (.int p3), .val (.int (lc + (1 : Int32))), .val (.int (li + (1 : Int32))), .val (.int (li + (1 : Int32)))]) rfl ?_
              refine g_goto 8 X0 hx (hb hby d6_51) (by decide) (by decide) ?_
              exact ih (lc + (1 : Int32)) (li + (1 : Int32)) (li + (1 : Int32)) (by have q := Int32.lt_iff_toInt_lt.mp hc11_0; rw [own_inc hi0 (by omega)]; omega) (by rw [own_inc hi0 (by have q := Int32.lt_iff_toInt_lt.mp hc11_0; omega)]; omega) ((own_T1 bs1 p3 li ls lc hi0 (by have q := Int32.lt_iff_toInt_lt.mp hc11_0; omega) hc11_0 (decide_eq_true (Or.inr hc29_3)) hc36_4).trans hq)
            ·
              refine g_icmpYes 42 X0 hx (hb hby d6_36)  (flt hc36_4).2.2.2 (by decide) (by decide) ?_
              refine g_iload 44 X0 hx (hb hby d6_42) rfl (v := li) rfl ?_
              refine g_iconst 45 X0 hx (hb hby d6_44) rfl (z := (1 : Int32)) rfl ?_
              refine g_iadd 46 X0 hx (hb hby d6_45) rfl (z := (li + (1 : Int32))) rfl ?_
              refine g_istore 48 X0 hx (hb hby d6_46) rfl (Ls' := #[.val (.ref a1), .val (.int p2), .val (.int p3), .val (.int lc), .val (.int (li + (1 : Int32))), .val (.int li)]) rfl ?_
              refine g_iinc 51 X0 hx (hb hby d6_48) rfl (x := li) rfl (z := (li + (1 : Int32))) rfl (Ls' := #[.val (.ref a1), .val (.int p2), .val (.int p3), .val (.int lc), .val (.int (li + (1 : Int32))), .val (.int (li + (1 : Int32)))]) rfl ?_
              refine g_goto 8 X0 hx (hb hby d6_51) (by decide) (by decide) ?_
              exact ih lc (li + (1 : Int32)) (li + (1 : Int32)) (by have q := Int32.lt_iff_toInt_lt.mp hc11_0; rw [own_inc hi0 (by omega)]; omega) (by rw [own_inc hi0 (by have q := Int32.lt_iff_toInt_lt.mp hc11_0; omega)]; omega) ((own_T0 bs1 p3 li ls lc hi0 (by have q := Int32.lt_iff_toInt_lt.mp hc11_0; omega) hc11_0 (decide_eq_true (Or.inr hc29_3)) hc36_4).trans hq)
          ·
            refine g_icmpYes 48 X0 hx (hb hby d6_29)  (feq hc29_3).2 (by decide) (by decide) ?_
            refine g_iinc 51 X0 hx (hb hby d6_48) rfl (x := li) rfl (z := (li + (1 : Int32))) rfl (Ls' := #[.val (.ref a1), .val (.int p2), .val (.int p3), .val (.int lc), .val (.int ls), .val (.int (li + (1 : Int32)))]) rfl ?_
            refine g_goto 8 X0 hx (hb hby d6_51) (by decide) (by decide) ?_
            exact ih lc ls (li + (1 : Int32)) (by have q := Int32.lt_iff_toInt_lt.mp hc11_0; rw [own_inc hi0 (by omega)]; omega) (by rw [own_inc hi0 (by have q := Int32.lt_iff_toInt_lt.mp hc11_0; omega)]; omega) ((own_F bs1 p3 li ls lc hi0 (by have q := Int32.lt_iff_toInt_lt.mp hc11_0; omega) hc11_0 (fun q => (of_decide_eq_true q).elim hc20_1 hc29_3)).trans hq)
      ·
        refine g_icmpYes 54 X0 hx (hb hby d6_11)  (flt hc11_0).2.1 (by decide) (by decide) ?_
        refine g_iloadN 55 X0 hx (hb hby d6_54) rfl (v := p3) rfl ?_
        refine g_iload 57 X0 hx (hb hby d6_55) rfl (v := ls) rfl ?_
        by_cases hc57_5 : ls < p3
        ·
          refine g_icmpNo 60 X0 hx (hb hby d6_57)  (tlt hc57_5).2.2.2 rfl ?_
          refine g_iloadN 61 X0 hx (hb hby d6_60) rfl (v := lc) rfl ?_
          refine g_iconst 62 X0 hx (hb hby d6_61) rfl (z := (1 : Int32)) rfl ?_
          refine g_iadd 63 X0 hx (hb hby d6_62) rfl (z := (lc + (1 : Int32))) rfl ?_
          refine g_goto 67 X0 hx (hb hby d6_63) (by decide) (by decide) ?_
          exact g_retI X0 hx Bd.returns hlk (hb hby d6_67) (by decide) (by decide) ⟨(lc + (1 : Int32)), rfl, ((own_E1 _ p3 li ls lc hc11_0 hc57_5).trans hq), N0, e0⟩
        ·
          refine g_icmpYes 66 X0 hx (hb hby d6_57)  (flt hc57_5).2.2.2 (by decide) (by decide) ?_
          refine g_iloadN 67 X0 hx (hb hby d6_66) rfl (v := lc) rfl ?_
          exact g_retI X0 hx Bd.returns hlk (hb hby d6_67) (by decide) (by decide) ⟨lc, rfl, ((own_E0 _ p3 li ls lc hc11_0 hc57_5).trans hq), N0, e0⟩
  exact LOOP8 _ (0 : Int32) p2 p2 (Nat.lt_succ_self _) hf rfl
theorem own_fin (x0 x1 x2 x3 x4 x5 f t : Int32) (hf : 0 ≤ f.toInt) (h : f.toInt ≤ t.toInt) (ht : t.toInt ≤ 6) : own_cnt ([x0, x1, x2, x3, x4, x5].map own_t) t (t.toInt - f.toInt).toNat f f 0 = own_sum ([x0, x1, x2, x3, x4, x5].map own_t) f t := by
  have q := own_all (own_t x0) (own_t x1) (own_t x2) (own_t x3) (own_t x4) (own_t x5) ⟨f.toInt.toNat, by omega⟩ ⟨t.toInt.toNat, by omega⟩ (by show f.toInt.toNat ≤ t.toInt.toNat; omega)
  simp only [own_ofNat hf, own_ofNat (show 0 ≤ t.toInt by omega)] at q
  rw [show (t.toInt - f.toInt).toNat = t.toInt.toNat - f.toInt.toNat by omega]
  exact q
theorem pd_1 : parseMethodDescriptor "(JII)B" = some ⟨[.long, .int, .int], some .byte⟩ := by decide +kernel
theorem pd_2 : parseMethodDescriptor "(II)I" = some ⟨[.int, .int], some .int⟩ := by decide +kernel
theorem pd_3 : parseMethodDescriptor "([BIII)I" = some ⟨[(.array .byte), .int, .int, .int], some .int⟩ := by decide +kernel
theorem pd_4 : parseMethodDescriptor "([BII)I" = some ⟨[(.array .byte), .int, .int], some .int⟩ := by decide +kernel
theorem sub0_0 (p3 : Int32) (p4 : Int32) (z27 : Int32) (z28 : Int32) (z29 : Int32) (z30 : Int32) (r31 : Int32) (r32 : Int32) (hz27 : p3 &&& (2147483647 : Int32) = z27) (hz28 : z27 % (7 : Int32) = z28) (hz29 : p4 &&& (2147483647 : Int32) = z29) (hz30 : z29 % (7 : Int32) = z30) (hr31 : Rel2 z28 z30 r31) (hr32 : Rel3 z28 z30 r32) : 0 ≤ r31.toInt ∧ r31.toInt ≤ r32.toInt ∧ r32.toInt ≤ 6 := by
  simp only [Rel2] at hr31
  simp only [Rel3] at hr32
  have o0 := rng32 p3
  have o1 := rng32 (p3 &&& (2147483647 : Int32))
  have o2 := c_mask p3 (2147483647 : Int32) 31 (by decide) (by decide)
  have o3 := rng32 z27
  have o4 := rng32 (z27 % (7 : Int32))
  have o5 := c_irem z27 (7 : Int32) 7 (by decide)
  have o6 := rng32 z28
  have o7 := rng32 p4
  have o8 := rng32 (p4 &&& (2147483647 : Int32))
  have o9 := c_mask p4 (2147483647 : Int32) 31 (by decide) (by decide)
  have o10 := rng32 z29
  have o11 := rng32 (z29 % (7 : Int32))
  have o12 := c_irem z29 (7 : Int32) 7 (by decide)
  have o13 := rng32 z30
  have o14 := rng32 r31
  have o15 := rng32 r32
  simp only [Int32.lt_iff_toInt_lt, Int64.lt_iff_toInt_lt, Int32.le_iff_toInt_le, Int64.le_iff_toInt_le, ← Int32.toInt_inj, ← Int64.toInt_inj, Int32.reduceToInt, Int64.reduceToInt, Int32.toInt_toInt64, ne_eq] at * <;> omega
theorem leaf_0 (q1 : Int64) (p2 : Int32) (p3 : Int32) (p4 : Int32) (r3 : Int32) (r7 : Int32) (r11 : Int32) (r15 : Int32) (r19 : Int32) (r23 : Int32) (z28 : Int32) (z30 : Int32) (r31 : Int32) (r32 : Int32) (r33 : Int32) (r37 : Int32) (z41 : Int32) (r42 : Int32) (z46 : Int32) (r47 : Int32) (z51 : Int32) (r52 : Int32) (z56 : Int32) (r57 : Int32) (z61 : Int32) (r62 : Int32) (z67 : Int32) (hF : 0 ≤ r31.toInt ∧ r31.toInt ≤ r32.toInt ∧ r32.toInt ≤ 6) (hr33 : Rel4 (0 : Int32) r31 r32 [r3.toInt8.toInt32, r7.toInt8.toInt32, r11.toInt8.toInt32, r15.toInt8.toInt32, r19.toInt8.toInt32, r23.toInt8.toInt32] r33) (hr37 : Rel4 (1 : Int32) r31 r32 [r3.toInt8.toInt32, r7.toInt8.toInt32, r11.toInt8.toInt32, r15.toInt8.toInt32, r19.toInt8.toInt32, r23.toInt8.toInt32] r37) (hz41 : r33 + r37 = z41) (hr42 : Rel4 (2 : Int32) r31 r32 [r3.toInt8.toInt32, r7.toInt8.toInt32, r11.toInt8.toInt32, r15.toInt8.toInt32, r19.toInt8.toInt32, r23.toInt8.toInt32] r42) (hz46 : z41 + r42 = z46) (hr47 : Rel4 (3 : Int32) r31 r32 [r3.toInt8.toInt32, r7.toInt8.toInt32, r11.toInt8.toInt32, r15.toInt8.toInt32, r19.toInt8.toInt32, r23.toInt8.toInt32] r47) (hz51 : z46 + r47 = z51) (hr52 : Rel4 (4 : Int32) r31 r32 [r3.toInt8.toInt32, r7.toInt8.toInt32, r11.toInt8.toInt32, r15.toInt8.toInt32, r19.toInt8.toInt32, r23.toInt8.toInt32] r52) (hz56 : z51 + r52 = z56) (hr57 : Rel4 (5 : Int32) r31 r32 [r3.toInt8.toInt32, r7.toInt8.toInt32, r11.toInt8.toInt32, r15.toInt8.toInt32, r19.toInt8.toInt32, r23.toInt8.toInt32] r57) (hz61 : z56 + r57 = z61) (hr62 : Rel6 r31 r32 [r3.toInt8.toInt32, r7.toInt8.toInt32, r11.toInt8.toInt32, r15.toInt8.toInt32, r19.toInt8.toInt32, r23.toInt8.toInt32] r62) (hj68 : (r62 = z61 ∧ z67 = (1 : Int32)) ∨ (¬ (r62 = z61) ∧ z67 = (0 : Int32))) : z67 = 1 := by
  have e0 := own_sa _ _ _ _ _ hr33
  have e1 := own_sa _ _ _ _ _ hr37
  have e2 := own_sa _ _ _ _ _ hr42
  have e3 := own_sa _ _ _ _ _ hr47
  have e4 := own_sa _ _ _ _ _ hr52
  have e5 := own_sa _ _ _ _ _ hr57
  unfold Rel6 at hr62
  rw [own_fin _ _ _ _ _ _ _ _ hF.1 hF.2.1 hF.2.2] at hr62
  have k : r62 = z61 := by
    rw [hr62, ← hz61, ← hz56, ← hz51, ← hz46, ← hz41, e0, e1, e2, e3, e4, e5]; rfl
  rcases hj68 with ⟨_, b⟩ | ⟨a, _⟩
  · exact b
  · exact absurd k a
def Q0 (Z : State) (q1 : Int64) (p2 : Int32) (p3 : Int32) (p4 : Int32) (h0 : Heap) (n0 : Nat) (v : Option Value) (h : Heap) (L : List Loc) : Prop := v = some (.int (1 : Int32)) ∧ Fr n0 L
theorem ef_rm0 (m : MethodId) (q1 : Int64) (p2 : Int32) (p3 : Int32) (p4 : Int32) : entryFrame m #[(.long q1), (.int p2), (.int p3), (.int p4)] maxLocals = mkF m 0 #[.val (.long q1), .second, .val (.int p2), .val (.int p3), .val (.int p4), .unset, .unset, .unset, .unset, .unset, .unset] [] := by first | (simp [entryFrame, mkF, argsToLocals, Value.category, maxLocals]; done) | rfl
set_option maxRecDepth 65536 in
set_option maxHeartbeats 40000000 in
theorem rm0 (l : Launch) (Z : State) (a0 : Array Value) (hw : ∀ d ∈ tables_1, d.before a0 Z = true) (ws : List Jvm.Cond) (q1 : Int64) (p2 : Int32) (p3 : Int32) (p4 : Int32) (h0 : Heap) (n0 : Nat) (Z0 : n0 ≤ h0.size)  :
    MetFree l x (head1 (Jvm.Cond.code x code maxLocals ret :: ws) room_1) (fun a U => a = #[(.long q1), (.int p2), (.int p3), (.int p4)] ∧ Z.Warmed39 U.vm ∧ U.heap = h0) (fun _ _ _ _ _ => True) (fun _ U o U' => ∃ v L, o = .returned v ∧ (Q0 Z q1 p2 p3 p4 h0 n0) v U'.heap L ∧ FrameEnd U o U' L 16 128) := by
  refine MetFree.of_bodySF (plainFor_of_name pn_0) hisR ?_
  intro p e s m args below meth c s₁ Bd hml0 hP hK
  obtain ⟨rfl, hZ, hh⟩ := hP
  have hx := Bd.exec
  have hby := Bd.bytes
  have hml : c.maxLocals = 11 := hml0
  have hown : s.vm.findClass "com/example/paillasse/paillasse/message/SegmentIndexCountPinLaw" = some m.cls := findClass_of_methodNamed Bd.named
  have hnm := (name_of_methodNamed Bd.named Bd.method).1
  have hlk : meth.locks = false := BodyLoose.notSynchronized Bd
  have X0 : Stand p l e room_1 s m #[(.long q1), (.int p2), (.int p3), (.int p4)] below meth c s₁ [] 0 0 := Stand.of_body Bd
  have e0 : s₁.heap = h0 := by rw [← hh, Bd.state]; rfl
  have N0 := Fr.nil n0
  show Go p e below s 16 128 (Q0 Z q1 p2 p3 p4 h0 n0) s₁ (entryFrame m #[(.long q1), (.int p2), (.int p3), (.int p4)] maxLocals)
  rw [ef_rm0 m q1 p2 p3 p4]
  refine g_bipush 2 X0 hx (hb hby at_0) rfl (z := (6 : Int32)) rfl ?_
  refine g_new_byte 4 X0 hx hZ (hw _ (List.mem_of_getElem? (i := 0) rfl)) e0 6 6 (by decide) rfl (by decide) (by decide) (by decide) (by decide) (hb hby at_2) rfl ?_
  intro T1 h1 b1 X1 e1 E1 g1 A1
  have Zs2 : n0 ≤ h1.size := (Nat.le_trans Z0 E1.1)
  have g_b1 : n0 ≤ b1 := Nat.le_trans Z0 (Nat.le_of_eq g1.symm)
  have A1' : AI Z h1 b1 .byte [(0 : Int32), (0 : Int32), (0 : Int32), (0 : Int32), (0 : Int32), (0 : Int32)] := A1
  refine g_astore 6 X1 hx (hb hby at_4) rfl (Ls' := #[.val (.long q1), .second, .val (.int p2), .val (.int p3), .val (.int p4), .val (.ref b1), .unset, .unset, .unset, .unset, .unset]) rfl rfl ?_
  refine g_aload 8 X1 hx (hb hby at_6) rfl (v := (.ref b1)) rfl rfl ?_
  refine g_iconst 9 X1 hx (hb hby at_8) rfl (z := (0 : Int32)) rfl ?_
  refine g_lloadN 10 X1 hx (hb hby at_9) rfl (v := q1) rfl ?_
  refine g_iloadN 11 X1 hx (hb hby at_10) rfl (v := p2) rfl ?_
  refine g_iconst 12 X1 hx (hb hby at_11) rfl (z := (0 : Int32)) rfl ?_
  refine g_callS 15 X1 hx hZ (y := (⟨"com/example/paillasse/paillasse/message/SegmentIndexCountPinLaw", "draw", "(JII)B"⟩ : MethodName)) hown (hw _ (List.mem_of_getElem? (i := 1) rfl)) (hw _ (List.mem_of_getElem? (i := 2) rfl)) (hw _ (List.mem_of_getElem? (i := 3) rfl)) (hw _ (List.mem_of_getElem? (i := 4) rfl)) (by decide) e1 (rm1 l Z a0 hw [] q1 p2 (0 : Int32)  h1 n0 Zs2 ) (by rw [hml]; rfl) [(.long q1), (.int p2), (.int (0 : Int32))] [(.int (0 : Int32)), (.ref b1)] rfl rfl (lenOf pd_1 rfl) 2 (Nat.le_of_eq rfl) (hb hby at_12) (by decide) (by decide) (by decide) (by decide) rfl ?_
  intro v3 T3 L3 X3 hQ3
  obtain ⟨r3, rfl, hr3, N3q, e3⟩ := hQ3
  have N3 := Fr.app N0 N3q
  show Go p e below s 16 128 (Q0 Z q1 p2 p3 p4 h0 n0) T3 (mkF m 15 #[.val (.long q1), .second, .val (.int p2), .val (.int p3), .val (.int p4), .val (.ref b1), .unset, .unset, .unset, .unset, .unset] [(.int r3), (.int (0 : Int32)), (.ref b1)])
  refine g_bastore 16 X3 hx hZ e3 A1' 0 (by decide) rfl (Nat.le_of_ble_eq_true rfl) (z := r3.toInt8.toInt32) rfl (hb hby at_15) rfl ?_
  intro T4 h4 X4 e4 W4 A4
  have Zs5 : n0 ≤ h4.size := (Nat.le_trans Zs2 (Keep.of_wr W4).1)
  have A4' : AI Z h4 b1 .byte [r3.toInt8.toInt32, (0 : Int32), (0 : Int32), (0 : Int32), (0 : Int32), (0 : Int32)] := A4
  have N6 := Fr.snoc X4 N3 g_b1
  refine g_aload 18 X4 hx (hb hby at_16) rfl (v := (.ref b1)) rfl rfl ?_
  refine g_iconst 19 X4 hx (hb hby at_18) rfl (z := (1 : Int32)) rfl ?_
  refine g_lloadN 20 X4 hx (hb hby at_19) rfl (v := q1) rfl ?_
  refine g_iloadN 21 X4 hx (hb hby at_20) rfl (v := p2) rfl ?_
  refine g_iconst 22 X4 hx (hb hby at_21) rfl (z := (1 : Int32)) rfl ?_
  refine g_callS 25 X4 hx hZ (y := (⟨"com/example/paillasse/paillasse/message/SegmentIndexCountPinLaw", "draw", "(JII)B"⟩ : MethodName)) hown (hw _ (List.mem_of_getElem? (i := 1) rfl)) (hw _ (List.mem_of_getElem? (i := 2) rfl)) (hw _ (List.mem_of_getElem? (i := 3) rfl)) (hw _ (List.mem_of_getElem? (i := 4) rfl)) (by decide) e4 (rm1 l Z a0 hw [] q1 p2 (1 : Int32)  h4 n0 Zs5 ) (by rw [hml]; rfl) [(.long q1), (.int p2), (.int (1 : Int32))] [(.int (1 : Int32)), (.ref b1)] rfl rfl (lenOf pd_1 rfl) 2 (Nat.le_of_eq rfl) (hb hby at_22) (by decide) (by decide) (by decide) (by decide) rfl ?_
  intro v7 T7 L7 X7 hQ7
  obtain ⟨r7, rfl, hr7, N7q, e7⟩ := hQ7
  have N7 := Fr.app N6 N7q
  show Go p e below s 16 128 (Q0 Z q1 p2 p3 p4 h0 n0) T7 (mkF m 25 #[.val (.long q1), .second, .val (.int p2), .val (.int p3), .val (.int p4), .val (.ref b1), .unset, .unset, .unset, .unset, .unset] [(.int r7), (.int (1 : Int32)), (.ref b1)])
  refine g_bastore 26 X7 hx hZ e7 A4' 1 (by decide) rfl (Nat.le_of_ble_eq_true rfl) (z := r7.toInt8.toInt32) rfl (hb hby at_25) rfl ?_
  intro T8 h8 X8 e8 W8 A8
  have Zs9 : n0 ≤ h8.size := (Nat.le_trans Zs5 (Keep.of_wr W8).1)
  have A8' : AI Z h8 b1 .byte [r3.toInt8.toInt32, r7.toInt8.toInt32, (0 : Int32), (0 : Int32), (0 : Int32), (0 : Int32)] := A8
  have N10 := Fr.snoc X8 N7 g_b1
  refine g_aload 28 X8 hx (hb hby at_26) rfl (v := (.ref b1)) rfl rfl ?_
  refine g_iconst 29 X8 hx (hb hby at_28) rfl (z := (2 : Int32)) rfl ?_
  refine g_lloadN 30 X8 hx (hb hby at_29) rfl (v := q1) rfl ?_
  refine g_iloadN 31 X8 hx (hb hby at_30) rfl (v := p2) rfl ?_
  refine g_iconst 32 X8 hx (hb hby at_31) rfl (z := (2 : Int32)) rfl ?_
  refine g_callS 35 X8 hx hZ (y := (⟨"com/example/paillasse/paillasse/message/SegmentIndexCountPinLaw", "draw", "(JII)B"⟩ : MethodName)) hown (hw _ (List.mem_of_getElem? (i := 1) rfl)) (hw _ (List.mem_of_getElem? (i := 2) rfl)) (hw _ (List.mem_of_getElem? (i := 3) rfl)) (hw _ (List.mem_of_getElem? (i := 4) rfl)) (by decide) e8 (rm1 l Z a0 hw [] q1 p2 (2 : Int32)  h8 n0 Zs9 ) (by rw [hml]; rfl) [(.long q1), (.int p2), (.int (2 : Int32))] [(.int (2 : Int32)), (.ref b1)] rfl rfl (lenOf pd_1 rfl) 2 (Nat.le_of_eq rfl) (hb hby at_32) (by decide) (by decide) (by decide) (by decide) rfl ?_
  intro v11 T11 L11 X11 hQ11
  obtain ⟨r11, rfl, hr11, N11q, e11⟩ := hQ11
  have N11 := Fr.app N10 N11q
  show Go p e below s 16 128 (Q0 Z q1 p2 p3 p4 h0 n0) T11 (mkF m 35 #[.val (.long q1), .second, .val (.int p2), .val (.int p3), .val (.int p4), .val (.ref b1), .unset, .unset, .unset, .unset, .unset] [(.int r11), (.int (2 : Int32)), (.ref b1)])
  refine g_bastore 36 X11 hx hZ e11 A8' 2 (by decide) rfl (Nat.le_of_ble_eq_true rfl) (z := r11.toInt8.toInt32) rfl (hb hby at_35) rfl ?_
  intro T12 h12 X12 e12 W12 A12
  have Zs13 : n0 ≤ h12.size := (Nat.le_trans Zs9 (Keep.of_wr W12).1)
  have A12' : AI Z h12 b1 .byte [r3.toInt8.toInt32, r7.toInt8.toInt32, r11.toInt8.toInt32, (0 : Int32), (0 : Int32), (0 : Int32)] := A12
  have N14 := Fr.snoc X12 N11 g_b1
  refine g_aload 38 X12 hx (hb hby at_36) rfl (v := (.ref b1)) rfl rfl ?_
  refine g_iconst 39 X12 hx (hb hby at_38) rfl (z := (3 : Int32)) rfl ?_
  refine g_lloadN 40 X12 hx (hb hby at_39) rfl (v := q1) rfl ?_
  refine g_iloadN 41 X12 hx (hb hby at_40) rfl (v := p2) rfl ?_
  refine g_iconst 42 X12 hx (hb hby at_41) rfl (z := (3 : Int32)) rfl ?_
  refine g_callS 45 X12 hx hZ (y := (⟨"com/example/paillasse/paillasse/message/SegmentIndexCountPinLaw", "draw", "(JII)B"⟩ : MethodName)) hown (hw _ (List.mem_of_getElem? (i := 1) rfl)) (hw _ (List.mem_of_getElem? (i := 2) rfl)) (hw _ (List.mem_of_getElem? (i := 3) rfl)) (hw _ (List.mem_of_getElem? (i := 4) rfl)) (by decide) e12 (rm1 l Z a0 hw [] q1 p2 (3 : Int32)  h12 n0 Zs13 ) (by rw [hml]; rfl) [(.long q1), (.int p2), (.int (3 : Int32))] [(.int (3 : Int32)), (.ref b1)] rfl rfl (lenOf pd_1 rfl) 2 (Nat.le_of_eq rfl) (hb hby at_42) (by decide) (by decide) (by decide) (by decide) rfl ?_
  intro v15 T15 L15 X15 hQ15
  obtain ⟨r15, rfl, hr15, N15q, e15⟩ := hQ15
  have N15 := Fr.app N14 N15q
  show Go p e below s 16 128 (Q0 Z q1 p2 p3 p4 h0 n0) T15 (mkF m 45 #[.val (.long q1), .second, .val (.int p2), .val (.int p3), .val (.int p4), .val (.ref b1), .unset, .unset, .unset, .unset, .unset] [(.int r15), (.int (3 : Int32)), (.ref b1)])
  refine g_bastore 46 X15 hx hZ e15 A12' 3 (by decide) rfl (Nat.le_of_ble_eq_true rfl) (z := r15.toInt8.toInt32) rfl (hb hby at_45) rfl ?_
  intro T16 h16 X16 e16 W16 A16
  have Zs17 : n0 ≤ h16.size := (Nat.le_trans Zs13 (Keep.of_wr W16).1)
  have A16' : AI Z h16 b1 .byte [r3.toInt8.toInt32, r7.toInt8.toInt32, r11.toInt8.toInt32, r15.toInt8.toInt32, (0 : Int32), (0 : Int32)] := A16
  have N18 := Fr.snoc X16 N15 g_b1
  refine g_aload 48 X16 hx (hb hby at_46) rfl (v := (.ref b1)) rfl rfl ?_
  refine g_iconst 49 X16 hx (hb hby at_48) rfl (z := (4 : Int32)) rfl ?_
  refine g_lloadN 50 X16 hx (hb hby at_49) rfl (v := q1) rfl ?_
  refine g_iloadN 51 X16 hx (hb hby at_50) rfl (v := p2) rfl ?_
  refine g_iconst 52 X16 hx (hb hby at_51) rfl (z := (4 : Int32)) rfl ?_
  refine g_callS 55 X16 hx hZ (y := (⟨"com/example/paillasse/paillasse/message/SegmentIndexCountPinLaw", "draw", "(JII)B"⟩ : MethodName)) hown (hw _ (List.mem_of_getElem? (i := 1) rfl)) (hw _ (List.mem_of_getElem? (i := 2) rfl)) (hw _ (List.mem_of_getElem? (i := 3) rfl)) (hw _ (List.mem_of_getElem? (i := 4) rfl)) (by decide) e16 (rm1 l Z a0 hw [] q1 p2 (4 : Int32)  h16 n0 Zs17 ) (by rw [hml]; rfl) [(.long q1), (.int p2), (.int (4 : Int32))] [(.int (4 : Int32)), (.ref b1)] rfl rfl (lenOf pd_1 rfl) 2 (Nat.le_of_eq rfl) (hb hby at_52) (by decide) (by decide) (by decide) (by decide) rfl ?_
  intro v19 T19 L19 X19 hQ19
  obtain ⟨r19, rfl, hr19, N19q, e19⟩ := hQ19
  have N19 := Fr.app N18 N19q
  show Go p e below s 16 128 (Q0 Z q1 p2 p3 p4 h0 n0) T19 (mkF m 55 #[.val (.long q1), .second, .val (.int p2), .val (.int p3), .val (.int p4), .val (.ref b1), .unset, .unset, .unset, .unset, .unset] [(.int r19), (.int (4 : Int32)), (.ref b1)])
  refine g_bastore 56 X19 hx hZ e19 A16' 4 (by decide) rfl (Nat.le_of_ble_eq_true rfl) (z := r19.toInt8.toInt32) rfl (hb hby at_55) rfl ?_
  intro T20 h20 X20 e20 W20 A20
  have Zs21 : n0 ≤ h20.size := (Nat.le_trans Zs17 (Keep.of_wr W20).1)
  have A20' : AI Z h20 b1 .byte [r3.toInt8.toInt32, r7.toInt8.toInt32, r11.toInt8.toInt32, r15.toInt8.toInt32, r19.toInt8.toInt32, (0 : Int32)] := A20
  have N22 := Fr.snoc X20 N19 g_b1
  refine g_aload 58 X20 hx (hb hby at_56) rfl (v := (.ref b1)) rfl rfl ?_
  refine g_iconst 59 X20 hx (hb hby at_58) rfl (z := (5 : Int32)) rfl ?_
  refine g_lloadN 60 X20 hx (hb hby at_59) rfl (v := q1) rfl ?_
  refine g_iloadN 61 X20 hx (hb hby at_60) rfl (v := p2) rfl ?_
  refine g_iconst 62 X20 hx (hb hby at_61) rfl (z := (5 : Int32)) rfl ?_
  refine g_callS 65 X20 hx hZ (y := (⟨"com/example/paillasse/paillasse/message/SegmentIndexCountPinLaw", "draw", "(JII)B"⟩ : MethodName)) hown (hw _ (List.mem_of_getElem? (i := 1) rfl)) (hw _ (List.mem_of_getElem? (i := 2) rfl)) (hw _ (List.mem_of_getElem? (i := 3) rfl)) (hw _ (List.mem_of_getElem? (i := 4) rfl)) (by decide) e20 (rm1 l Z a0 hw [] q1 p2 (5 : Int32)  h20 n0 Zs21 ) (by rw [hml]; rfl) [(.long q1), (.int p2), (.int (5 : Int32))] [(.int (5 : Int32)), (.ref b1)] rfl rfl (lenOf pd_1 rfl) 2 (Nat.le_of_eq rfl) (hb hby at_62) (by decide) (by decide) (by decide) (by decide) rfl ?_
  intro v23 T23 L23 X23 hQ23
  obtain ⟨r23, rfl, hr23, N23q, e23⟩ := hQ23
  have N23 := Fr.app N22 N23q
  show Go p e below s 16 128 (Q0 Z q1 p2 p3 p4 h0 n0) T23 (mkF m 65 #[.val (.long q1), .second, .val (.int p2), .val (.int p3), .val (.int p4), .val (.ref b1), .unset, .unset, .unset, .unset, .unset] [(.int r23), (.int (5 : Int32)), (.ref b1)])
  refine g_bastore 66 X23 hx hZ e23 A20' 5 (by decide) rfl (Nat.le_of_ble_eq_true rfl) (z := r23.toInt8.toInt32) rfl (hb hby at_65) rfl ?_
  intro T24 h24 X24 e24 W24 A24
  have Zs25 : n0 ≤ h24.size := (Nat.le_trans Zs21 (Keep.of_wr W24).1)
  have A24' : AI Z h24 b1 .byte [r3.toInt8.toInt32, r7.toInt8.toInt32, r11.toInt8.toInt32, r15.toInt8.toInt32, r19.toInt8.toInt32, r23.toInt8.toInt32] := A24
  have N26 := Fr.snoc X24 N23 g_b1
  refine g_iloadN 67 X24 hx (hb hby at_66) rfl (v := p3) rfl ?_
  refine g_ldc 69 X24 hx hZ hown (hw _ (List.mem_of_getElem? (i := 5) rfl)) (hb hby at_67) rfl ?_
  obtain ⟨z27, hz27⟩ : ∃ z : Int32, p3 &&& (2147483647 : Int32) = z := ⟨_, rfl⟩
  refine g_iand 70 X24 hx (hb hby at_69) rfl (z := z27) hz27 ?_
  refine g_bipush 72 X24 hx (hb hby at_70) rfl (z := (7 : Int32)) rfl ?_
  obtain ⟨z28, hz28⟩ : ∃ z : Int32, z27 % (7 : Int32) = z := ⟨_, rfl⟩
  refine g_irem 73 X24 hx (hb hby at_72) rfl (by decide) (z := z28) hz28 ?_
  refine g_istore 75 X24 hx (hb hby at_73) rfl (Ls' := #[.val (.long q1), .second, .val (.int p2), .val (.int p3), .val (.int p4), .val (.ref b1), .val (.int z28), .unset, .unset, .unset, .unset]) rfl ?_
  refine g_iload 77 X24 hx (hb hby at_75) rfl (v := p4) rfl ?_
  refine g_ldc 79 X24 hx hZ hown (hw _ (List.mem_of_getElem? (i := 5) rfl)) (hb hby at_77) rfl ?_
  obtain ⟨z29, hz29⟩ : ∃ z : Int32, p4 &&& (2147483647 : Int32) = z := ⟨_, rfl⟩
  refine g_iand 80 X24 hx (hb hby at_79) rfl (z := z29) hz29 ?_
  refine g_bipush 82 X24 hx (hb hby at_80) rfl (z := (7 : Int32)) rfl ?_
  obtain ⟨z30, hz30⟩ : ∃ z : Int32, z29 % (7 : Int32) = z := ⟨_, rfl⟩
  refine g_irem 83 X24 hx (hb hby at_82) rfl (by decide) (z := z30) hz30 ?_
  refine g_istore 85 X24 hx (hb hby at_83) rfl (Ls' := #[.val (.long q1), .second, .val (.int p2), .val (.int p3), .val (.int p4), .val (.ref b1), .val (.int z28), .val (.int z30), .unset, .unset, .unset]) rfl ?_
  refine g_iload 87 X24 hx (hb hby at_85) rfl (v := z28) rfl ?_
  refine g_iload 89 X24 hx (hb hby at_87) rfl (v := z30) rfl ?_
  refine g_callS 92 X24 hx hZ (y := (⟨"java/lang/Math", "min", "(II)I"⟩ : MethodName)) hown (hw _ (List.mem_of_getElem? (i := 6) rfl)) (hw _ (List.mem_of_getElem? (i := 7) rfl)) (hw _ (List.mem_of_getElem? (i := 8) rfl)) (hw _ (List.mem_of_getElem? (i := 9) rfl)) (by decide) e24 (rm2 l Z a0 hw [] z28 z30  h24 n0 Zs25 ) (by rw [hml]; rfl) [(.int z28), (.int z30)] [] rfl rfl (lenOf pd_2 rfl) 0 (Nat.le_of_eq rfl) (hb hby at_89) (by decide) (by decide) (by decide) (by decide) rfl ?_
  intro v31 T31 L31 X31 hQ31
  obtain ⟨r31, rfl, hr31, N31q, e31⟩ := hQ31
  have N31 := Fr.app N26 N31q
  show Go p e below s 16 128 (Q0 Z q1 p2 p3 p4 h0 n0) T31 (mkF m 92 #[.val (.long q1), .second, .val (.int p2), .val (.int p3), .val (.int p4), .val (.ref b1), .val (.int z28), .val (.int z30), .unset, .unset, .unset] [(.int r31)])
  refine g_istore 94 X31 hx (hb hby at_92) rfl (Ls' := #[.val (.long q1), .second, .val (.int p2), .val (.int p3), .val (.int p4), .val (.ref b1), .val (.int z28), .val (.int z30), .val (.int r31), .unset, .unset]) rfl ?_
  refine g_iload 96 X31 hx (hb hby at_94) rfl (v := z28) rfl ?_
  refine g_iload 98 X31 hx (hb hby at_96) rfl (v := z30) rfl ?_
  refine g_callS 101 X31 hx hZ (y := (⟨"java/lang/Math", "max", "(II)I"⟩ : MethodName)) hown (hw _ (List.mem_of_getElem? (i := 10) rfl)) (hw _ (List.mem_of_getElem? (i := 11) rfl)) (hw _ (List.mem_of_getElem? (i := 8) rfl)) (hw _ (List.mem_of_getElem? (i := 12) rfl)) (by decide) e31 (rm3 l Z a0 hw [] z28 z30  h24 n0 Zs25 ) (by rw [hml]; rfl) [(.int z28), (.int z30)] [] rfl rfl (lenOf pd_2 rfl) 0 (Nat.le_of_eq rfl) (hb hby at_98) (by decide) (by decide) (by decide) (by decide) rfl ?_
  intro v32 T32 L32 X32 hQ32
  obtain ⟨r32, rfl, hr32, N32q, e32⟩ := hQ32
  have N32 := Fr.app N31 N32q
  show Go p e below s 16 128 (Q0 Z q1 p2 p3 p4 h0 n0) T32 (mkF m 101 #[.val (.long q1), .second, .val (.int p2), .val (.int p3), .val (.int p4), .val (.ref b1), .val (.int z28), .val (.int z30), .val (.int r31), .unset, .unset] [(.int r32)])
  refine g_istore 103 X32 hx (hb hby at_101) rfl (Ls' := #[.val (.long q1), .second, .val (.int p2), .val (.int p3), .val (.int p4), .val (.ref b1), .val (.int z28), .val (.int z30), .val (.int r31), .val (.int r32), .unset]) rfl ?_
  have hF : 0 ≤ r31.toInt ∧ r31.toInt ≤ r32.toInt ∧ r32.toInt ≤ 6 := (sub0_0 p3 p4 z27 z28 z29 z30 r31 r32 hz27 hz28 hz29 hz30 hr31 hr32)
  refine g_aload 105 X32 hx (hb hby at_103) rfl (v := (.ref b1)) rfl rfl ?_
  refine g_iconst 106 X32 hx (hb hby at_105) rfl (z := (0 : Int32)) rfl ?_
  refine g_iload 108 X32 hx (hb hby at_106) rfl (v := r31) rfl ?_
  refine g_iload 110 X32 hx (hb hby at_108) rfl (v := r32) rfl ?_
  have hq110_hi_33 : 0 ≤ (0 : Int32).toInt ∧ (0 : Int32).toInt ≤ 5 := by decide
  have hq110_hf_34 : 0 ≤ r31.toInt := hF.1
  have hq110_hl_35 : [r3.toInt8.toInt32, r7.toInt8.toInt32, r11.toInt8.toInt32, r15.toInt8.toInt32, r19.toInt8.toInt32, r23.toInt8.toInt32].length = 6 := rfl
  refine g_callS 113 X32 hx hZ (y := (⟨"com/example/paillasse/paillasse/message/SegmentIndexCountPinLaw", "startAt", "([BIII)I"⟩ : MethodName)) hown (hw _ (List.mem_of_getElem? (i := 13) rfl)) (hw _ (List.mem_of_getElem? (i := 14) rfl)) (hw _ (List.mem_of_getElem? (i := 3) rfl)) (hw _ (List.mem_of_getElem? (i := 15) rfl)) (by decide) e32 (rm4 l Z a0 hw [] b1 (0 : Int32) r31 r32 [r3.toInt8.toInt32, r7.toInt8.toInt32, r11.toInt8.toInt32, r15.toInt8.toInt32, r19.toInt8.toInt32, r23.toInt8.toInt32] h24 n0 Zs25 A24' hq110_hi_33 hq110_hf_34 hq110_hl_35) (by rw [hml]; rfl) [(.ref b1), (.int (0 : Int32)), (.int r31), (.int r32)] [] rfl rfl (lenOf pd_3 rfl) 0 (Nat.le_of_eq rfl) (hb hby at_110) (by decide) (by decide) (by decide) (by decide) rfl ?_
  intro v33 T33 L33 X33 hQ33
  obtain ⟨r33, rfl, hr33, N33q, e33⟩ := hQ33
  have N33 := Fr.app N32 N33q
  show Go p e below s 16 128 (Q0 Z q1 p2 p3 p4 h0 n0) T33 (mkF m 113 #[.val (.long q1), .second, .val (.int p2), .val (.int p3), .val (.int p4), .val (.ref b1), .val (.int z28), .val (.int z30), .val (.int r31), .val (.int r32), .unset] [(.int r33)])
  refine g_aload 115 X33 hx (hb hby at_113) rfl (v := (.ref b1)) rfl rfl ?_
  refine g_iconst 116 X33 hx (hb hby at_115) rfl (z := (1 : Int32)) rfl ?_
  refine g_iload 118 X33 hx (hb hby at_116) rfl (v := r31) rfl ?_
  refine g_iload 120 X33 hx (hb hby at_118) rfl (v := r32) rfl ?_
  have hq120_hi_37 : 0 ≤ (1 : Int32).toInt ∧ (1 : Int32).toInt ≤ 5 := by decide
  have hq120_hf_38 : 0 ≤ r31.toInt := hF.1
  have hq120_hl_39 : [r3.toInt8.toInt32, r7.toInt8.toInt32, r11.toInt8.toInt32, r15.toInt8.toInt32, r19.toInt8.toInt32, r23.toInt8.toInt32].length = 6 := rfl
  refine g_callS 123 X33 hx hZ (y := (⟨"com/example/paillasse/paillasse/message/SegmentIndexCountPinLaw", "startAt", "([BIII)I"⟩ : MethodName)) hown (hw _ (List.mem_of_getElem? (i := 13) rfl)) (hw _ (List.mem_of_getElem? (i := 14) rfl)) (hw _ (List.mem_of_getElem? (i := 3) rfl)) (hw _ (List.mem_of_getElem? (i := 15) rfl)) (by decide) e33 (rm4 l Z a0 hw [] b1 (1 : Int32) r31 r32 [r3.toInt8.toInt32, r7.toInt8.toInt32, r11.toInt8.toInt32, r15.toInt8.toInt32, r19.toInt8.toInt32, r23.toInt8.toInt32] h24 n0 Zs25 A24' hq120_hi_37 hq120_hf_38 hq120_hl_39) (by rw [hml]; rfl) [(.ref b1), (.int (1 : Int32)), (.int r31), (.int r32)] [(.int r33)] rfl rfl (lenOf pd_3 rfl) 1 (Nat.le_of_eq rfl) (hb hby at_120) (by decide) (by decide) (by decide) (by decide) rfl ?_
  intro v37 T37 L37 X37 hQ37
  obtain ⟨r37, rfl, hr37, N37q, e37⟩ := hQ37
  have N37 := Fr.app N33 N37q
  show Go p e below s 16 128 (Q0 Z q1 p2 p3 p4 h0 n0) T37 (mkF m 123 #[.val (.long q1), .second, .val (.int p2), .val (.int p3), .val (.int p4), .val (.ref b1), .val (.int z28), .val (.int z30), .val (.int r31), .val (.int r32), .unset] [(.int r37), (.int r33)])
  obtain ⟨z41, hz41⟩ : ∃ z : Int32, r33 + r37 = z := ⟨_, rfl⟩
  refine g_iadd 124 X37 hx (hb hby at_123) rfl (z := z41) hz41 ?_
  refine g_aload 126 X37 hx (hb hby at_124) rfl (v := (.ref b1)) rfl rfl ?_
  refine g_iconst 127 X37 hx (hb hby at_126) rfl (z := (2 : Int32)) rfl ?_
  refine g_iload 129 X37 hx (hb hby at_127) rfl (v := r31) rfl ?_
  refine g_iload 131 X37 hx (hb hby at_129) rfl (v := r32) rfl ?_
  have hq131_hi_42 : 0 ≤ (2 : Int32).toInt ∧ (2 : Int32).toInt ≤ 5 := by decide
  have hq131_hf_43 : 0 ≤ r31.toInt := hF.1
  have hq131_hl_44 : [r3.toInt8.toInt32, r7.toInt8.toInt32, r11.toInt8.toInt32, r15.toInt8.toInt32, r19.toInt8.toInt32, r23.toInt8.toInt32].length = 6 := rfl
  refine g_callS 134 X37 hx hZ (y := (⟨"com/example/paillasse/paillasse/message/SegmentIndexCountPinLaw", "startAt", "([BIII)I"⟩ : MethodName)) hown (hw _ (List.mem_of_getElem? (i := 13) rfl)) (hw _ (List.mem_of_getElem? (i := 14) rfl)) (hw _ (List.mem_of_getElem? (i := 3) rfl)) (hw _ (List.mem_of_getElem? (i := 15) rfl)) (by decide) e37 (rm4 l Z a0 hw [] b1 (2 : Int32) r31 r32 [r3.toInt8.toInt32, r7.toInt8.toInt32, r11.toInt8.toInt32, r15.toInt8.toInt32, r19.toInt8.toInt32, r23.toInt8.toInt32] h24 n0 Zs25 A24' hq131_hi_42 hq131_hf_43 hq131_hl_44) (by rw [hml]; rfl) [(.ref b1), (.int (2 : Int32)), (.int r31), (.int r32)] [(.int z41)] rfl rfl (lenOf pd_3 rfl) 1 (Nat.le_of_eq rfl) (hb hby at_131) (by decide) (by decide) (by decide) (by decide) rfl ?_
  intro v42 T42 L42 X42 hQ42
  obtain ⟨r42, rfl, hr42, N42q, e42⟩ := hQ42
  have N42 := Fr.app N37 N42q
  show Go p e below s 16 128 (Q0 Z q1 p2 p3 p4 h0 n0) T42 (mkF m 134 #[.val (.long q1), .second, .val (.int p2), .val (.int p3), .val (.int p4), .val (.ref b1), .val (.int z28), .val (.int z30), .val (.int r31), .val (.int r32), .unset] [(.int r42), (.int z41)])
  obtain ⟨z46, hz46⟩ : ∃ z : Int32, z41 + r42 = z := ⟨_, rfl⟩
  refine g_iadd 135 X42 hx (hb hby at_134) rfl (z := z46) hz46 ?_
  refine g_aload 137 X42 hx (hb hby at_135) rfl (v := (.ref b1)) rfl rfl ?_
  refine g_iconst 138 X42 hx (hb hby at_137) rfl (z := (3 : Int32)) rfl ?_
  refine g_iload 140 X42 hx (hb hby at_138) rfl (v := r31) rfl ?_
  refine g_iload 142 X42 hx (hb hby at_140) rfl (v := r32) rfl ?_
  have hq142_hi_47 : 0 ≤ (3 : Int32).toInt ∧ (3 : Int32).toInt ≤ 5 := by decide
  have hq142_hf_48 : 0 ≤ r31.toInt := hF.1
  have hq142_hl_49 : [r3.toInt8.toInt32, r7.toInt8.toInt32, r11.toInt8.toInt32, r15.toInt8.toInt32, r19.toInt8.toInt32, r23.toInt8.toInt32].length = 6 := rfl
  refine g_callS 145 X42 hx hZ (y := (⟨"com/example/paillasse/paillasse/message/SegmentIndexCountPinLaw", "startAt", "([BIII)I"⟩ : MethodName)) hown (hw _ (List.mem_of_getElem? (i := 13) rfl)) (hw _ (List.mem_of_getElem? (i := 14) rfl)) (hw _ (List.mem_of_getElem? (i := 3) rfl)) (hw _ (List.mem_of_getElem? (i := 15) rfl)) (by decide) e42 (rm4 l Z a0 hw [] b1 (3 : Int32) r31 r32 [r3.toInt8.toInt32, r7.toInt8.toInt32, r11.toInt8.toInt32, r15.toInt8.toInt32, r19.toInt8.toInt32, r23.toInt8.toInt32] h24 n0 Zs25 A24' hq142_hi_47 hq142_hf_48 hq142_hl_49) (by rw [hml]; rfl) [(.ref b1), (.int (3 : Int32)), (.int r31), (.int r32)] [(.int z46)] rfl rfl (lenOf pd_3 rfl) 1 (Nat.le_of_eq rfl) (hb hby at_142) (by decide) (by decide) (by decide) (by decide) rfl ?_
  intro v47 T47 L47 X47 hQ47
  obtain ⟨r47, rfl, hr47, N47q, e47⟩ := hQ47
  have N47 := Fr.app N42 N47q
  show Go p e below s 16 128 (Q0 Z q1 p2 p3 p4 h0 n0) T47 (mkF m 145 #[.val (.long q1), .second, .val (.int p2), .val (.int p3), .val (.int p4), .val (.ref b1), .val (.int z28), .val (.int z30), .val (.int r31), .val (.int r32), .unset] [(.int r47), (.int z46)])
  obtain ⟨z51, hz51⟩ : ∃ z : Int32, z46 + r47 = z := ⟨_, rfl⟩
  refine g_iadd 146 X47 hx (hb hby at_145) rfl (z := z51) hz51 ?_
  refine g_aload 148 X47 hx (hb hby at_146) rfl (v := (.ref b1)) rfl rfl ?_
  refine g_iconst 149 X47 hx (hb hby at_148) rfl (z := (4 : Int32)) rfl ?_
  refine g_iload 151 X47 hx (hb hby at_149) rfl (v := r31) rfl ?_
  refine g_iload 153 X47 hx (hb hby at_151) rfl (v := r32) rfl ?_
  have hq153_hi_52 : 0 ≤ (4 : Int32).toInt ∧ (4 : Int32).toInt ≤ 5 := by decide
  have hq153_hf_53 : 0 ≤ r31.toInt := hF.1
  have hq153_hl_54 : [r3.toInt8.toInt32, r7.toInt8.toInt32, r11.toInt8.toInt32, r15.toInt8.toInt32, r19.toInt8.toInt32, r23.toInt8.toInt32].length = 6 := rfl
  refine g_callS 156 X47 hx hZ (y := (⟨"com/example/paillasse/paillasse/message/SegmentIndexCountPinLaw", "startAt", "([BIII)I"⟩ : MethodName)) hown (hw _ (List.mem_of_getElem? (i := 13) rfl)) (hw _ (List.mem_of_getElem? (i := 14) rfl)) (hw _ (List.mem_of_getElem? (i := 3) rfl)) (hw _ (List.mem_of_getElem? (i := 15) rfl)) (by decide) e47 (rm4 l Z a0 hw [] b1 (4 : Int32) r31 r32 [r3.toInt8.toInt32, r7.toInt8.toInt32, r11.toInt8.toInt32, r15.toInt8.toInt32, r19.toInt8.toInt32, r23.toInt8.toInt32] h24 n0 Zs25 A24' hq153_hi_52 hq153_hf_53 hq153_hl_54) (by rw [hml]; rfl) [(.ref b1), (.int (4 : Int32)), (.int r31), (.int r32)] [(.int z51)] rfl rfl (lenOf pd_3 rfl) 1 (Nat.le_of_eq rfl) (hb hby at_153) (by decide) (by decide) (by decide) (by decide) rfl ?_
  intro v52 T52 L52 X52 hQ52
  obtain ⟨r52, rfl, hr52, N52q, e52⟩ := hQ52
  have N52 := Fr.app N47 N52q
  show Go p e below s 16 128 (Q0 Z q1 p2 p3 p4 h0 n0) T52 (mkF m 156 #[.val (.long q1), .second, .val (.int p2), .val (.int p3), .val (.int p4), .val (.ref b1), .val (.int z28), .val (.int z30), .val (.int r31), .val (.int r32), .unset] [(.int r52), (.int z51)])
  obtain ⟨z56, hz56⟩ : ∃ z : Int32, z51 + r52 = z := ⟨_, rfl⟩
  refine g_iadd 157 X52 hx (hb hby at_156) rfl (z := z56) hz56 ?_
  refine g_aload 159 X52 hx (hb hby at_157) rfl (v := (.ref b1)) rfl rfl ?_
  refine g_iconst 160 X52 hx (hb hby at_159) rfl (z := (5 : Int32)) rfl ?_
  refine g_iload 162 X52 hx (hb hby at_160) rfl (v := r31) rfl ?_
  refine g_iload 164 X52 hx (hb hby at_162) rfl (v := r32) rfl ?_
  have hq164_hi_57 : 0 ≤ (5 : Int32).toInt ∧ (5 : Int32).toInt ≤ 5 := by decide
  have hq164_hf_58 : 0 ≤ r31.toInt := hF.1
  have hq164_hl_59 : [r3.toInt8.toInt32, r7.toInt8.toInt32, r11.toInt8.toInt32, r15.toInt8.toInt32, r19.toInt8.toInt32, r23.toInt8.toInt32].length = 6 := rfl
  refine g_callS 167 X52 hx hZ (y := (⟨"com/example/paillasse/paillasse/message/SegmentIndexCountPinLaw", "startAt", "([BIII)I"⟩ : MethodName)) hown (hw _ (List.mem_of_getElem? (i := 13) rfl)) (hw _ (List.mem_of_getElem? (i := 14) rfl)) (hw _ (List.mem_of_getElem? (i := 3) rfl)) (hw _ (List.mem_of_getElem? (i := 15) rfl)) (by decide) e52 (rm4 l Z a0 hw [] b1 (5 : Int32) r31 r32 [r3.toInt8.toInt32, r7.toInt8.toInt32, r11.toInt8.toInt32, r15.toInt8.toInt32, r19.toInt8.toInt32, r23.toInt8.toInt32] h24 n0 Zs25 A24' hq164_hi_57 hq164_hf_58 hq164_hl_59) (by rw [hml]; rfl) [(.ref b1), (.int (5 : Int32)), (.int r31), (.int r32)] [(.int z56)] rfl rfl (lenOf pd_3 rfl) 1 (Nat.le_of_eq rfl) (hb hby at_164) (by decide) (by decide) (by decide) (by decide) rfl ?_
  intro v57 T57 L57 X57 hQ57
  obtain ⟨r57, rfl, hr57, N57q, e57⟩ := hQ57
  have N57 := Fr.app N52 N57q
  show Go p e below s 16 128 (Q0 Z q1 p2 p3 p4 h0 n0) T57 (mkF m 167 #[.val (.long q1), .second, .val (.int p2), .val (.int p3), .val (.int p4), .val (.ref b1), .val (.int z28), .val (.int z30), .val (.int r31), .val (.int r32), .unset] [(.int r57), (.int z56)])
  obtain ⟨z61, hz61⟩ : ∃ z : Int32, z56 + r57 = z := ⟨_, rfl⟩
  refine g_iadd 168 X57 hx (hb hby at_167) rfl (z := z61) hz61 ?_
  refine g_istore 170 X57 hx (hb hby at_168) rfl (Ls' := #[.val (.long q1), .second, .val (.int p2), .val (.int p3), .val (.int p4), .val (.ref b1), .val (.int z28), .val (.int z30), .val (.int r31), .val (.int r32), .val (.int z61)]) rfl ?_
  refine g_aload 172 X57 hx (hb hby at_170) rfl (v := (.ref b1)) rfl rfl ?_
  refine g_iload 174 X57 hx (hb hby at_172) rfl (v := r31) rfl ?_
  refine g_iload 176 X57 hx (hb hby at_174) rfl (v := r32) rfl ?_
  have hq176_hf_62 : 0 ≤ r31.toInt := hF.1
  have hq176_ht_63 : r32.toInt ≤ 6 := hF.2.2
  have hq176_hl_64 : [r3.toInt8.toInt32, r7.toInt8.toInt32, r11.toInt8.toInt32, r15.toInt8.toInt32, r19.toInt8.toInt32, r23.toInt8.toInt32].length = 6 := rfl
  refine g_callS 179 X57 hx hZ (y := (⟨"com/example/paillasse/paillasse/message/SegmentIndex", "count", "([BII)I"⟩ : MethodName)) hown (hw _ (List.mem_of_getElem? (i := 19) rfl)) (hw _ (List.mem_of_getElem? (i := 20) rfl)) (hw _ (List.mem_of_getElem? (i := 21) rfl)) (hw _ (List.mem_of_getElem? (i := 22) rfl)) (by decide) e57 (rm6 l Z a0 hw [] b1 r31 r32 [r3.toInt8.toInt32, r7.toInt8.toInt32, r11.toInt8.toInt32, r15.toInt8.toInt32, r19.toInt8.toInt32, r23.toInt8.toInt32] h24 n0 Zs25 A24' hq176_hf_62 hq176_ht_63 hq176_hl_64) (by rw [hml]; rfl) [(.ref b1), (.int r31), (.int r32)] [] rfl rfl (lenOf pd_4 rfl) 0 (Nat.le_of_eq rfl) (hb hby at_176) (by decide) (by decide) (by decide) (by decide) rfl ?_
  intro v62 T62 L62 X62 hQ62
  obtain ⟨r62, rfl, hr62, N62q, e62⟩ := hQ62
  have N62 := Fr.app N57 N62q
  show Go p e below s 16 128 (Q0 Z q1 p2 p3 p4 h0 n0) T62 (mkF m 179 #[.val (.long q1), .second, .val (.int p2), .val (.int p3), .val (.int p4), .val (.ref b1), .val (.int z28), .val (.int z30), .val (.int r31), .val (.int r32), .val (.int z61)] [(.int r62)])
  refine g_iload 181 X62 hx (hb hby at_179) rfl (v := z61) rfl ?_
  suffices Jhj68 : ∀ (z67 : Int32), ((r62 = z61 ∧ z67 = (1 : Int32)) ∨ (¬ (r62 = z61) ∧ z67 = (0 : Int32))) → Go p e below s 16 128 (Q0 Z q1 p2 p3 p4 h0 n0) T62 (mkF m 189 #[.val (.long q1), .second, .val (.int p2), .val (.int p3), .val (.int p4), .val (.ref b1), .val (.int z28), .val (.int z30), .val (.int r31), .val (.int r32), .val (.int z61)] [(.int z67)]) by
    by_cases hc181_65 : r62 = z61
    ·
      refine g_icmpNo 184 X62 hx (hb hby at_181)  (teq hc181_65).2 rfl ?_
      refine g_iconst 185 X62 hx (hb hby at_184) rfl (z := (1 : Int32)) rfl ?_
      refine g_goto 189 X62 hx (hb hby at_185) (by decide) (by decide) ?_
      exact Jhj68 (1 : Int32) (Or.inl ⟨hc181_65, rfl⟩)
    ·
      refine g_icmpYes 188 X62 hx (hb hby at_181)  (feq hc181_65).2 (by decide) (by decide) ?_
      refine g_iconst 189 X62 hx (hb hby at_188) rfl (z := (0 : Int32)) rfl ?_
      exact Jhj68 (0 : Int32) (Or.inr (⟨hc181_65, rfl⟩))
  intro z67 hj68
  have hl0 : z67 = 1 := leaf_0 q1 p2 p3 p4 r3 r7 r11 r15 r19 r23 z28 z30 r31 r32 r33 r37 z41 r42 z46 r47 z51 r52 z56 r57 z61 r62 z67 hF hr33 hr37 hz41 hr42 hz46 hr47 hz51 hr52 hz56 hr57 hz61 hr62 hj68
  subst hl0
  exact g_retN X62 hx (t := .boolean) Bd.returns hlk (by simp) rfl (hb hby at_189) (by decide) (by decide) ⟨rfl, N62⟩
set_option maxRecDepth 65536 in
set_option maxHeartbeats 40000000 in
theorem comes_1 {Post : Tables → Env → Array Value → State → Outcome → State → Prop} (hpost : ∀ tb e args s v u, (limb_1_1.after args s (.returned v) u = true ∧ limb_1_2.after args s (.returned v) u = true ∧ True) → FrameEnd s (.returned v) u (Jvm.fieldLocs frame_1_writes args s ++ Jvm.arrayLocs frame_1_arrays args s ++ Jvm.staticLocs frame_1_statics s) 16 128 → Post tb e args s (.returned v) u) :
    ArmFor flags0 classFile x code maxLocals ret World_1 tables_1 room_1 Calls_1 rest_1 Pre_1 Post := by
  intro l hfl _ _ p e ha hc hk s m args below hf hA hF happ hP
  obtain ⟨hcalls, hrest, hpre⟩ := hP
  obtain ⟨-, -, -, hnamed, -, -, -, hat⟩ := (Spec.applies_iff hf).mp happ
  obtain ⟨hg, hn⟩ := and_e (Cond.before_iff.mp (show (Jvm.Cond.and given_1 narrow_1).before args s = true from hpre))
  obtain ⟨hcount, r0⟩ := and_e hg
  obtain ⟨ga0, r1⟩ := and_e r0
  obtain ⟨ga1, r2⟩ := and_e r1
  obtain ⟨ga2, r3⟩ := and_e r2
  obtain ⟨w0, w1, w2, w3, rfl⟩ : ∃ w0 w1 w2 w3 : Value, args = #[w0, w1, w2, w3] := by
    have hs : args.size = 4 := by simpa [Cond.value, given_1] using hcount
    obtain ⟨L⟩ := args
    match L, hs with
    | [w0, w1, w2, w3], _ => exact ⟨w0, w1, w2, w3, rfl⟩
  have hw := fun d (hd : d ∈ tables_1) => atoms_spec (ws := Jvm.Cond.code x code maxLocals ret :: tables_1) hat d (List.mem_cons_of_mem _ hd)
  obtain ⟨i0, ei0⟩ := isL_v ga0
  obtain rfl : w0 = (.long i0) := Option.some.inj ei0
  obtain ⟨i1, ei1⟩ := is_v ga1
  obtain rfl : w1 = (.int i1) := Option.some.inj ei1
  obtain ⟨i2, ei2⟩ := is_v ga2
  obtain rfl : w2 = (.int i2) := Option.some.inj ei2
  obtain ⟨i3, ei3⟩ := is_v r3
  obtain rfl : w3 = (.int i3) := Option.some.inj ei3
  obtain ⟨n, o, h1, h2, h3, _, L, rfl, ⟨rfl, N⟩, hq⟩ := rm0 l s _ hw tables_1 i0 i1 i2 i3 s.heap s.heap.size (Nat.le_refl _)  p e ha hc hk s m _ below hf ((Spec.applies_iff_loose hf).mp happ).1 ⟨rfl, State.Warmed39.refl s, rfl⟩ trivial
  exact ⟨n, _, h1, h2, h3, hpost _ _ _ _ _ _ ⟨Cond.after_iff.mpr rfl, Cond.after_iff.mpr (eq_i res_at (Term.int_eval (1)) rfl), trivial⟩ ⟨hq.1, hq.2.1, (hq.2.2.sift fun y hy => Or.inr (N y hy)).mono (by decide) (by decide)⟩⟩
theorem main_1_1 : Claimed_1_1 := comes_1 fun _ _ _ _ _ _ h hF => ⟨h.1, hF⟩
theorem main_1_2 : Claimed_1_2 := comes_1 fun _ _ _ _ _ _ h hF => ⟨h.2.1, hF⟩
end Jvm.Pilot.@@N@@
namespace Jvm.Pilot.@@N@@
open Jvm Jvm.ClassFile Sem Op Lib Jvm.Free Jvm.Stand Jvm.Pilot.@@N@@.Jvm.D
/-! MADE BY PROGRAM (witnessworld.py) out of the Statement's table words and the real class files: 10 classes; the members and pool entries that the words name. The judged class is class 1, her method 1. -/
namespace start1
open Jvm.ClassFile
def u (s : String) : CpInfo := .utf8 (stringToUtf16 s)
/-- a pool by its gaps: so many unusable entries, then the entry; so many at the end -/
def gap : Nat → List CpInfo → List CpInfo
  | 0, r => r
  | n + 1, r => .unusable :: gap n r
def poolList (es : List (Nat × CpInfo)) (last : Nat) : List CpInfo := es.foldr (fun e r => gap e.1 (e.2 :: r)) (gap last [])
def pool (es : List (Nat × CpInfo)) (last : Nat) : Array CpInfo := ⟨poolList es last⟩
def fileOf (pool : Array CpInfo) (this : Nat) (attrs : Array Attribute := #[]) (ms : Array MethodInfo := #[]) (fl : Nat := 33) (sup : Nat := 0) (ifs : Array Nat := #[]) (fds : Array FieldInfo := #[]) : ClassFile where
  minorVersion := 0
  majorVersion := 65
  constantPool := pool
  accessFlags := fl
  thisClass := this
  superClass := sup
  interfaces := ifs
  fields := fds
  methods := ms
  attributes := attrs
def plain (name : String) (sup : Option ClassId) : Class where
  name := name
  kind := .ordinary
  loader := none
  accessFlags := 33
  super := sup
  interfaces := #[]
  cf := none
  fields := #[]
  methods := #[]
  instanceTypes := #[]
  staticTypes := #[]
  resolved := #[]
  callSites := []
  init := .initialized
  statics := none
  mirror := none

def pool0 : Array CpInfo := pool [(5, u "<init>"), (0, u "()V"), (1, .class_ 10), (1, u "java/lang/Object")] 113

def k0m0 : Method := { name := "<init>", desc := "()V", sig := { parameters := [], returnType := none }, accessFlags := 1, code := none }
/-- java/lang/Object -/
def k0 : Class := { plain "java/lang/Object" none with
  accessFlags := 33
  interfaces := #[]
  cf := some (fileOf pool0 8 #[] #[{ accessFlags := 1, nameIndex := 5, descriptorIndex := 6, attributes := #[] }] 33 0 #[] #[])
  fields := #[]
  methods := #[k0m0]
  instanceTypes := #[]
  staticTypes := #[]
  resolved := Array.replicate 124 none
  statics := none }

def pool1 : Array CpInfo := pool [(2, .class_ 4), (1, u "java/lang/Object"), (0, u "<init>"), (0, u "()V"), (0, .methodref 8 9), (0, .class_ 10), (0, .nameAndType 11 12), (0, u "com/example/paillasse/paillasse/message/SegmentIndexCountPinLaw"), (0, u "draw"), (0, u "(JII)B"), (0, .integer 2147483647), (0, .methodref 15 16), (0, .class_ 17), (0, .nameAndType 18 19), (0, u "java/lang/Math"), (0, u "min"), (0, u "(II)I"), (0, .methodref 15 21), (0, .nameAndType 22 19), (0, u "max"), (0, .methodref 8 24), (0, .nameAndType 25 26), (0, u "startAt"), (0, u "([BIII)I"), (0, .methodref 28 29), (0, .class_ 30), (0, .nameAndType 31 32), (0, u "com/example/paillasse/paillasse/message/SegmentIndex"), (0, u "count"), (0, u "([BII)I"), (0, .methodref 8 34), (0, .nameAndType 35 36), (0, u "isTerm"), (0, u "(B)Z"), (2, u "law"), (0, u "(JIII)Z")] 5

def k1m0 : Method := { name := "<init>", desc := "()V", sig := { parameters := [], returnType := none }, accessFlags := 2, code := none }
def k1c1 : Code := { maxStack := 6, maxLocals := 11, code := code, exceptionTable := #[], attributes := #[] }
def k1m1 : Method := { name := "law", desc := "(JIII)Z", sig := { parameters := [.long, .int, .int, .int], returnType := some .boolean }, accessFlags := 9, code := some k1c1 }
def k1c2 : Code := { maxStack := 4, maxLocals := 5, code := method_3_code, exceptionTable := #[], attributes := #[] }
def k1m2 : Method := { name := "draw", desc := "(JII)B", sig := { parameters := [.long, .int, .int], returnType := some .byte }, accessFlags := 10, code := some k1c2 }
def k1c3 : Code := { maxStack := 2, maxLocals := 1, code := method_4_code, exceptionTable := #[], attributes := #[] }
def k1m3 : Method := { name := "isTerm", desc := "(B)Z", sig := { parameters := [.byte], returnType := some .boolean }, accessFlags := 10, code := some k1c3 }
def k1c4 : Code := { maxStack := 3, maxLocals := 4, code := method_5_code, exceptionTable := #[], attributes := #[] }
def k1m4 : Method := { name := "startAt", desc := "([BIII)I", sig := { parameters := [(.array .byte), .int, .int, .int], returnType := some .int }, accessFlags := 10, code := some k1c4 }
/-- com/example/paillasse/paillasse/message/SegmentIndexCountPinLaw -/
def k1 : Class := { plain "com/example/paillasse/paillasse/message/SegmentIndexCountPinLaw" (some 0) with
  accessFlags := 49
  interfaces := #[]
  cf := some (fileOf pool1 8 #[] #[{ accessFlags := 2, nameIndex := 5, descriptorIndex := 6, attributes := #[] }, { accessFlags := 9, nameIndex := 39, descriptorIndex := 40, attributes := #[] }, { accessFlags := 10, nameIndex := 11, descriptorIndex := 12, attributes := #[] }, { accessFlags := 10, nameIndex := 35, descriptorIndex := 36, attributes := #[] }, { accessFlags := 10, nameIndex := 25, descriptorIndex := 26, attributes := #[] }] 49 2 #[] #[])
  fields := #[]
  methods := #[k1m0, k1m1, k1m2, k1m3, k1m4]
  instanceTypes := #[]
  staticTypes := #[]
  resolved := Array.replicate 46 none
  statics := none }

def pool2 : Array CpInfo := pool [(1, .class_ 2), (0, u "java/lang/Math"), (1, .class_ 6), (1, u "java/lang/Object"), (0, u "<init>"), (0, u "()V"), (89, .class_ 100), (1, u "java/lang/Math$RandomNumberGeneratorHolder"), (71, u "negativeZeroFloatBits"), (0, u "J"), (2, u "negativeZeroDoubleBits"), (21, u "max"), (2, u "min"), (43, u "$assertionsDisabled"), (0, u "Z"), (88, u "(II)I"), (2, u "twoToTheDoubleScaleDown"), (0, u "D"), (4, u "twoToTheDoubleScaleUp"), (9, u "E"), (3, u "PI"), (2, u "TAU"), (2, u "DEGREES_TO_RADIANS"), (0, u "RADIANS_TO_DEGREES")] 94

def k2m0 : Method := { name := "<init>", desc := "()V", sig := { parameters := [], returnType := none }, accessFlags := 2, code := none }
def k2c1 : Code := { maxStack := 2, maxLocals := 2, code := jdk_29_method_65_code, exceptionTable := #[], attributes := #[] }
def k2m1 : Method := { name := "max", desc := "(II)I", sig := { parameters := [.int, .int], returnType := some .int }, accessFlags := 9, code := some k2c1 }
def k2c2 : Code := { maxStack := 2, maxLocals := 2, code := jdk_29_method_69_code, exceptionTable := #[], attributes := #[] }
def k2m2 : Method := { name := "min", desc := "(II)I", sig := { parameters := [.int, .int], returnType := some .int }, accessFlags := 9, code := some k2c2 }
/-- java/lang/Math -/
def k2 : Class := { plain "java/lang/Math" (some 0) with
  accessFlags := 49
  interfaces := #[]
  cf := some (fileOf pool2 1 #[.nestMembers #[98]] #[{ accessFlags := 2, nameIndex := 7, descriptorIndex := 8, attributes := #[] }, { accessFlags := 9, nameIndex := 198, descriptorIndex := 335, attributes := #[] }, { accessFlags := 9, nameIndex := 201, descriptorIndex := 335, attributes := #[] }] 49 4 #[] #[{ accessFlags := 25, nameIndex := 354, descriptorIndex := 339, attributes := #[] }, { accessFlags := 25, nameIndex := 358, descriptorIndex := 339, attributes := #[] }, { accessFlags := 25, nameIndex := 361, descriptorIndex := 339, attributes := #[] }, { accessFlags := 26, nameIndex := 364, descriptorIndex := 339, attributes := #[] }, { accessFlags := 26, nameIndex := 365, descriptorIndex := 339, attributes := #[] }, { accessFlags := 26, nameIndex := 172, descriptorIndex := 173, attributes := #[] }, { accessFlags := 26, nameIndex := 176, descriptorIndex := 173, attributes := #[] }, { accessFlags := 8, nameIndex := 344, descriptorIndex := 339, attributes := #[] }, { accessFlags := 8, nameIndex := 338, descriptorIndex := 339, attributes := #[] }, { accessFlags := 4120, nameIndex := 245, descriptorIndex := 246, attributes := #[] }])
  fields := #[{ name := "E", type := .double, accessFlags := 25, slot := 0, constantValue := 0 }, { name := "PI", type := .double, accessFlags := 25, slot := 1, constantValue := 0 }, { name := "TAU", type := .double, accessFlags := 25, slot := 2, constantValue := 0 }, { name := "DEGREES_TO_RADIANS", type := .double, accessFlags := 26, slot := 3, constantValue := 0 }, { name := "RADIANS_TO_DEGREES", type := .double, accessFlags := 26, slot := 4, constantValue := 0 }, { name := "negativeZeroFloatBits", type := .long, accessFlags := 26, slot := 5, constantValue := 0 }, { name := "negativeZeroDoubleBits", type := .long, accessFlags := 26, slot := 6, constantValue := 0 }, { name := "twoToTheDoubleScaleUp", type := .double, accessFlags := 8, slot := 7, constantValue := 0 }, { name := "twoToTheDoubleScaleDown", type := .double, accessFlags := 8, slot := 8, constantValue := 0 }, { name := "$assertionsDisabled", type := .boolean, accessFlags := 4120, slot := 9, constantValue := 0 }]
  methods := #[k2m0, k2m1, k2m2]
  instanceTypes := #[]
  staticTypes := #[.double, .double, .double, .double, .double, .long, .long, .double, .double, .boolean]
  resolved := Array.replicate 460 none
  statics := none }

def pool3 : Array CpInfo := pool [(4, .class_ 6), (1, u "java/lang/Object"), (3, .class_ 12), (1, u "com/example/paillasse/paillasse/message/SegmentIndex"), (0, u "bytes"), (0, u "[B"), (2, u "fieldSeparator"), (0, u "I"), (2, u "count"), (0, u "([BII)I"), (2, u "starts"), (0, u "[I"), (2, u "ends"), (6, u "byId"), (6, u "occurrences"), (12, u "idStarts"), (2, u "idKeys"), (47, u "CR"), (2, u "LF"), (1, u "BYTES_A_SEGMENT"), (0, u "J"), (0, u "FIXED_BYTES"), (0, u "KEY_BYTES"), (1, u "KEY_BITS_A_BYTE"), (1, u "LONGER")] 18

def k3c0 : Code := { maxStack := 2, maxLocals := 6, code := prog_92_method_2_code, exceptionTable := #[], attributes := #[] }
def k3m0 : Method := { name := "count", desc := "([BII)I", sig := { parameters := [(.array .byte), .int, .int], returnType := some .int }, accessFlags := 8, code := some k3c0 }
/-- com/example/paillasse/paillasse/message/SegmentIndex -/
def k3 : Class := { plain "com/example/paillasse/paillasse/message/SegmentIndex" (some 0) with
  accessFlags := 48
  interfaces := #[]
  cf := some (fileOf pool3 10 #[] #[{ accessFlags := 8, nameIndex := 21, descriptorIndex := 22, attributes := #[] }] 48 4 #[] #[{ accessFlags := 26, nameIndex := 107, descriptorIndex := 18, attributes := #[] }, { accessFlags := 26, nameIndex := 110, descriptorIndex := 18, attributes := #[] }, { accessFlags := 26, nameIndex := 112, descriptorIndex := 113, attributes := #[] }, { accessFlags := 26, nameIndex := 114, descriptorIndex := 113, attributes := #[] }, { accessFlags := 26, nameIndex := 115, descriptorIndex := 18, attributes := #[] }, { accessFlags := 26, nameIndex := 117, descriptorIndex := 18, attributes := #[] }, { accessFlags := 26, nameIndex := 119, descriptorIndex := 18, attributes := #[] }, { accessFlags := 18, nameIndex := 13, descriptorIndex := 14, attributes := #[] }, { accessFlags := 18, nameIndex := 17, descriptorIndex := 18, attributes := #[] }, { accessFlags := 18, nameIndex := 25, descriptorIndex := 26, attributes := #[] }, { accessFlags := 18, nameIndex := 29, descriptorIndex := 26, attributes := #[] }, { accessFlags := 18, nameIndex := 43, descriptorIndex := 26, attributes := #[] }, { accessFlags := 18, nameIndex := 36, descriptorIndex := 26, attributes := #[] }, { accessFlags := 18, nameIndex := 56, descriptorIndex := 26, attributes := #[] }, { accessFlags := 18, nameIndex := 59, descriptorIndex := 26, attributes := #[] }])
  fields := #[{ name := "CR", type := .int, accessFlags := 26, slot := 0, constantValue := 0 }, { name := "LF", type := .int, accessFlags := 26, slot := 1, constantValue := 0 }, { name := "BYTES_A_SEGMENT", type := .long, accessFlags := 26, slot := 2, constantValue := 0 }, { name := "FIXED_BYTES", type := .long, accessFlags := 26, slot := 3, constantValue := 0 }, { name := "KEY_BYTES", type := .int, accessFlags := 26, slot := 4, constantValue := 0 }, { name := "KEY_BITS_A_BYTE", type := .int, accessFlags := 26, slot := 5, constantValue := 0 }, { name := "LONGER", type := .int, accessFlags := 26, slot := 6, constantValue := 0 }, { name := "bytes", type := (.array .byte), accessFlags := 18, slot := 0, constantValue := 0 }, { name := "fieldSeparator", type := .int, accessFlags := 18, slot := 1, constantValue := 0 }, { name := "starts", type := (.array .int), accessFlags := 18, slot := 2, constantValue := 0 }, { name := "ends", type := (.array .int), accessFlags := 18, slot := 3, constantValue := 0 }, { name := "occurrences", type := (.array .int), accessFlags := 18, slot := 4, constantValue := 0 }, { name := "byId", type := (.array .int), accessFlags := 18, slot := 5, constantValue := 0 }, { name := "idStarts", type := (.array .int), accessFlags := 18, slot := 6, constantValue := 0 }, { name := "idKeys", type := (.array .int), accessFlags := 18, slot := 7, constantValue := 0 }]
  methods := #[k3m0]
  instanceTypes := #[(.array .byte), .int, (.array .int), (.array .int), (.array .int), (.array .int), (.array .int), (.array .int)]
  staticTypes := #[.int, .int, .long, .long, .int, .int, .int]
  resolved := Array.replicate 138 none
  statics := none }

def pool4 : Array CpInfo := pool [(1, u "java/lang/Cloneable"), (0, .class_ 1), (0, u "java/lang/Object"), (0, .class_ 3)] 3

/-- java/lang/Cloneable -/
def k4 : Class := { plain "java/lang/Cloneable" (some 0) with
  accessFlags := 1537
  interfaces := #[]
  cf := some (fileOf pool4 2 #[] #[] 1537 4 #[] #[])
  fields := #[]
  methods := #[]
  instanceTypes := #[]
  staticTypes := #[]
  resolved := Array.replicate 8 none
  statics := none }

def pool5 : Array CpInfo := pool [(1, u "java/io/Serializable"), (0, .class_ 1), (0, u "java/lang/Object"), (0, .class_ 3)] 3

/-- java/io/Serializable -/
def k5 : Class := { plain "java/io/Serializable" (some 0) with
  accessFlags := 1537
  interfaces := #[]
  cf := some (fileOf pool5 2 #[] #[] 1537 4 #[] #[])
  fields := #[]
  methods := #[]
  instanceTypes := #[]
  staticTypes := #[]
  resolved := Array.replicate 8 none
  statics := none }

/-- the primitive byte -/
def k6 : Class := { plain "byte" none with kind := .primitive 'B', accessFlags := 0x411 }
/-- [B -/
def k7 : Class := { plain "[B" (some 0) with kind := .array 6 .byte, interfaces := #[4, 5], accessFlags := 1041 }

/-- the primitive int -/
def k8 : Class := { plain "int" none with kind := .primitive 'I', accessFlags := 0x411 }
/-- [I -/
def k9 : Class := { plain "[I" (some 0) with kind := .array 8 .int, interfaces := #[4, 5], accessFlags := 1041 }

def heap : Heap := #[]
def classes : Array Class := #[k0, k1, k2, k3, k4, k5, k6, k7, k8, k9]
def interned : List (Array UInt16 × Addr) := []
def slotsUsed : Nat := 0
def theMethod : MethodId := ⟨1, 1⟩
def args0 : Array Value := #[.long 5, .int 7, .int 9, .int 1]
def aboutOver (below : List Frame) : State where
  vm := { classes := classes, interned := interned.toArray }
  heap := heap
  slotsUsed := slotsUsed
  threads := #[{ frames := .invoking theMethod args0 :: below }]
def below0 : List Frame := [.native { method := ⟨0, 0⟩, args := #[] }]
def about1 : State := aboutOver below0
def p0 : Program := .bare "" "" ""
def e0 : Env := launch0.env 0 0 0
theorem w_frames : about1.frames = Frame.invoking theMethod args0 :: below0 := rfl
set_option maxRecDepth 65536 in
theorem w_args : argsFit about1.vm theMethod args0 = true := by decide +kernel
set_option maxRecDepth 65536 in
theorem w_heap : heapFits about1 = true := by decide +kernel
set_option maxRecDepth 65536 in
theorem w_runnable : about1.curStatus? = some .runnable := by decide +kernel
set_option maxRecDepth 65536 in
theorem w_alone : about1.alone = true := by decide +kernel
set_option maxRecDepth 65536 in
theorem w_named : about1.methodNamed? x = some theMethod := by decide +kernel
set_option maxRecDepth 65536 in
theorem w_hears : about1.hears theMethod below0 = true := by decide +kernel
set_option maxRecDepth 65536 in
theorem w_ripe : about1.ripe theMethod args0 below0 = true := by decide +kernel
theorem w_running : about1.status = .running := rfl
set_option maxRecDepth 65536 in
theorem w_room : about1.hasRoom e0.platform room_1 = true :=
  launch0.hasRoom_least _ room_1 (by decide +kernel) (by decide +kernel) (by decide +kernel) (by decide +kernel) (by decide +kernel) (by decide +kernel)
theorem allAtoms_all (ts : List Jvm.Cond) (a : Array Jvm.Value) (st : Jvm.State) : (allAtoms ts).before a st = ts.all (fun c => c.before a st) := by
  induction ts with
  | nil => rfl
  | cons c t ih =>
    show (Jvm.Cond.and c (allAtoms t)).before a st = _
    rw [Jvm.Cond.before_and, ih, List.all_cons]
def words1 : List Jvm.Cond := Jvm.Cond.code x code maxLocals ret :: tables_1
/-- a 'code' word, met by the world's own term for the bytes: nothing is compared byte by byte -/
theorem code_word {y : MethodName} {bytes : ByteArray} {mx : Nat} {rt : Option FieldType} {a : Array Value} {s : State} {m : MethodId} {meth : Method} {c : Code} (h1 : s.methodNamed? y = some m) (h2 : s.vm.method? m = some meth) (h3 : meth.code = some c) (h4 : c.code = bytes)
    (h5 : (c.maxLocals == mx && c.exceptionTable.isEmpty && decide (c.maxStack ≤ mostOperands) && decide (meth.sig.returnType = rt) && !meth.locks && decide (parseMethodDescriptor y.desc = some meth.sig)) = true) : (Jvm.Cond.code y bytes mx rt).before a s = true := by
  simp only [Bool.and_eq_true, beq_iff_eq, Bool.not_eq_true', decide_eq_true_eq] at h5
  obtain ⟨⟨⟨⟨⟨g1, g2⟩, g3⟩, g4⟩, g5⟩, g6⟩ := h5
  simp [Cond.before, Cond.holds, Cond.value, h1, h2, h3, h4, g1, g2, g3, g4, g5, g6]
def isCode : Jvm.Cond → Bool
  | .code _ _ _ _ => true
  | _ => false
theorem all_split {L : List Jvm.Cond} {P : Jvm.Cond → Bool} (h1 : L.all (fun c => isCode c || P c) = true) (h2 : ∀ c ∈ L.filter isCode, P c = true) : L.all P = true := by
  refine List.all_eq_true.mpr fun c hc => ?_
  have h := List.all_eq_true.mp h1 c hc
  rcases Bool.eq_false_or_eq_true (isCode c) with hi | hi
  · exact h2 c (List.mem_filter.mpr ⟨hc, hi⟩)
  · simpa [hi] using h
set_option maxRecDepth 65536 in
theorem w_c0 : (Jvm.Cond.code x code maxLocals ret).before args0 about1 = true := code_word (m := ⟨1, 1⟩) (meth := k1m1) (c := k1c1) (by decide +kernel) rfl rfl rfl (by decide +kernel)
set_option maxRecDepth 65536 in
theorem w_c1 : (Jvm.Cond.code ({ cls := "com/example/paillasse/paillasse/message/SegmentIndexCountPinLaw", name := "draw", desc := "(JII)B" } : Jvm.MethodName) method_3_code (5 : Nat) (Option.some Jvm.ClassFile.FieldType.byte)).before args0 about1 = true := code_word (m := ⟨1, 2⟩) (meth := k1m2) (c := k1c2) (by decide +kernel) rfl rfl rfl (by decide +kernel)
set_option maxRecDepth 65536 in
theorem w_c2 : (Jvm.Cond.code ({ cls := "java/lang/Math", name := "min", desc := "(II)I" } : Jvm.MethodName) jdk_29_method_69_code (2 : Nat) (Option.some Jvm.ClassFile.FieldType.int)).before args0 about1 = true := code_word (m := ⟨2, 2⟩) (meth := k2m2) (c := k2c2) (by decide +kernel) rfl rfl rfl (by decide +kernel)
set_option maxRecDepth 65536 in
theorem w_c3 : (Jvm.Cond.code ({ cls := "java/lang/Math", name := "max", desc := "(II)I" } : Jvm.MethodName) jdk_29_method_65_code (2 : Nat) (Option.some Jvm.ClassFile.FieldType.int)).before args0 about1 = true := code_word (m := ⟨2, 1⟩) (meth := k2m1) (c := k2c1) (by decide +kernel) rfl rfl rfl (by decide +kernel)
set_option maxRecDepth 65536 in
theorem w_c4 : (Jvm.Cond.code ({ cls := "com/example/paillasse/paillasse/message/SegmentIndexCountPinLaw", name := "startAt", desc := "([BIII)I" } : Jvm.MethodName) method_5_code (4 : Nat) (Option.some Jvm.ClassFile.FieldType.int)).before args0 about1 = true := code_word (m := ⟨1, 4⟩) (meth := k1m4) (c := k1c4) (by decide +kernel) rfl rfl rfl (by decide +kernel)
set_option maxRecDepth 65536 in
theorem w_c5 : (Jvm.Cond.code ({ cls := "com/example/paillasse/paillasse/message/SegmentIndexCountPinLaw", name := "isTerm", desc := "(B)Z" } : Jvm.MethodName) method_4_code (1 : Nat) (Option.some Jvm.ClassFile.FieldType.boolean)).before args0 about1 = true := code_word (m := ⟨1, 3⟩) (meth := k1m3) (c := k1c3) (by decide +kernel) rfl rfl rfl (by decide +kernel)
set_option maxRecDepth 65536 in
theorem w_c6 : (Jvm.Cond.code ({ cls := "com/example/paillasse/paillasse/message/SegmentIndex", name := "count", desc := "([BII)I" } : Jvm.MethodName) prog_92_method_2_code (6 : Nat) (Option.some Jvm.ClassFile.FieldType.int)).before args0 about1 = true := code_word (m := ⟨3, 0⟩) (meth := k3m0) (c := k3c0) (by decide +kernel) rfl rfl rfl (by decide +kernel)
def codes1 : List Jvm.Cond := [Jvm.Cond.code x code maxLocals ret, Jvm.Cond.code ({ cls := "com/example/paillasse/paillasse/message/SegmentIndexCountPinLaw", name := "draw", desc := "(JII)B" } : Jvm.MethodName) method_3_code (5 : Nat) (Option.some Jvm.ClassFile.FieldType.byte), Jvm.Cond.code ({ cls := "java/lang/Math", name := "min", desc := "(II)I" } : Jvm.MethodName) jdk_29_method_69_code (2 : Nat) (Option.some Jvm.ClassFile.FieldType.int), Jvm.Cond.code ({ cls := "java/lang/Math", name := "max", desc := "(II)I" } : Jvm.MethodName) jdk_29_method_65_code (2 : Nat) (Option.some Jvm.ClassFile.FieldType.int), Jvm.Cond.code ({ cls := "com/example/paillasse/paillasse/message/SegmentIndexCountPinLaw", name := "startAt", desc := "([BIII)I" } : Jvm.MethodName) method_5_code (4 : Nat) (Option.some Jvm.ClassFile.FieldType.int), Jvm.Cond.code ({ cls := "com/example/paillasse/paillasse/message/SegmentIndexCountPinLaw", name := "isTerm", desc := "(B)Z" } : Jvm.MethodName) method_4_code (1 : Nat) (Option.some Jvm.ClassFile.FieldType.boolean), Jvm.Cond.code ({ cls := "com/example/paillasse/paillasse/message/SegmentIndex", name := "count", desc := "([BII)I" } : Jvm.MethodName) prog_92_method_2_code (6 : Nat) (Option.some Jvm.ClassFile.FieldType.int)]
set_option maxRecDepth 65536 in
theorem codes_eq : words1.filter isCode = codes1 := rfl
theorem w_codes : ∀ c ∈ words1.filter isCode, c.before args0 about1 = true := by
  rw [codes_eq]
  intro c hc
  simp only [codes1, List.mem_cons, List.not_mem_nil, or_false] at hc
  rcases hc with rfl | rfl | rfl | rfl | rfl | rfl | rfl
  · exact w_c0
  · exact w_c1
  · exact w_c2
  · exact w_c3
  · exact w_c4
  · exact w_c5
  · exact w_c6
set_option maxRecDepth 65536 in
theorem w_t1 : words1.all (fun c => isCode c || c.before args0 about1) = true := by decide +kernel
theorem w_tables : (allAtoms (Jvm.Cond.code x code maxLocals ret :: tables_1)).before args0 about1 = true := by
  rw [allAtoms_all]
  show words1.all (fun c => c.before args0 about1) = true
  refine all_split ?_ w_codes
  rw [w_t1]
set_option maxRecDepth 65536 in
theorem w_case : (Jvm.Cond.and given_1 narrow_1).before args0 about1 = true := by decide +kernel
theorem w_applies : (headSpec (Jvm.Cond.code x code maxLocals ret :: tables_1) room_1).applies x e0.platform about1 = true :=
  (Spec.applies_iff w_frames).mpr ⟨w_running, w_runnable, w_alone, w_named, w_hears, w_ripe, w_room, w_tables⟩
theorem atStart : AtStart classFile x code maxLocals ret World_1 tables_1 room_1 Calls_1 rest_1 Pre_1 launch0 p0 e0 about1 theMethod args0 below0 :=
  ⟨lists_1, trivial, launch0.admits_env _ _ _, launch0.least_env, fairChoices_fair.cas, fairChoices_fair.clock, w_frames, w_args, w_heap, w_applies, trivial, trivial, w_case⟩
end start1
theorem witness_1 : WitnessClaimed_1 := ⟨start1.p0, start1.e0, start1.about1, start1.theMethod, start1.args0, start1.below0, start1.atStart⟩
end Jvm.Pilot.@@N@@
