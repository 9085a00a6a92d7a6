import JvmDerived
import JvmDerived.Pilot.@@N@@Statement
import JvmDerived.Pilot.@@N@@Code
set_option linter.unusedVariables false
set_option linter.unusedSimpArgs false
namespace Jvm.Pilot.@@N@@
open Jvm Jvm.ClassFile Sem Op Lib Jvm.Free Jvm.Stand Jvm.LawKit Jvm.RoadKit Bundle Jvm.Pilot.@@N@@.Jvm.D
section OwnKit
/-- the run goes on from here to the method's end; what it leaves is Q -/
def Go (p : Program) (e : Env) (below : List Frame) (s : State) (k n : Nat) (Q : Option Value → Heap → List Loc → Prop) (T : State) (g : JFrame) : Prop :=
  ∃ s₂ o, Steps p.tables e below (T.setTop g) s₂ ∧ s₂.status = .running ∧ Ended s₂ below o ∧ ∃ v L, o = .returned v ∧ Q v s₂.heap L ∧ FrameEnd s o s₂ L k n
variable {p : Program} {l : Launch} {e : Env} {R : Room} {s : State} {m : MethodId} {args : Array Value} {below : List Frame} {meth : Method} {c : Code} {T : State} {locs : List Loc} {cells slots : Nat} {k n : Nat} {Q : Option Value → Heap → List Loc → Prop} {pc : Nat} {Ls : Array Slot} {st : List Value} {Z : State} {a0 : Array Value} {h h' : Heap}
theorem Go.via {T' : State} {g g' : JFrame} (q : ∀ t, Steps p.tables e below (T'.setTop g') t → Steps p.tables e below (T.setTop g) t) (H : Go p e below s k n Q T' g') : Go p e below s k n Q T g := by
  obtain ⟨s₂, o, h1, r⟩ := H
  exact ⟨s₂, o, q _ h1, r⟩
theorem tltL {x y : Int64} (q : x < y) : ifCond.holds .lt (lcmpW x y) = true ∧ ifCond.holds .ge (lcmpW x y) = false ∧ ifCond.holds .gt (lcmpW y x) = true ∧ ifCond.holds .le (lcmpW y x) = false := by
  simp only [if0]
  exact ⟨(tlt ((lw_lt x y).mpr q)).1, (tlt ((lw_lt x y).mpr q)).2.1, (tlt ((lw_gt y x).mpr q)).2.2.1, (tlt ((lw_gt y x).mpr q)).2.2.2⟩
theorem fltL {x y : Int64} (q : ¬ x < y) : ifCond.holds .lt (lcmpW x y) = false ∧ ifCond.holds .ge (lcmpW x y) = true ∧ ifCond.holds .gt (lcmpW y x) = false ∧ ifCond.holds .le (lcmpW y x) = true := by
  simp only [if0]
  exact ⟨(flt (mt (lw_lt x y).mp q)).1, (flt (mt (lw_lt x y).mp q)).2.1, (flt (mt (lw_gt y x).mp q)).2.2.1, (flt (mt (lw_gt y x).mp q)).2.2.2⟩
theorem teqL {x y : Int64} (q : x = y) : ifCond.holds .eq (lcmpW x y) = true ∧ ifCond.holds .ne (lcmpW x y) = false := by
  simp only [if0]
  exact ⟨(teq ((lw_eq x y).mpr q)).1, (teq ((lw_eq x y).mpr q)).2⟩
theorem feqL {x y : Int64} (q : ¬ x = y) : ifCond.holds .eq (lcmpW x y) = false ∧ ifCond.holds .ne (lcmpW x y) = true := by
  simp only [if0]
  exact ⟨(feq (mt (lw_eq x y).mp q)).1, (feq (mt (lw_eq x y).mp q)).2⟩
theorem tlt0 {x y : Int32} (q : x < y) : (y = 0 → ifCond.holds .lt x = true ∧ ifCond.holds .ge x = false) ∧ (x = 0 → ifCond.holds .gt y = true ∧ ifCond.holds .le y = false) := by
  refine ⟨fun r => ?_, fun r => ?_⟩ <;> subst r <;> simp only [if0]
  · exact ⟨(tlt q).1, (tlt q).2.1⟩
  · exact ⟨(tlt q).2.2.1, (tlt q).2.2.2⟩
theorem g_iloadN (pc' : Nat) (X : Stand p l e R s m args below meth c T locs cells slots) (hx : p.tables.exec = Jvm.exec) {i : Fin 4} {v : Int32} (hd : decode c.code pc = .ok (.iload_n i, 1)) (hp : pc + 1 = pc') (hl : Ls[i.val]? = some (.val (.int v))) (H : Go p e below s k n Q T (mkF m pc' Ls (.int v :: st))) : Go p e below s k n Q T (mkF m pc Ls st) := by
  subst hp
  exact H.via fun t q => XS.iloadN X.here hx rfl hd hl q
theorem g_iload (pc' : Nat) (X : Stand p l e R s m args below meth c T locs cells slots) (hx : p.tables.exec = Jvm.exec) {i : Nat} {v : Int32} (hd : decode c.code pc = .ok (.iload i, 2)) (hp : pc + 2 = pc') (hl : Ls[i]? = some (.val (.int v))) (H : Go p e below s k n Q T (mkF m pc' Ls (.int v :: st))) : Go p e below s k n Q T (mkF m pc Ls st) := by
  subst hp
  exact H.via fun t q => XS.iload X.here hx rfl hd hl q
theorem g_istoreN (pc' : Nat) (X : Stand p l e R s m args below meth c T locs cells slots) (hx : p.tables.exec = Jvm.exec) {i : Fin 4} {v : Int32} {Ls' : Array Slot} (hd : decode c.code pc = .ok (.istore_n i, 1)) (hp : pc + 1 = pc') (hl : storeLocals Ls i.val (.int v) = some Ls') (H : Go p e below s k n Q T (mkF m pc' Ls' st)) : Go p e below s k n Q T (mkF m pc Ls (.int v :: st)) := by
  subst hp
  exact H.via fun t q => XS.istoreN X.here hx rfl hd rfl hl q
theorem g_istore (pc' : Nat) (X : Stand p l e R s m args below meth c T locs cells slots) (hx : p.tables.exec = Jvm.exec) {i : Nat} {v : Int32} {Ls' : Array Slot} (hd : decode c.code pc = .ok (.istore i, 2)) (hp : pc + 2 = pc') (hl : storeLocals Ls i (.int v) = some Ls') (H : Go p e below s k n Q T (mkF m pc' Ls' st)) : Go p e below s k n Q T (mkF m pc Ls (.int v :: st)) := by
  subst hp
  exact H.via fun t q => XS.istore X.here hx rfl hd rfl hl q
theorem g_lloadN (pc' : Nat) (X : Stand p l e R s m args below meth c T locs cells slots) (hx : p.tables.exec = Jvm.exec) {i : Fin 4} {v : Int64} (hd : decode c.code pc = .ok (.lload_n i, 1)) (hp : pc + 1 = pc') (hl : Ls[i.val]? = some (.val (.long v))) (H : Go p e below s k n Q T (mkF m pc' Ls (.long v :: st))) : Go p e below s k n Q T (mkF m pc Ls st) := by
  subst hp
  exact H.via fun t q => XS.lloadN X.here hx rfl hd hl q
theorem g_lload (pc' : Nat) (X : Stand p l e R s m args below meth c T locs cells slots) (hx : p.tables.exec = Jvm.exec) {i : Nat} {v : Int64} (hd : decode c.code pc = .ok (.lload i, 2)) (hp : pc + 2 = pc') (hl : Ls[i]? = some (.val (.long v))) (H : Go p e below s k n Q T (mkF m pc' Ls (.long v :: st))) : Go p e below s k n Q T (mkF m pc Ls st) := by
  subst hp
  exact H.via fun t q => XS.lload X.here hx rfl hd hl q
theorem g_lstoreN (pc' : Nat) (X : Stand p l e R s m args below meth c T locs cells slots) (hx : p.tables.exec = Jvm.exec) {i : Fin 4} {v : Int64} {Ls' : Array Slot} (hd : decode c.code pc = .ok (.lstore_n i, 1)) (hp : pc + 1 = pc') (hl : storeLocals Ls i.val (.long v) = some Ls') (H : Go p e below s k n Q T (mkF m pc' Ls' st)) : Go p e below s k n Q T (mkF m pc Ls (.long v :: st)) := by
  subst hp
  exact H.via fun t q => XS.lstoreN X.here hx rfl hd rfl hl q
theorem g_lstore (pc' : Nat) (X : Stand p l e R s m args below meth c T locs cells slots) (hx : p.tables.exec = Jvm.exec) {i : Nat} {v : Int64} {Ls' : Array Slot} (hd : decode c.code pc = .ok (.lstore i, 2)) (hp : pc + 2 = pc') (hl : storeLocals Ls i (.long v) = some Ls') (H : Go p e below s k n Q T (mkF m pc' Ls' st)) : Go p e below s k n Q T (mkF m pc Ls (.long v :: st)) := by
  subst hp
  exact H.via fun t q => XS.lstore X.here hx rfl hd rfl hl q
theorem g_aloadN (pc' : Nat) (X : Stand p l e R s m args below meth c T locs cells slots) (hx : p.tables.exec = Jvm.exec) {i : Fin 4} {v : Value} (hd : decode c.code pc = .ok (.aload_n i, 1)) (hp : pc + 1 = pc') (hl : Ls[i.val]? = some (.val v)) (hv : v.isRef = true) (H : Go p e below s k n Q T (mkF m pc' Ls (v :: st))) : Go p e below s k n Q T (mkF m pc Ls st) := by
  subst hp
  exact H.via fun t q => XS.aloadN X.here hx rfl hd hl hv q
theorem g_aload (pc' : Nat) (X : Stand p l e R s m args below meth c T locs cells slots) (hx : p.tables.exec = Jvm.exec) {i : Nat} {v : Value} (hd : decode c.code pc = .ok (.aload i, 2)) (hp : pc + 2 = pc') (hl : Ls[i]? = some (.val v)) (hv : v.isRef = true) (H : Go p e below s k n Q T (mkF m pc' Ls (v :: st))) : Go p e below s k n Q T (mkF m pc Ls st) := by
  subst hp
  exact H.via fun t q => XS.aload X.here hx rfl hd hl hv q
theorem g_astoreN (pc' : Nat) (X : Stand p l e R s m args below meth c T locs cells slots) (hx : p.tables.exec = Jvm.exec) {i : Fin 4} {v : Value} {Ls' : Array Slot} (hd : decode c.code pc = .ok (.astore_n i, 1)) (hp : pc + 1 = pc') (hv : v.isRef = true) (hl : storeLocals Ls i.val v = some Ls') (H : Go p e below s k n Q T (mkF m pc' Ls' st)) : Go p e below s k n Q T (mkF m pc Ls (v :: st)) := by
  subst hp
  exact H.via fun t q => XS.astoreN X.here hx rfl hd rfl hv hl q
theorem g_astore (pc' : Nat) (X : Stand p l e R s m args below meth c T locs cells slots) (hx : p.tables.exec = Jvm.exec) {i : Nat} {v : Value} {Ls' : Array Slot} (hd : decode c.code pc = .ok (.astore i, 2)) (hp : pc + 2 = pc') (hv : v.isRef = true) (hl : storeLocals Ls i v = some Ls') (H : Go p e below s k n Q T (mkF m pc' Ls' st)) : Go p e below s k n Q T (mkF m pc Ls (v :: st)) := by
  subst hp
  exact H.via fun t q => XS.astore X.here hx rfl hd rfl hv hl q
theorem g_iconst (pc' : Nat) (X : Stand p l e R s m args below meth c T locs cells slots) (hx : p.tables.exec = Jvm.exec) {i : Int} {z : Int32} (hd : decode c.code pc = .ok (.iconst i, 1)) (hp : pc + 1 = pc') (hz : Int32.ofInt i = z) (H : Go p e below s k n Q T (mkF m pc' Ls (.int z :: st))) : Go p e below s k n Q T (mkF m pc Ls st) := by
  subst hp hz
  exact H.via fun t q => XS.iconst X.here hx rfl hd q
theorem g_bipush (pc' : Nat) (X : Stand p l e R s m args below meth c T locs cells slots) (hx : p.tables.exec = Jvm.exec) {i : Int} {z : Int32} (hd : decode c.code pc = .ok (.bipush i, 2)) (hp : pc + 2 = pc') (hz : (Int8.ofInt i).toInt32 = z) (H : Go p e below s k n Q T (mkF m pc' Ls (.int z :: st))) : Go p e below s k n Q T (mkF m pc Ls st) := by
  subst hp hz
  exact H.via fun t q => XS.bipush X.here hx rfl hd q
theorem g_sipush (pc' : Nat) (X : Stand p l e R s m args below meth c T locs cells slots) (hx : p.tables.exec = Jvm.exec) {i : Int} {z : Int32} (hd : decode c.code pc = .ok (.sipush i, 3)) (hp : pc + 3 = pc') (hz : (Int16.ofInt i).toInt32 = z) (H : Go p e below s k n Q T (mkF m pc' Ls (.int z :: st))) : Go p e below s k n Q T (mkF m pc Ls st) := by
  subst hp hz
  exact H.via fun t q => XS.sipush X.here hx rfl hd q
theorem g_lconst (pc' : Nat) (X : Stand p l e R s m args below meth c T locs cells slots) (hx : p.tables.exec = Jvm.exec) {i : Fin 2} {z : Int64} (hd : decode c.code pc = .ok (.lconst i, 1)) (hp : pc + 1 = pc') (hz : Int64.ofNat i.val = z) (H : Go p e below s k n Q T (mkF m pc' Ls (.long z :: st))) : Go p e below s k n Q T (mkF m pc Ls st) := by
  subst hp hz
  exact H.via fun t q => XS.lconst X.here hx rfl hd q
theorem g_aconst_null (pc' : Nat) (X : Stand p l e R s m args below meth c T locs cells slots) (hx : p.tables.exec = Jvm.exec) (hd : decode c.code pc = .ok (.aconst_null, 1)) (hp : pc + 1 = pc')  (H : Go p e below s k n Q T (mkF m pc' Ls (.null :: st))) : Go p e below s k n Q T (mkF m pc Ls st) := by
  subst hp
  exact H.via fun t q => XS.aconstNull X.here hx rfl hd q
theorem g_iadd (pc' : Nat) (X : Stand p l e R s m args below meth c T locs cells slots) (hx : p.tables.exec = Jvm.exec) {x y z : Int32} (hd : decode c.code pc = .ok (.iadd, 1)) (hp : pc + 1 = pc') (hz : x + y = z) (H : Go p e below s k n Q T (mkF m pc' Ls (.int z :: st))) : Go p e below s k n Q T (mkF m pc Ls (.int y :: .int x :: st)) := by
  subst hp hz
  exact H.via fun t q => XS.iadd X.here hx rfl hd rfl q
theorem g_isub (pc' : Nat) (X : Stand p l e R s m args below meth c T locs cells slots) (hx : p.tables.exec = Jvm.exec) {x y z : Int32} (hd : decode c.code pc = .ok (.isub, 1)) (hp : pc + 1 = pc') (hz : x - y = z) (H : Go p e below s k n Q T (mkF m pc' Ls (.int z :: st))) : Go p e below s k n Q T (mkF m pc Ls (.int y :: .int x :: st)) := by
  subst hp hz
  exact H.via fun t q => XS.isub X.here hx rfl hd rfl q
theorem g_imul (pc' : Nat) (X : Stand p l e R s m args below meth c T locs cells slots) (hx : p.tables.exec = Jvm.exec) {x y z : Int32} (hd : decode c.code pc = .ok (.imul, 1)) (hp : pc + 1 = pc') (hz : x * y = z) (H : Go p e below s k n Q T (mkF m pc' Ls (.int z :: st))) : Go p e below s k n Q T (mkF m pc Ls (.int y :: .int x :: st)) := by
  subst hp hz
  exact H.via fun t q => XS.imul X.here hx rfl hd rfl q
theorem g_iand (pc' : Nat) (X : Stand p l e R s m args below meth c T locs cells slots) (hx : p.tables.exec = Jvm.exec) {x y z : Int32} (hd : decode c.code pc = .ok (.iand, 1)) (hp : pc + 1 = pc') (hz : x &&& y = z) (H : Go p e below s k n Q T (mkF m pc' Ls (.int z :: st))) : Go p e below s k n Q T (mkF m pc Ls (.int y :: .int x :: st)) := by
  subst hp hz
  exact H.via fun t q => XS.iand X.here hx rfl hd rfl q
theorem g_ior (pc' : Nat) (X : Stand p l e R s m args below meth c T locs cells slots) (hx : p.tables.exec = Jvm.exec) {x y z : Int32} (hd : decode c.code pc = .ok (.ior, 1)) (hp : pc + 1 = pc') (hz : x ||| y = z) (H : Go p e below s k n Q T (mkF m pc' Ls (.int z :: st))) : Go p e below s k n Q T (mkF m pc Ls (.int y :: .int x :: st)) := by
  subst hp hz
  exact H.via fun t q => XS.ior X.here hx rfl hd rfl q
theorem g_ixor (pc' : Nat) (X : Stand p l e R s m args below meth c T locs cells slots) (hx : p.tables.exec = Jvm.exec) {x y z : Int32} (hd : decode c.code pc = .ok (.ixor, 1)) (hp : pc + 1 = pc') (hz : x ^^^ y = z) (H : Go p e below s k n Q T (mkF m pc' Ls (.int z :: st))) : Go p e below s k n Q T (mkF m pc Ls (.int y :: .int x :: st)) := by
  subst hp hz
  exact H.via fun t q => XS.ixor X.here hx rfl hd rfl q
theorem g_ladd (pc' : Nat) (X : Stand p l e R s m args below meth c T locs cells slots) (hx : p.tables.exec = Jvm.exec) {x y z : Int64} (hd : decode c.code pc = .ok (.ladd, 1)) (hp : pc + 1 = pc') (hz : x + y = z) (H : Go p e below s k n Q T (mkF m pc' Ls (.long z :: st))) : Go p e below s k n Q T (mkF m pc Ls (.long y :: .long x :: st)) := by
  subst hp hz
  exact H.via fun t q => XS.ladd X.here hx rfl hd rfl q
theorem g_lsub (pc' : Nat) (X : Stand p l e R s m args below meth c T locs cells slots) (hx : p.tables.exec = Jvm.exec) {x y z : Int64} (hd : decode c.code pc = .ok (.lsub, 1)) (hp : pc + 1 = pc') (hz : x - y = z) (H : Go p e below s k n Q T (mkF m pc' Ls (.long z :: st))) : Go p e below s k n Q T (mkF m pc Ls (.long y :: .long x :: st)) := by
  subst hp hz
  exact H.via fun t q => XS.lsub X.here hx rfl hd rfl q
theorem g_lmul (pc' : Nat) (X : Stand p l e R s m args below meth c T locs cells slots) (hx : p.tables.exec = Jvm.exec) {x y z : Int64} (hd : decode c.code pc = .ok (.lmul, 1)) (hp : pc + 1 = pc') (hz : x * y = z) (H : Go p e below s k n Q T (mkF m pc' Ls (.long z :: st))) : Go p e below s k n Q T (mkF m pc Ls (.long y :: .long x :: st)) := by
  subst hp hz
  exact H.via fun t q => XS.lmul X.here hx rfl hd rfl q
theorem g_land (pc' : Nat) (X : Stand p l e R s m args below meth c T locs cells slots) (hx : p.tables.exec = Jvm.exec) {x y z : Int64} (hd : decode c.code pc = .ok (.land, 1)) (hp : pc + 1 = pc') (hz : x &&& y = z) (H : Go p e below s k n Q T (mkF m pc' Ls (.long z :: st))) : Go p e below s k n Q T (mkF m pc Ls (.long y :: .long x :: st)) := by
  subst hp hz
  exact H.via fun t q => XS.land X.here hx rfl hd rfl q
theorem g_lor (pc' : Nat) (X : Stand p l e R s m args below meth c T locs cells slots) (hx : p.tables.exec = Jvm.exec) {x y z : Int64} (hd : decode c.code pc = .ok (.lor, 1)) (hp : pc + 1 = pc') (hz : x ||| y = z) (H : Go p e below s k n Q T (mkF m pc' Ls (.long z :: st))) : Go p e below s k n Q T (mkF m pc Ls (.long y :: .long x :: st)) := by
  subst hp hz
  exact H.via fun t q => XS.lor X.here hx rfl hd rfl q
theorem g_lxor (pc' : Nat) (X : Stand p l e R s m args below meth c T locs cells slots) (hx : p.tables.exec = Jvm.exec) {x y z : Int64} (hd : decode c.code pc = .ok (.lxor, 1)) (hp : pc + 1 = pc') (hz : x ^^^ y = z) (H : Go p e below s k n Q T (mkF m pc' Ls (.long z :: st))) : Go p e below s k n Q T (mkF m pc Ls (.long y :: .long x :: st)) := by
  subst hp hz
  exact H.via fun t q => XS.lxor X.here hx rfl hd rfl q
theorem g_ishl (pc' : Nat) (X : Stand p l e R s m args below meth c T locs cells slots) (hx : p.tables.exec = Jvm.exec) {x y z : Int32} (hd : decode c.code pc = .ok (.ishl, 1)) (hp : pc + 1 = pc') (hz : x <<< (y &&& 31) = z) (H : Go p e below s k n Q T (mkF m pc' Ls (.int z :: st))) : Go p e below s k n Q T (mkF m pc Ls (.int y :: .int x :: st)) := by
  subst hp hz
  exact H.via fun t q => XS.ishl X.here hx rfl hd rfl q
theorem g_ishr (pc' : Nat) (X : Stand p l e R s m args below meth c T locs cells slots) (hx : p.tables.exec = Jvm.exec) {x y z : Int32} (hd : decode c.code pc = .ok (.ishr, 1)) (hp : pc + 1 = pc') (hz : x >>> (y &&& 31) = z) (H : Go p e below s k n Q T (mkF m pc' Ls (.int z :: st))) : Go p e below s k n Q T (mkF m pc Ls (.int y :: .int x :: st)) := by
  subst hp hz
  exact H.via fun t q => XS.ishr X.here hx rfl hd rfl q
theorem g_iushr (pc' : Nat) (X : Stand p l e R s m args below meth c T locs cells slots) (hx : p.tables.exec = Jvm.exec) {x y z : Int32} (hd : decode c.code pc = .ok (.iushr, 1)) (hp : pc + 1 = pc') (hz : (x.toUInt32 >>> (y &&& 31).toUInt32).toInt32 = z) (H : Go p e below s k n Q T (mkF m pc' Ls (.int z :: st))) : Go p e below s k n Q T (mkF m pc Ls (.int y :: .int x :: st)) := by
  subst hp hz
  exact H.via fun t q => XS.iushr X.here hx rfl hd rfl q
theorem g_lshl (pc' : Nat) (X : Stand p l e R s m args below meth c T locs cells slots) (hx : p.tables.exec = Jvm.exec) {x z : Int64} {y : Int32} (hd : decode c.code pc = .ok (.lshl, 1)) (hp : pc + 1 = pc') (hz : x <<< (y &&& 0x3f).toInt64 = z) (H : Go p e below s k n Q T (mkF m pc' Ls (.long z :: st))) : Go p e below s k n Q T (mkF m pc Ls (.int y :: .long x :: st)) := by
  subst hp hz
  exact H.via fun t q => XS.lshl X.here hx rfl hd rfl q
theorem g_lshr (pc' : Nat) (X : Stand p l e R s m args below meth c T locs cells slots) (hx : p.tables.exec = Jvm.exec) {x z : Int64} {y : Int32} (hd : decode c.code pc = .ok (.lshr, 1)) (hp : pc + 1 = pc') (hz : x >>> (y &&& 0x3f).toInt64 = z) (H : Go p e below s k n Q T (mkF m pc' Ls (.long z :: st))) : Go p e below s k n Q T (mkF m pc Ls (.int y :: .long x :: st)) := by
  subst hp hz
  exact H.via fun t q => XS.lshr X.here hx rfl hd rfl q
theorem g_lushr (pc' : Nat) (X : Stand p l e R s m args below meth c T locs cells slots) (hx : p.tables.exec = Jvm.exec) {x z : Int64} {y : Int32} (hd : decode c.code pc = .ok (.lushr, 1)) (hp : pc + 1 = pc') (hz : (x.toUInt64 >>> (y &&& 0x3f).toInt64.toUInt64).toInt64 = z) (H : Go p e below s k n Q T (mkF m pc' Ls (.long z :: st))) : Go p e below s k n Q T (mkF m pc Ls (.int y :: .long x :: st)) := by
  subst hp hz
  exact H.via fun t q => XS.lushr X.here hx rfl hd rfl q
theorem g_idiv (pc' : Nat) (X : Stand p l e R s m args below meth c T locs cells slots) (hx : p.tables.exec = Jvm.exec) {x y z : Int32} (hd : decode c.code pc = .ok (.idiv, 1)) (hp : pc + 1 = pc') (hy : y ≠ 0) (hz : x / y = z) (H : Go p e below s k n Q T (mkF m pc' Ls (.int z :: st))) : Go p e below s k n Q T (mkF m pc Ls (.int y :: .int x :: st)) := by
  subst hp hz
  exact H.via fun t q => XS.idiv X.here hx rfl hd rfl hy q
theorem g_irem (pc' : Nat) (X : Stand p l e R s m args below meth c T locs cells slots) (hx : p.tables.exec = Jvm.exec) {x y z : Int32} (hd : decode c.code pc = .ok (.irem, 1)) (hp : pc + 1 = pc') (hy : y ≠ 0) (hz : x % y = z) (H : Go p e below s k n Q T (mkF m pc' Ls (.int z :: st))) : Go p e below s k n Q T (mkF m pc Ls (.int y :: .int x :: st)) := by
  subst hp hz
  exact H.via fun t q => iremM X hx rfl hd rfl hy q
theorem g_ldiv (pc' : Nat) (X : Stand p l e R s m args below meth c T locs cells slots) (hx : p.tables.exec = Jvm.exec) {x y z : Int64} (hd : decode c.code pc = .ok (.ldiv, 1)) (hp : pc + 1 = pc') (hy : y ≠ 0) (hz : x / y = z) (H : Go p e below s k n Q T (mkF m pc' Ls (.long z :: st))) : Go p e below s k n Q T (mkF m pc Ls (.long y :: .long x :: st)) := by
  subst hp hz
  exact H.via fun t q => XS.ldiv X.here hx rfl hd rfl hy q
theorem g_lrem (pc' : Nat) (X : Stand p l e R s m args below meth c T locs cells slots) (hx : p.tables.exec = Jvm.exec) {x y z : Int64} (hd : decode c.code pc = .ok (.lrem, 1)) (hp : pc + 1 = pc') (hy : y ≠ 0) (hz : x % y = z) (H : Go p e below s k n Q T (mkF m pc' Ls (.long z :: st))) : Go p e below s k n Q T (mkF m pc Ls (.long y :: .long x :: st)) := by
  subst hp hz
  exact H.via fun t q => XS.lrem X.here hx rfl hd rfl hy (by rw [lrem_mod]; exact q)
theorem g_ineg (pc' : Nat) (X : Stand p l e R s m args below meth c T locs cells slots) (hx : p.tables.exec = Jvm.exec) {x : Int32} {z : Int32} (hd : decode c.code pc = .ok (.ineg, 1)) (hp : pc + 1 = pc') (hz : -x = z) (H : Go p e below s k n Q T (mkF m pc' Ls (.int z :: st))) : Go p e below s k n Q T (mkF m pc Ls (.int x :: st)) := by
  subst hp hz
  exact H.via fun t q => XS.ineg X.here hx rfl hd rfl q
theorem g_lneg (pc' : Nat) (X : Stand p l e R s m args below meth c T locs cells slots) (hx : p.tables.exec = Jvm.exec) {x : Int64} {z : Int64} (hd : decode c.code pc = .ok (.lneg, 1)) (hp : pc + 1 = pc') (hz : -x = z) (H : Go p e below s k n Q T (mkF m pc' Ls (.long z :: st))) : Go p e below s k n Q T (mkF m pc Ls (.long x :: st)) := by
  subst hp hz
  exact H.via fun t q => XS.lneg X.here hx rfl hd rfl q
theorem g_i2l (pc' : Nat) (X : Stand p l e R s m args below meth c T locs cells slots) (hx : p.tables.exec = Jvm.exec) {x : Int32} {z : Int64} (hd : decode c.code pc = .ok (.i2l, 1)) (hp : pc + 1 = pc') (hz : x.toInt64 = z) (H : Go p e below s k n Q T (mkF m pc' Ls (.long z :: st))) : Go p e below s k n Q T (mkF m pc Ls (.int x :: st)) := by
  subst hp hz
  exact H.via fun t q => XS.i2l X.here hx rfl hd rfl q
theorem g_l2i (pc' : Nat) (X : Stand p l e R s m args below meth c T locs cells slots) (hx : p.tables.exec = Jvm.exec) {x : Int64} {z : Int32} (hd : decode c.code pc = .ok (.l2i, 1)) (hp : pc + 1 = pc') (hz : x.toInt32 = z) (H : Go p e below s k n Q T (mkF m pc' Ls (.int z :: st))) : Go p e below s k n Q T (mkF m pc Ls (.long x :: st)) := by
  subst hp hz
  exact H.via fun t q => XS.l2i X.here hx rfl hd rfl q
theorem g_i2b (pc' : Nat) (X : Stand p l e R s m args below meth c T locs cells slots) (hx : p.tables.exec = Jvm.exec) {x : Int32} {z : Int32} (hd : decode c.code pc = .ok (.i2b, 1)) (hp : pc + 1 = pc') (hz : x.toInt8.toInt32 = z) (H : Go p e below s k n Q T (mkF m pc' Ls (.int z :: st))) : Go p e below s k n Q T (mkF m pc Ls (.int x :: st)) := by
  subst hp hz
  exact H.via fun t q => XS.i2b X.here hx rfl hd rfl q
theorem g_i2s (pc' : Nat) (X : Stand p l e R s m args below meth c T locs cells slots) (hx : p.tables.exec = Jvm.exec) {x : Int32} {z : Int32} (hd : decode c.code pc = .ok (.i2s, 1)) (hp : pc + 1 = pc') (hz : x.toInt16.toInt32 = z) (H : Go p e below s k n Q T (mkF m pc' Ls (.int z :: st))) : Go p e below s k n Q T (mkF m pc Ls (.int x :: st)) := by
  subst hp hz
  exact H.via fun t q => XS.i2s X.here hx rfl hd rfl q
theorem g_i2c (pc' : Nat) (X : Stand p l e R s m args below meth c T locs cells slots) (hx : p.tables.exec = Jvm.exec) {x : Int32} {z : Int32} (hd : decode c.code pc = .ok (.i2c, 1)) (hp : pc + 1 = pc') (hz : x.toUInt32.toUInt16.toUInt32.toInt32 = z) (H : Go p e below s k n Q T (mkF m pc' Ls (.int z :: st))) : Go p e below s k n Q T (mkF m pc Ls (.int x :: st)) := by
  subst hp hz
  exact H.via fun t q => XS.i2c X.here hx rfl hd rfl q
theorem g_dup (pc' : Nat) (X : Stand p l e R s m args below meth c T locs cells slots) (hx : p.tables.exec = Jvm.exec) {v : Value} (hd : decode c.code pc = .ok (.dup, 1)) (hp : pc + 1 = pc') (hv : v.category = 1) (H : Go p e below s k n Q T (mkF m pc' Ls (v :: v :: st))) : Go p e below s k n Q T (mkF m pc Ls (v :: st)) := by
  subst hp
  exact H.via fun t q => XS.dup X.here hx rfl hd rfl hv q
theorem g_pop (pc' : Nat) (X : Stand p l e R s m args below meth c T locs cells slots) (hx : p.tables.exec = Jvm.exec) {v : Value} (hd : decode c.code pc = .ok (.pop, 1)) (hp : pc + 1 = pc') (hv : v.category = 1) (H : Go p e below s k n Q T (mkF m pc' Ls st)) : Go p e below s k n Q T (mkF m pc Ls (v :: st)) := by
  subst hp
  exact H.via fun t q => XS.pop X.here hx rfl hd rfl hv q
theorem g_dup_x1 (pc' : Nat) (X : Stand p l e R s m args below meth c T locs cells slots) (hx : p.tables.exec = Jvm.exec) {v w : Value} (hd : decode c.code pc = .ok (.dup_x1, 1)) (hp : pc + 1 = pc') (hv : v.category = 1) (hw : w.category = 1) (H : Go p e below s k n Q T (mkF m pc' Ls (v :: w :: v :: st))) : Go p e below s k n Q T (mkF m pc Ls (v :: w :: st)) := by
  subst hp
  exact H.via fun t q => XS.dupX1 X.here hx rfl hd rfl hv hw q
theorem g_dup2 (pc' : Nat) (X : Stand p l e R s m args below meth c T locs cells slots) (hx : p.tables.exec = Jvm.exec) {v w : Value} (hd : decode c.code pc = .ok (.dup2, 1)) (hp : pc + 1 = pc') (hv : v.category = 1) (hw : w.category = 1) (H : Go p e below s k n Q T (mkF m pc' Ls (v :: w :: v :: w :: st))) : Go p e below s k n Q T (mkF m pc Ls (v :: w :: st)) := by
  subst hp
  exact H.via fun t q => XT.dup2 X.here hx rfl hd rfl hv hw q
theorem g_iinc (pc' : Nat) (X : Stand p l e R s m args below meth c T locs cells slots) (hx : p.tables.exec = Jvm.exec) {i : Nat} {cst : Int} {x z : Int32} {Ls' : Array Slot} (hd : decode c.code pc = .ok (.iinc i cst, 3)) (hp : pc + 3 = pc') (hl : Ls[i]? = some (.val (.int x))) (hz : x + Int32.ofInt cst = z) (hl' : storeLocals Ls i (.int z) = some Ls') (H : Go p e below s k n Q T (mkF m pc' Ls' st)) : Go p e below s k n Q T (mkF m pc Ls st) := by
  subst hp hz
  exact H.via fun t q => XS.iinc X.here hx rfl hd hl hl' q
theorem g_goto (pc' : Nat) (X : Stand p l e R s m args below meth c T locs cells slots) (hx : p.tables.exec = Jvm.exec) {o : Int} (hd : decode c.code pc = .ok (.goto o, 3)) (ho : 0 ≤ (pc : Int) + o) (hp : ((pc : Int) + o).toNat = pc') (H : Go p e below s k n Q T (mkF m pc' Ls st)) : Go p e below s k n Q T (mkF m pc Ls st) :=
  H.via fun t q => XS.goto X.here hx rfl rfl hd ho hp q
theorem g_ifYes (pc' : Nat) (X : Stand p l e R s m args below meth c T locs cells slots) (hx : p.tables.exec = Jvm.exec) {cd : ClassFile.Cond} {x : Int32} {o : Int} (hd : decode c.code pc = .ok (.ifCond cd o, 3)) (hc : ifCond.holds cd x = true) (ho : 0 ≤ (pc : Int) + o) (hp : ((pc : Int) + o).toNat = pc') (H : Go p e below s k n Q T (mkF m pc' Ls st)) : Go p e below s k n Q T (mkF m pc Ls (.int x :: st)) :=
  H.via fun t q => XS.ifYes X.here hx rfl rfl hd rfl hc ho hp q
theorem g_ifNo (pc' : Nat) (X : Stand p l e R s m args below meth c T locs cells slots) (hx : p.tables.exec = Jvm.exec) {cd : ClassFile.Cond} {x : Int32} {o : Int} (hd : decode c.code pc = .ok (.ifCond cd o, 3)) (hc : ifCond.holds cd x = false) (hp : pc + 3 = pc') (H : Go p e below s k n Q T (mkF m pc' Ls st)) : Go p e below s k n Q T (mkF m pc Ls (.int x :: st)) := by
  subst hp
  exact H.via fun t q => XS.ifNo X.here hx rfl hd rfl hc q
theorem g_icmpYes (pc' : Nat) (X : Stand p l e R s m args below meth c T locs cells slots) (hx : p.tables.exec = Jvm.exec) {cd : ClassFile.Cond} {x y : Int32} {o : Int} (hd : decode c.code pc = .ok (.if_icmp cd o, 3)) (hc : if_icmp.holds cd x y = true) (ho : 0 ≤ (pc : Int) + o) (hp : ((pc : Int) + o).toNat = pc') (H : Go p e below s k n Q T (mkF m pc' Ls st)) : Go p e below s k n Q T (mkF m pc Ls (.int y :: .int x :: st)) :=
  H.via fun t q => XS.icmpYes X.here hx rfl rfl hd rfl hc ho hp q
theorem g_icmpNo (pc' : Nat) (X : Stand p l e R s m args below meth c T locs cells slots) (hx : p.tables.exec = Jvm.exec) {cd : ClassFile.Cond} {x y : Int32} {o : Int} (hd : decode c.code pc = .ok (.if_icmp cd o, 3)) (hc : if_icmp.holds cd x y = false) (hp : pc + 3 = pc') (H : Go p e below s k n Q T (mkF m pc' Ls st)) : Go p e below s k n Q T (mkF m pc Ls (.int y :: .int x :: st)) := by
  subst hp
  exact H.via fun t q => XS.icmpNo X.here hx rfl hd rfl hc q
theorem g_lcmpYes (pc' : Nat) (X : Stand p l e R s m args below meth c T locs cells slots) (hx : p.tables.exec = Jvm.exec) {cd : ClassFile.Cond} {x y : Int64} {o : Int} {pc1 : Nat} (hd : decode c.code pc = .ok (.lcmp, 1)) (hp1 : pc + 1 = pc1) (hd' : decode c.code pc1 = .ok (.ifCond cd o, 3)) (hc : ifCond.holds cd (lcmpW x y) = true) (ho : 0 ≤ (pc1 : Int) + o) (hp : ((pc1 : Int) + o).toNat = pc') (H : Go p e below s k n Q T (mkF m pc' Ls st)) : Go p e below s k n Q T (mkF m pc Ls (.long y :: .long x :: st)) := by
  subst hp1
  exact H.via fun t q => XS.lcmp X.here hx rfl hd rfl (XS.ifYes X.here hx rfl rfl hd' rfl hc ho hp q)
theorem g_lcmpNo (pc' : Nat) (X : Stand p l e R s m args below meth c T locs cells slots) (hx : p.tables.exec = Jvm.exec) {cd : ClassFile.Cond} {x y : Int64} {o : Int} {pc1 : Nat} (hd : decode c.code pc = .ok (.lcmp, 1)) (hp1 : pc + 1 = pc1) (hd' : decode c.code pc1 = .ok (.ifCond cd o, 3)) (hc : ifCond.holds cd (lcmpW x y) = false) (hp : pc1 + 3 = pc') (H : Go p e below s k n Q T (mkF m pc' Ls st)) : Go p e below s k n Q T (mkF m pc Ls (.long y :: .long x :: st)) := by
  subst hp1; subst hp
  exact H.via fun t q => XS.lcmp X.here hx rfl hd rfl (XS.ifNo X.here hx rfl hd' rfl hc q)
theorem g_ifnullYes (pc' : Nat) (X : Stand p l e R s m args below meth c T locs cells slots) (hx : p.tables.exec = Jvm.exec) {b : Addr} {o : Int} (hd : decode c.code pc = .ok (.ifnull o, 3)) (ho : 0 ≤ (pc : Int) + o) (hp : ((pc : Int) + o).toNat = pc') (H : Go p e below s k n Q T (mkF m pc' Ls st)) : Go p e below s k n Q T (mkF m pc Ls (.null :: st)) :=
  H.via fun t q => XS.ifnullYes X.here hx rfl rfl hd rfl ho hp q
theorem g_ifnullNo (pc' : Nat) (X : Stand p l e R s m args below meth c T locs cells slots) (hx : p.tables.exec = Jvm.exec) {b : Addr} {o : Int} (hd : decode c.code pc = .ok (.ifnull o, 3)) (hp : pc + 3 = pc') (H : Go p e below s k n Q T (mkF m pc' Ls st)) : Go p e below s k n Q T (mkF m pc Ls (.ref b :: st)) := by
  subst hp
  exact H.via fun t q => XS.ifnullNo X.here hx rfl hd rfl q
theorem g_ifnonnullYes (pc' : Nat) (X : Stand p l e R s m args below meth c T locs cells slots) (hx : p.tables.exec = Jvm.exec) {b : Addr} {o : Int} (hd : decode c.code pc = .ok (.ifnonnull o, 3)) (ho : 0 ≤ (pc : Int) + o) (hp : ((pc : Int) + o).toNat = pc') (H : Go p e below s k n Q T (mkF m pc' Ls st)) : Go p e below s k n Q T (mkF m pc Ls (.ref b :: st)) :=
  H.via fun t q => XS.ifnonnullYes X.here hx rfl rfl hd rfl ho hp q
theorem g_ifnonnullNo (pc' : Nat) (X : Stand p l e R s m args below meth c T locs cells slots) (hx : p.tables.exec = Jvm.exec) {b : Addr} {o : Int} (hd : decode c.code pc = .ok (.ifnonnull o, 3)) (hp : pc + 3 = pc') (H : Go p e below s k n Q T (mkF m pc' Ls st)) : Go p e below s k n Q T (mkF m pc Ls (.null :: st)) := by
  subst hp
  exact H.via fun t q => XS.ifnonnullNo X.here hx rfl hd rfl q
theorem g_ldc (pc' : Nat) (X : Stand p l e R s m args below meth c T locs cells slots) (hx : p.tables.exec = Jvm.exec) (hZ : Z.Warmed39 s.vm) {own : String} {index : Nat} {z : Int32} (hown : s.vm.findClass own = some m.cls) (w : (Cond.constant own index z).before a0 Z = true) (hd : decode c.code pc = .ok (.ldc index, 2)) (hp : pc + 2 = pc') (H : Go p e below s k n Q T (mkF m pc' Ls (.int z :: st))) : Go p e below s k n Q T (mkF m pc Ls st) := by
  subst hp
  exact H.via fun t q => X.ldcInt hx hown (mvT hZ w) (g := mkF m pc Ls st) rfl hd t q
theorem g_ldc2 (pc' : Nat) (X : Stand p l e R s m args below meth c T locs cells slots) (hx : p.tables.exec = Jvm.exec) (hZ : Z.Warmed39 s.vm) {own : String} {index : Nat} {z : Int64} (hown : s.vm.findClass own = some m.cls) (w : (Cond.constantLong own index z).before a0 Z = true) (hd : decode c.code pc = .ok (.ldc2_w index, 3)) (hp : pc + 3 = pc') (H : Go p e below s k n Q T (mkF m pc' Ls (.long z :: st))) : Go p e below s k n Q T (mkF m pc Ls st) := by
  subst hp
  exact H.via fun t q => X.ldc2Long hx hown (mvT hZ w) (g := mkF m pc Ls st) rfl hd t q
theorem g_retI (X : Stand p l e R s m args below meth c T locs cells slots) (hx : p.tables.exec = Jvm.exec) (hret : meth.sig.returnType = some .int) (hlk : meth.locks = false) {z : Int32} (hd : decode c.code pc = .ok (.ireturn, 1)) (hk : cells ≤ k) (hn : slots ≤ n) (hQ : Q (some (.int z)) T.heap locs) : Go p e below s k n Q T (mkF m pc Ls (.int z :: st)) := by
  obtain ⟨fs, hr, hrun, hended, hW, hsame⟩ := X.leave (v := some (.int z)) (fun q => by rw [hret] at q; cases q) hlk
  exact ⟨_, _, retOut X hx hret rfl (Or.inl ⟨rfl, Or.inl rfl, z, rfl⟩) hd hr, hrun, hended, _, _, rfl, hQ, ⟨_, rfl⟩, hW, hsame.mono hk hn⟩
theorem g_retJ (X : Stand p l e R s m args below meth c T locs cells slots) (hx : p.tables.exec = Jvm.exec) (hret : meth.sig.returnType = some .long) (hlk : meth.locks = false) {z : Int64} (hd : decode c.code pc = .ok (.lreturn, 1)) (hk : cells ≤ k) (hn : slots ≤ n) (hQ : Q (some (.long z)) T.heap locs) : Go p e below s k n Q T (mkF m pc Ls (.long z :: st)) := by
  obtain ⟨fs, hr, hrun, hended, hW, hsame⟩ := X.leave (v := some (.long z)) (fun q => by rw [hret] at q; cases q) hlk
  exact ⟨_, _, retOut X hx hret rfl (Or.inr (Or.inl ⟨rfl, rfl, z, rfl⟩)) hd hr, hrun, hended, _, _, rfl, hQ, ⟨_, rfl⟩, hW, hsame.mono hk hn⟩
theorem g_retA {ty : FieldType} (X : Stand p l e R s m args below meth c T locs cells slots) (hx : p.tables.exec = Jvm.exec) (hret : meth.sig.returnType = some ty) (hlk : meth.locks = false) {v : Value} (hty : ty.isReference = true) (hv : v.isRef = true) (hnv : narrow ty v = v) (hd : decode c.code pc = .ok (.areturn, 1)) (hk : cells ≤ k) (hn : slots ≤ n) (hQ : Q (some v) T.heap locs) : Go p e below s k n Q T (mkF m pc Ls (v :: st)) := by
  obtain ⟨fs, hr, hrun, hended, hW, hsame⟩ := X.leave (v := some v) (fun q => by rw [hret] at q; cases q) hlk
  exact ⟨_, _, retOut X hx hret hnv (Or.inr (Or.inr (Or.inr (Or.inr ⟨rfl, hty, hv⟩)))) hd hr, hrun, hended, _, _, rfl, hQ, ⟨_, rfl⟩, hW, hsame.mono hk hn⟩
theorem g_ret0 (X : Stand p l e R s m args below meth c T locs cells slots) (hx : p.tables.exec = Jvm.exec) (hret : meth.sig.returnType = none) (hlk : meth.locks = false) (hd : decode c.code pc = .ok (.return_, 1)) (hk : cells ≤ k) (hn : slots ≤ n) (hQ : Q (none) T.heap locs) : Go p e below s k n Q T (mkF m pc Ls []) := by
  obtain ⟨fs, hr, hrun, hended, hW, hsame⟩ := X.leave (v := none) (fun _ => rfl) hlk
  exact ⟨_, _, X.returnOut hx hret hd hr, hrun, hended, _, _, rfl, hQ, ⟨_, rfl⟩, hW, hsame.mono hk hn⟩
theorem g_retN (X : Stand p l e R s m args below meth c T locs cells slots) (hx : p.tables.exec = Jvm.exec) {t : FieldType} (hret : meth.sig.returnType = some t) (hlk : meth.locks = false) {z z' : Int32} (ht : t = .boolean ∨ t = .byte ∨ t = .char ∨ t = .short) (hz : nar t z = z') (hd : decode c.code pc = .ok (.ireturn, 1)) (hk : cells ≤ k) (hn : slots ≤ n) (hQ : Q (some (.int z')) T.heap locs) : Go p e below s k n Q T (mkF m pc Ls (.int z :: st)) := by
  subst hz
  obtain ⟨fs, hr, hrun, hended, hW, hsame⟩ := X.leave (v := some (.int (nar t z))) (fun q => by rw [hret] at q; cases q) hlk
  exact ⟨_, _, retN X hx hret ht hd hr, hrun, hended, _, _, rfl, hQ, ⟨_, rfl⟩, hW, hsame.mono hk hn⟩
theorem g_getF (pc' : Nat) (X : Stand p l e R s m args below meth c T locs cells slots) (hx : p.tables.exec = Jvm.exec) (hZ : Z.Warmed39 s.vm) {own R0 O nm d : String} {index : Nat} (hown : s.vm.findClass own = some m.cls) (w : (Cond.fieldLink own index R0 nm d).before a0 Z = true) (via : Via Z R0 O nm d) (eT : T.heap = h) {a : Addr} {v : Value} (F : Fld Z h a O nm d v) (hd : decode c.code pc = .ok (.getfield index, 3)) (hp : pc + 3 = pc') (H : ∀ T', Stand p l e R s m args below meth c T' locs cells slots → T'.heap = h → Go p e below s k n Q T' (mkF m pc' Ls (v :: st))) : Go p e below s k n Q T (mkF m pc Ls (.ref a :: st)) := by
  subst hp
  obtain ⟨T', X', e', q⟩ := getF X hx hZ hown (host := "") (Or.inl w) via eT F (g := mkF m pc Ls (.ref a :: st)) rfl rfl hd
  exact (H T' X' e').via q
theorem g_putF (pc' : Nat) (X : Stand p l e R s m args below meth c T locs cells slots) (hx : p.tables.exec = Jvm.exec) (hZ : Z.Warmed39 s.vm) {own R0 O nm d C : String} {index kk : Nat} {ty : FieldType} (hown : s.vm.findClass own = some m.cls) (w : (Cond.fieldLink own index R0 nm d).before a0 Z = true) (via : Via Z R0 O nm d) (eT : T.heap = h) {a : Addr} {v old : Value} (F : Fld Z h a O nm d old) (E : Exa Z h a C) (L : (Cond.lays C O nm d).before a0 Z = true ∨ ((Cond.laysFinal C O nm d).before a0 Z = true ∧ own = O ∧ meth.name = "<init>")) (wi : (Cond.instantiable C kk).before a0 Z = true) (hty : parseFieldDescriptor d = some ty) (hn : narrow ty v = v) (hf : fits ty v = true) (hd : decode c.code pc = .ok (.putfield index, 3)) (hp : pc + 3 = pc') (H : ∀ T' h', Stand p l e R s m args below meth c T' (locs ++ [⟨a, Jvm.RoadKit.slotOf Z O nm d⟩]) cells slots → T'.heap = h' → Wr h h' a (Jvm.RoadKit.slotOf Z O nm d) v → Go p e below s k n Q T' (mkF m pc' Ls st)) : Go p e below s k n Q T (mkF m pc Ls (v :: .ref a :: st)) := by
  subst hp
  obtain ⟨T', h', X', e', W, q⟩ := putF X hx hZ hown (host := "") (Or.inl w) via eT F E L wi hty hn hf (g := mkF m pc Ls (v :: .ref a :: st)) rfl rfl hd
  exact (H T' h' X' e' W).via q
theorem g_newO (pc' : Nat) (X : Stand p l e R s m args below meth c T locs cells slots) (hx : p.tables.exec = Jvm.exec) (hZ : Z.Warmed39 s.vm) {own C : String} {index nn : Nat} (hown : s.vm.findClass own = some m.cls) (w : (Cond.classLink own index C).before a0 Z = true) (wi : (Cond.instantiable C nn).before a0 Z = true) (wz : (Cond.initialized C).before a0 Z = true) (eT : T.heap = h) (hd : decode c.code pc = .ok (.new index, 3)) (hc : cells + 1 ≤ R.cells) (hl : slots + nn ≤ R.slots) (hp : pc + 3 = pc') (H : ∀ T' h' b, Stand p l e R s m args below meth c T' locs (cells + 1) (slots + nn) → T'.heap = h' → Ext h h' → b = h.size → Exa Z h' b C → (∀ {O nm d : String} {ty : FieldType}, Laid Z a0 C O nm d → parseFieldDescriptor d = some ty → Fld Z h' b O nm d (defaultValue ty)) → Go p e below s k n Q T' (mkF m pc' Ls (.ref b :: st))) : Go p e below s k n Q T (mkF m pc Ls st) := by
  subst hp
  obtain ⟨T', h', X', e', E, A, D, -, q⟩ := newO X hx hZ hown w wi wz eT (g := mkF m pc Ls st) rfl hd hc hl
  exact (H T' h' _ X' e' E rfl A D).via q
theorem g_initO (pc' : Nat) (X : Stand p l e R s m args below meth c T locs cells slots) (hx : p.tables.exec = Jvm.exec) (hZ : Z.Warmed39 s.vm) {own : String} {idx : Nat} (hown : s.vm.findClass own = some m.cls) (w1 : (Cond.methodLink own idx Lib.objectInit).before a0 Z = true) (w2 : (Cond.instanceMethod Lib.objectInit).before a0 Z = true) (w3 : (Cond.code Lib.objectInit ⟨#[0xb1]⟩ 1 none).before a0 Z = true) (eT : T.heap = h) (hsize : Ls.size = c.maxLocals) {a : Addr} (hd : decode c.code pc = .ok (.invokespecial idx, 3)) (hf : 1 ≤ R.frames) (W : Nat) (hW : (st.map fun v => v.category).sum ≤ W) (hl : W + 12 ≤ R.locals) (hp : pc + 3 = pc') (H : ∀ T', Stand p l e R s m args below meth c T' locs cells slots → T'.heap = h → Go p e below s k n Q T' (mkF m pc' Ls st)) : Go p e below s k n Q T (mkF m pc Ls (.ref a :: st)) := by
  subst hp
  obtain ⟨T', X', e', q⟩ := initO X hx hZ hown w1 w2 w3 eT (g := mkF m pc Ls (.ref a :: st)) rfl hsize rfl hd hf (W := W) (by show 2 * 0 + _ ≤ _; omega) hl
  exact (H T' X' e').via q
theorem g_callS (pc' : Nat) (X : Stand p l e R s m args below meth c T locs cells slots) (hx : p.tables.exec = Jvm.exec) (hZ : Z.Warmed39 s.vm) {own : String} {index : Nat} {y : MethodName} {bytes : ByteArray} {maxL : Nat} {ret : Option FieldType} {rm : Room} {as' : Array Value} {Qc : Option Value → Heap → List Loc → Prop} (hown : s.vm.findClass own = some m.cls) (w1 : (Cond.methodLink own index y).before a0 Z = true) (w2 : (Cond.static y).before a0 Z = true) (w3 : (Cond.initialized y.cls).before a0 Z = true) (w4 : (Cond.code y bytes maxL ret).before a0 Z = true) (hy : y.cls ≠ "java/lang/invoke/MethodHandle" ∧ y.cls ≠ "java/lang/invoke/VarHandle") (eT : T.heap = h) (hM : MetFree l y (head1 [Cond.code y bytes maxL ret] rm) (fun a U => a = as' ∧ Z.Warmed39 U.vm ∧ U.heap = h) (fun _ _ _ _ _ => True) (fun _ U o U' => ∃ v L, o = .returned v ∧ Qc v U'.heap L ∧ FrameEnd U o U' L rm.cells rm.slots)) (hsize : Ls.size = c.maxLocals) (argsL rest : List Value) (ha : argsL.toArray = as') (hst : st = argsL.reverse ++ rest) (hlen : ∀ sig, parseMethodDescriptor y.desc = some sig → argsL.length = sig.parameters.length) (W : Nat) (hW : (rest.map fun v => v.category).sum ≤ W) (hd : decode c.code pc = .ok (.invokestatic index, 3)) (hfr : rm.frames + 1 ≤ R.frames) (hlo : W + (maxL + 11) + rm.locals ≤ R.locals) (hce : cells + rm.cells ≤ R.cells) (hsl : slots + rm.slots ≤ R.slots) (hp : pc + 3 = pc') (H : ∀ v T' L, Stand p l e R s m args below meth c T' (locs ++ L) (cells + rm.cells) (slots + rm.slots) → Qc v T'.heap L → Go p e below s k n Q T' (mkF m pc' Ls (v.toList ++ rest))) : Go p e below s k n Q T (mkF m pc Ls st) := by
  subst hp hst
  obtain ⟨v, _, ⟨T', L, k', n'⟩, -, X', ⟨Lc, hQ, l1, l2, l3⟩, q⟩ := Jvm.LawKit.callS X hx (y := y) hown (mvT hZ w1) (mvT hZ w2) (mvT hZ w3) (mvT hZ w4) hy (backOf (W := W) hM hZ w4 w3 hfr hlo) (g := mkF m pc Ls (argsL.reverse ++ rest)) rfl hsize (argsL := argsL) (rest := rest) hlen rfl (by show 2 * 0 + _ ≤ _; omega) hd (fun _ _ => ⟨ha, eT, hce, hsl⟩)
  dsimp only [Pt.U, Pt.locs, Pt.cells, Pt.slots] at X' l1 l2 l3 q hQ
  subst l1 l2 l3
  exact (H v T' Lc X' hQ).via q
theorem g_callI (pc' : Nat) (X : Stand p l e R s m args below meth c T locs cells slots) (hx : p.tables.exec = Jvm.exec) (hZ : Z.Warmed39 s.vm) {own : String} {index : Nat} {y : MethodName} {bytes : ByteArray} {maxL : Nat} {rm : Room} {as' : Array Value} {Qc : Option Value → Heap → List Loc → Prop} (hy1 : y.name = "<init>") (hown : s.vm.findClass own = some m.cls) (w1 : (Cond.methodLink own index y).before a0 Z = true) (w2 : (Cond.instanceMethod y).before a0 Z = true) (w3 : (Cond.initialized y.cls).before a0 Z = true) (w4 : (Cond.code y bytes maxL none).before a0 Z = true) (hy : y.cls ≠ "java/lang/invoke/MethodHandle" ∧ y.cls ≠ "java/lang/invoke/VarHandle") (eT : T.heap = h) (hM : MetFree l y (head1 [Cond.code y bytes maxL none] rm) (fun a U => a = as' ∧ Z.Warmed39 U.vm ∧ U.heap = h) (fun _ _ _ _ _ => True) (fun _ U o U' => ∃ v L, o = .returned v ∧ Qc v U'.heap L ∧ FrameEnd U o U' L rm.cells rm.slots)) (hsize : Ls.size = c.maxLocals) (a : Addr) (argsL rest : List Value) (ha : (.ref a :: argsL).toArray = as') (hst : st = argsL.reverse ++ .ref a :: rest) (hlen : ∀ sig, parseMethodDescriptor y.desc = some sig → argsL.length = sig.parameters.length) (W : Nat) (hW : (rest.map fun v => v.category).sum ≤ W) (hd : decode c.code pc = .ok (.invokespecial index, 3)) (hfr : rm.frames + 1 ≤ R.frames) (hlo : W + (maxL + 11) + rm.locals ≤ R.locals) (hce : cells + rm.cells ≤ R.cells) (hsl : slots + rm.slots ≤ R.slots) (hp : pc + 3 = pc') (H : ∀ v T' L, Stand p l e R s m args below meth c T' (locs ++ L) (cells + rm.cells) (slots + rm.slots) → Qc v T'.heap L → Go p e below s k n Q T' (mkF m pc' Ls (v.toList ++ rest))) : Go p e below s k n Q T (mkF m pc Ls st) := by
  subst hp hst
  obtain ⟨v, _, ⟨T', L, k', n'⟩, -, X', ⟨Lc, hQ, l1, l2, l3⟩, q⟩ := X.specialBack hx (y := y) hy1 hown (mvT hZ w1) (mvT hZ w2) (mvT hZ w4) hy (backOf (W := W) hM hZ w4 w3 hfr hlo) (g := mkF m pc Ls (argsL.reverse ++ .ref a :: rest)) rfl hsize (Steps.refl _) (a := a) (argsL := argsL) (rest := rest) hlen rfl (by show 2 * 0 + _ ≤ _; omega) hd (fun _ _ => ⟨ha, eT, hce, hsl⟩)
  dsimp only [Pt.U, Pt.locs, Pt.cells, Pt.slots] at X' l1 l2 l3 q hQ
  subst l1 l2 l3
  exact (H v T' Lc X' hQ).via fun t r => q.trans r
theorem g_callV (pc' : Nat) (X : Stand p l e R s m args below meth c T locs cells slots) (hx : p.tables.exec = Jvm.exec) (hZ : Z.Warmed39 s.vm) {own : String} {index : Nat} {y : MethodName} {bytes : ByteArray} {maxL : Nat} {ret : Option FieldType} {rm : Room} {as' : Array Value} {Qc : Option Value → Heap → List Loc → Prop} (hown : s.vm.findClass own = some m.cls) (w1 : (Cond.methodLink own index y).before a0 Z = true) (w2 : (Cond.declares y).before a0 Z = true) (w5 : (Cond.selects y.cls y y).before a0 Z = true) (w6 : (Cond.instanceMethod y).before a0 Z = true) (w3 : (Cond.initialized y.cls).before a0 Z = true) (w4 : (Cond.code y bytes maxL ret).before a0 Z = true) (hy : y.cls ≠ "java/lang/invoke/MethodHandle" ∧ y.cls ≠ "java/lang/invoke/VarHandle") (eT : T.heap = h) {a : Addr} (E : Exa Z h a y.cls) (hM : MetFree l y (head1 [Cond.code y bytes maxL ret] rm) (fun a U => a = as' ∧ Z.Warmed39 U.vm ∧ U.heap = h) (fun _ _ _ _ _ => True) (fun _ U o U' => ∃ v L, o = .returned v ∧ Qc v U'.heap L ∧ FrameEnd U o U' L rm.cells rm.slots)) (hsize : Ls.size = c.maxLocals) (argsL rest : List Value) (ha : (.ref a :: argsL).toArray = as') (hst : st = argsL.reverse ++ .ref a :: rest) (hlen : ∀ sig, parseMethodDescriptor y.desc = some sig → argsL.length = sig.parameters.length) (W : Nat) (hW : (rest.map fun v => v.category).sum ≤ W) (hd : decode c.code pc = .ok (.invokevirtual index, 3)) (hfr : rm.frames + 1 ≤ R.frames) (hlo : W + (maxL + 11) + rm.locals ≤ R.locals) (hce : cells + rm.cells ≤ R.cells) (hsl : slots + rm.slots ≤ R.slots) (hp : pc + 3 = pc') (H : ∀ v T' L, Stand p l e R s m args below meth c T' (locs ++ L) (cells + rm.cells) (slots + rm.slots) → Qc v T'.heap L → Go p e below s k n Q T' (mkF m pc' Ls (v.toList ++ rest))) : Go p e below s k n Q T (mkF m pc Ls st) := by
  subst hp hst
  obtain ⟨cq, kq, qa, qb, qc⟩ := isOf hZ eT E
  obtain ⟨v, _, ⟨T', L, k', n'⟩, -, X', ⟨Lc, hQ, l1, l2, l3⟩, q⟩ := X.virtualBack hx (y := y) (z := y) hown (mvT hZ w1) (mvT hZ w2) (notFace_of_selects (args := #[]) (mvT hZ w5)) (mvT hZ w5) (mvT hZ w6) hy (backOf (W := W) hM hZ w4 w3 hfr hlo) qa qc (g := mkF m pc Ls (argsL.reverse ++ .ref a :: rest)) rfl hsize (Steps.refl _) (argsL := argsL) (rest := rest) hlen rfl (by show 2 * 0 + _ ≤ _; omega) hd (fun _ _ => ⟨ha, eT, hce, hsl⟩)
  dsimp only [Pt.U, Pt.locs, Pt.cells, Pt.slots] at X' l1 l2 l3 q hQ
  subst l1 l2 l3
  exact (H v T' Lc X' hQ).via fun t r => q.trans r
/-- an array of ints (bytes, chars, shorts, booleans) at a, whole -/
def AI (Z : State) (h : Heap) (a : Addr) (ty : FieldType) (bs : List Int32) : Prop := ∃ c : Cell, Arr Z h a c ty ∧ c.slots = (bs.map Value.int).toArray ∧ bs.length < 2 ^ 31
/-- an array of longs at a, whole -/
def AJ (Z : State) (h : Heap) (a : Addr) (bs : List Int64) : Prop := ∃ c : Cell, Arr Z h a c .long ∧ c.slots = (bs.map Value.long).toArray ∧ bs.length < 2 ^ 31
theorem AI.lt {a : Addr} {ty : FieldType} {bs : List Int32} (A : AI Z h a ty bs) : a < h.size := by obtain ⟨c, A, -⟩ := A; exact A.lt
theorem AI.ext {a : Addr} {ty : FieldType} {bs : List Int32} (A : AI Z h a ty bs) (E : Ext h h') : AI Z h' a ty bs := by obtain ⟨c, A, r⟩ := A; exact ⟨c, A.ext E, r⟩
theorem AI.other {a b : Addr} {ty : FieldType} {bs : List Int32} {sl : Nat} {v : Value} (A : AI Z h b ty bs) (W : Wr h h' a sl v) (q : b ≠ a) : AI Z h' b ty bs := by obtain ⟨c, A, r⟩ := A; exact ⟨c, A.other W q, r⟩
theorem AI.keep {a : Addr} {ty : FieldType} {bs : List Int32} {ws : List Addr} (A : AI Z h a ty bs) (K : Keep h h' ws) (q : a ∉ ws) : AI Z h' a ty bs := by obtain ⟨c, A, r⟩ := A; exact ⟨c, ⟨K.2.1 a c A.1 q, A.2⟩, r⟩
theorem AJ.lt {a : Addr} {bs : List Int64} (A : AJ Z h a bs) : a < h.size := by obtain ⟨c, A, -⟩ := A; exact A.lt
theorem AJ.ext {a : Addr} {bs : List Int64} (A : AJ Z h a bs) (E : Ext h h') : AJ Z h' a bs := by obtain ⟨c, A, r⟩ := A; exact ⟨c, A.ext E, r⟩
theorem AJ.other {a b : Addr} {bs : List Int64} {sl : Nat} {v : Value} (A : AJ Z h b bs) (W : Wr h h' a sl v) (q : b ≠ a) : AJ Z h' b bs := by obtain ⟨c, A, r⟩ := A; exact ⟨c, A.other W q, r⟩
theorem AJ.keep {a : Addr} {bs : List Int64} {ws : List Addr} (A : AJ Z h a bs) (K : Keep h h' ws) (q : a ∉ ws) : AJ Z h' a bs := by obtain ⟨c, A, r⟩ := A; exact ⟨c, ⟨K.2.1 a c A.1 q, A.2⟩, r⟩
theorem own_inI {a : Addr} {c : Cell} {bs : List Int32} {j : Int32} {i : Nat} (S : c.slots = (bs.map Value.int).toArray) (h0 : ¬ j < 0) (hj : j.toNatClampNeg = i) (hi : i < bs.length) : ¬ (j < 0 ∨ c.slots.size ≤ j.toNatClampNeg) := by
  rw [S]; simp [h0, hj]; omega
theorem own_inJ {a : Addr} {c : Cell} {bs : List Int64} {j : Int32} {i : Nat} (S : c.slots = (bs.map Value.long).toArray) (h0 : ¬ j < 0) (hj : j.toNatClampNeg = i) (hi : i < bs.length) : ¬ (j < 0 ∨ c.slots.size ≤ j.toNatClampNeg) := by
  rw [S]; simp [h0, hj]; omega
theorem own_setI {c : Cell} {bs : List Int32} {i : Nat} {x : Int32} (S : c.slots = (bs.map Value.int).toArray) : (c.setSlot i (.int x)).slots = ((bs.set i x).map Value.int).toArray := by
  simp [Cell.setSlot, S, List.map_set]
theorem own_setJ {c : Cell} {bs : List Int64} {i : Nat} {x : Int64} (S : c.slots = (bs.map Value.long).toArray) : (c.setSlot i (.long x)).slots = ((bs.set i x).map Value.long).toArray := by
  simp [Cell.setSlot, S, List.map_set]
theorem g_bastore (pc' : Nat) (X : Stand p l e R s m args below meth c T locs cells slots) (hx : p.tables.exec = Jvm.exec) (hZ : Z.Warmed39 s.vm) (eT : T.heap = h) {a : Addr} {bs : List Int32} (A : AI Z h a .byte bs) {j x : Int32} (i : Nat) (h0 : ¬ j < 0) (hj : j.toNatClampNeg = i) (hi : i < bs.length) {z : Int32} (hz : x.toInt8.toInt32 = z) (hd : decode c.code pc = .ok (.bastore, 1)) (hp : pc + 1 = pc') (H : ∀ T' h', Stand p l e R s m args below meth c T' (locs ++ [⟨a, i⟩]) cells slots → T'.heap = h' → Wr h h' a i (.int z) → AI Z h' a .byte (bs.set i z) → Go p e below s k n Q T' (mkF m pc' Ls st)) : Go p e below s k n Q T (mkF m pc Ls (.int x :: .int j :: .ref a :: st)) := by
  subst hp hz hj
  obtain ⟨cl, A, S, hl⟩ := A
  obtain ⟨T', h', X', e', W, q⟩ := stB X hx hZ eT A (own_inI (a := a) S h0 rfl hi) (g := mkF m pc Ls (.int x :: .int j :: .ref a :: st)) rfl rfl hd
  exact (H T' h' X' e' W ⟨_, A.same W, own_setI S, by simpa using hl⟩).via q
theorem g_iastore (pc' : Nat) (X : Stand p l e R s m args below meth c T locs cells slots) (hx : p.tables.exec = Jvm.exec) (hZ : Z.Warmed39 s.vm) (eT : T.heap = h) {a : Addr} {bs : List Int32} (A : AI Z h a .int bs) {j x : Int32} (i : Nat) (h0 : ¬ j < 0) (hj : j.toNatClampNeg = i) (hi : i < bs.length) {z : Int32} (hz : x = z) (hd : decode c.code pc = .ok (.iastore, 1)) (hp : pc + 1 = pc') (H : ∀ T' h', Stand p l e R s m args below meth c T' (locs ++ [⟨a, i⟩]) cells slots → T'.heap = h' → Wr h h' a i (.int z) → AI Z h' a .int (bs.set i z) → Go p e below s k n Q T' (mkF m pc' Ls st)) : Go p e below s k n Q T (mkF m pc Ls (.int x :: .int j :: .ref a :: st)) := by
  subst hp hz hj
  obtain ⟨cl, A, S, hl⟩ := A
  obtain ⟨T', h', X', e', W, q⟩ := stI X hx hZ eT A (own_inI (a := a) S h0 rfl hi) (g := mkF m pc Ls (.int x :: .int j :: .ref a :: st)) rfl rfl hd
  exact (H T' h' X' e' W ⟨_, A.same W, own_setI S, by simpa using hl⟩).via q
theorem g_castore (pc' : Nat) (X : Stand p l e R s m args below meth c T locs cells slots) (hx : p.tables.exec = Jvm.exec) (hZ : Z.Warmed39 s.vm) (eT : T.heap = h) {a : Addr} {bs : List Int32} (A : AI Z h a .char bs) {j x : Int32} (i : Nat) (h0 : ¬ j < 0) (hj : j.toNatClampNeg = i) (hi : i < bs.length) {z : Int32} (hz : x.toUInt32.toUInt16.toUInt32.toInt32 = z) (hd : decode c.code pc = .ok (.castore, 1)) (hp : pc + 1 = pc') (H : ∀ T' h', Stand p l e R s m args below meth c T' (locs ++ [⟨a, i⟩]) cells slots → T'.heap = h' → Wr h h' a i (.int z) → AI Z h' a .char (bs.set i z) → Go p e below s k n Q T' (mkF m pc' Ls st)) : Go p e below s k n Q T (mkF m pc Ls (.int x :: .int j :: .ref a :: st)) := by
  subst hp hz hj
  obtain ⟨cl, A, S, hl⟩ := A
  obtain ⟨T', h', X', e', W, q⟩ := stC X hx hZ eT A (own_inI (a := a) S h0 rfl hi) (g := mkF m pc Ls (.int x :: .int j :: .ref a :: st)) rfl rfl hd
  exact (H T' h' X' e' W ⟨_, A.same W, own_setI S, by simpa using hl⟩).via q
theorem g_sastore (pc' : Nat) (X : Stand p l e R s m args below meth c T locs cells slots) (hx : p.tables.exec = Jvm.exec) (hZ : Z.Warmed39 s.vm) (eT : T.heap = h) {a : Addr} {bs : List Int32} (A : AI Z h a .short bs) {j x : Int32} (i : Nat) (h0 : ¬ j < 0) (hj : j.toNatClampNeg = i) (hi : i < bs.length) {z : Int32} (hz : x.toInt16.toInt32 = z) (hd : decode c.code pc = .ok (.sastore, 1)) (hp : pc + 1 = pc') (H : ∀ T' h', Stand p l e R s m args below meth c T' (locs ++ [⟨a, i⟩]) cells slots → T'.heap = h' → Wr h h' a i (.int z) → AI Z h' a .short (bs.set i z) → Go p e below s k n Q T' (mkF m pc' Ls st)) : Go p e below s k n Q T (mkF m pc Ls (.int x :: .int j :: .ref a :: st)) := by
  subst hp hz hj
  obtain ⟨cl, A, S, hl⟩ := A
  obtain ⟨T', h', X', e', W, q⟩ := stS X hx hZ eT A (own_inI (a := a) S h0 rfl hi) (g := mkF m pc Ls (.int x :: .int j :: .ref a :: st)) rfl rfl hd
  exact (H T' h' X' e' W ⟨_, A.same W, own_setI S, by simpa using hl⟩).via q
theorem g_lastore (pc' : Nat) (X : Stand p l e R s m args below meth c T locs cells slots) (hx : p.tables.exec = Jvm.exec) (hZ : Z.Warmed39 s.vm) (eT : T.heap = h) {a : Addr} {bs : List Int64} (A : AJ Z h a bs) {j : Int32} {x : Int64} (i : Nat) (h0 : ¬ j < 0) (hj : j.toNatClampNeg = i) (hi : i < bs.length) (hd : decode c.code pc = .ok (.lastore, 1)) (hp : pc + 1 = pc') (H : ∀ T' h', Stand p l e R s m args below meth c T' (locs ++ [⟨a, i⟩]) cells slots → T'.heap = h' → Wr h h' a i (.long x) → AJ Z h' a (bs.set i x) → Go p e below s k n Q T' (mkF m pc' Ls st)) : Go p e below s k n Q T (mkF m pc Ls (.long x :: .int j :: .ref a :: st)) := by
  subst hp hj
  obtain ⟨cl, A, S, hl⟩ := A
  obtain ⟨T', h', X', e', W, q⟩ := stJ X hx hZ eT A (own_inJ (a := a) S h0 rfl hi) (g := mkF m pc Ls (.long x :: .int j :: .ref a :: st)) rfl rfl hd
  exact (H T' h' X' e' W ⟨_, A.same W, own_setJ S, by simpa using hl⟩).via q
theorem g_baload (pc' : Nat) (X : Stand p l e R s m args below meth c T locs cells slots) (hx : p.tables.exec = Jvm.exec) (hZ : Z.Warmed39 s.vm) (eT : T.heap = h) {a : Addr} {bs : List Int32} (A : AI Z h a .byte bs) {j z : Int32} (i : Nat) (h0 : ¬ j < 0) (hj : j.toNatClampNeg = i) (hv : bs[i]? = some z) (hd : decode c.code pc = .ok (.baload, 1)) (hp : pc + 1 = pc') (H : Go p e below s k n Q T (mkF m pc' Ls (.int z :: st))) : Go p e below s k n Q T (mkF m pc Ls (.int j :: .ref a :: st)) := by
  subst hp hj
  obtain ⟨cl, A, S, hl⟩ := A
  exact H.via fun t q => X.baloadBytes hx (by rw [eT]; exact A.1) (State.isArrayOf_alike hZ.alike A.2.1) A.2.2 (own_inI (a := a) S h0 rfl (List.getElem?_eq_some_iff.mp hv).1) (v := .int z) (by rw [S]; simp [hv]) (g := mkF m pc Ls (.int j :: .ref a :: st)) rfl rfl hd t q
theorem g_iaload (pc' : Nat) (X : Stand p l e R s m args below meth c T locs cells slots) (hx : p.tables.exec = Jvm.exec) (hZ : Z.Warmed39 s.vm) (eT : T.heap = h) {a : Addr} {bs : List Int32} (A : AI Z h a .int bs) {j z : Int32} (i : Nat) (h0 : ¬ j < 0) (hj : j.toNatClampNeg = i) (hv : bs[i]? = some z) (hd : decode c.code pc = .ok (.iaload, 1)) (hp : pc + 1 = pc') (H : Go p e below s k n Q T (mkF m pc' Ls (.int z :: st))) : Go p e below s k n Q T (mkF m pc Ls (.int j :: .ref a :: st)) := by
  subst hp hj
  obtain ⟨cl, A, S, hl⟩ := A
  exact H.via fun t q => X.iaload hx (by rw [eT]; exact A.1) (State.isArrayOf_alike hZ.alike A.2.1) A.2.2 (own_inI (a := a) S h0 rfl (List.getElem?_eq_some_iff.mp hv).1) (v := .int z) (by rw [S]; simp [hv]) (g := mkF m pc Ls (.int j :: .ref a :: st)) rfl rfl hd t q
theorem g_caload (pc' : Nat) (X : Stand p l e R s m args below meth c T locs cells slots) (hx : p.tables.exec = Jvm.exec) (hZ : Z.Warmed39 s.vm) (eT : T.heap = h) {a : Addr} {bs : List Int32} (A : AI Z h a .char bs) {j z : Int32} (i : Nat) (h0 : ¬ j < 0) (hj : j.toNatClampNeg = i) (hv : bs[i]? = some z) (hd : decode c.code pc = .ok (.caload, 1)) (hp : pc + 1 = pc') (H : Go p e below s k n Q T (mkF m pc' Ls (.int z :: st))) : Go p e below s k n Q T (mkF m pc Ls (.int j :: .ref a :: st)) := by
  subst hp hj
  obtain ⟨cl, A, S, hl⟩ := A
  exact H.via fun t q => X.caload hx (by rw [eT]; exact A.1) (State.isArrayOf_alike hZ.alike A.2.1) A.2.2 (own_inI (a := a) S h0 rfl (List.getElem?_eq_some_iff.mp hv).1) (v := .int z) (by rw [S]; simp [hv]) (g := mkF m pc Ls (.int j :: .ref a :: st)) rfl rfl hd t q
theorem g_saload (pc' : Nat) (X : Stand p l e R s m args below meth c T locs cells slots) (hx : p.tables.exec = Jvm.exec) (hZ : Z.Warmed39 s.vm) (eT : T.heap = h) {a : Addr} {bs : List Int32} (A : AI Z h a .short bs) {j z : Int32} (i : Nat) (h0 : ¬ j < 0) (hj : j.toNatClampNeg = i) (hv : bs[i]? = some z) (hd : decode c.code pc = .ok (.saload, 1)) (hp : pc + 1 = pc') (H : Go p e below s k n Q T (mkF m pc' Ls (.int z :: st))) : Go p e below s k n Q T (mkF m pc Ls (.int j :: .ref a :: st)) := by
  subst hp hj
  obtain ⟨cl, A, S, hl⟩ := A
  exact H.via fun t q => X.saload hx (by rw [eT]; exact A.1) (State.isArrayOf_alike hZ.alike A.2.1) A.2.2 (own_inI (a := a) S h0 rfl (List.getElem?_eq_some_iff.mp hv).1) (v := .int z) (by rw [S]; simp [hv]) (g := mkF m pc Ls (.int j :: .ref a :: st)) rfl rfl hd t q
theorem g_laload (pc' : Nat) (X : Stand p l e R s m args below meth c T locs cells slots) (hx : p.tables.exec = Jvm.exec) (hZ : Z.Warmed39 s.vm) (eT : T.heap = h) {a : Addr} {bs : List Int64} (A : AJ Z h a bs) {j : Int32} {z : Int64} (i : Nat) (h0 : ¬ j < 0) (hj : j.toNatClampNeg = i) (hv : bs[i]? = some z) (hd : decode c.code pc = .ok (.laload, 1)) (hp : pc + 1 = pc') (H : Go p e below s k n Q T (mkF m pc' Ls (.long z :: st))) : Go p e below s k n Q T (mkF m pc Ls (.int j :: .ref a :: st)) := by
  subst hp hj
  obtain ⟨cl, A, S, hl⟩ := A
  exact H.via fun t q => X.laload hx (by rw [eT]; exact A.1) (State.isArrayOf_alike hZ.alike A.2.1) A.2.2 (own_inJ (a := a) S h0 rfl (List.getElem?_eq_some_iff.mp hv).1) (v := .long z) (by rw [S]; simp [hv]) (g := mkF m pc Ls (.int j :: .ref a :: st)) rfl rfl hd t q
theorem g_arraylengthI (pc' : Nat) (X : Stand p l e R s m args below meth c T locs cells slots) (hx : p.tables.exec = Jvm.exec) (hZ : Z.Warmed39 s.vm) (eT : T.heap = h) {a : Addr} {ty : FieldType} {bs : List Int32} (A : AI Z h a ty bs) {z : Int32} (hz : Int32.ofNat bs.length = z) (hd : decode c.code pc = .ok (.arraylength, 1)) (hp : pc + 1 = pc') (H : Go p e below s k n Q T (mkF m pc' Ls (.int z :: st))) : Go p e below s k n Q T (mkF m pc Ls (.ref a :: st)) := by
  subst hp hz
  obtain ⟨cl, A, S, hl⟩ := A
  have q0 : cl.slots.size.toInt32 = Int32.ofNat bs.length := by rw [S]; simp
  exact H.via fun t q => X.arraylength hx (by rw [eT]; exact A.1) (State.isArrayOf_alike hZ.alike A.2.1) (g := mkF m pc Ls (.ref a :: st)) rfl rfl hd t (by rw [q0]; exact q)
theorem g_arraylengthJ (pc' : Nat) (X : Stand p l e R s m args below meth c T locs cells slots) (hx : p.tables.exec = Jvm.exec) (hZ : Z.Warmed39 s.vm) (eT : T.heap = h) {a : Addr} {bs : List Int64} (A : AJ Z h a bs) {z : Int32} (hz : Int32.ofNat bs.length = z) (hd : decode c.code pc = .ok (.arraylength, 1)) (hp : pc + 1 = pc') (H : Go p e below s k n Q T (mkF m pc' Ls (.int z :: st))) : Go p e below s k n Q T (mkF m pc Ls (.ref a :: st)) := by
  subst hp hz
  obtain ⟨cl, A, S, hl⟩ := A
  have q0 : cl.slots.size.toInt32 = Int32.ofNat bs.length := by rw [S]; simp
  exact H.via fun t q => X.arraylength hx (by rw [eT]; exact A.1) (State.isArrayOf_alike hZ.alike A.2.1) (g := mkF m pc Ls (.ref a :: st)) rfl rfl hd t (by rw [q0]; exact q)
theorem g_new_byte (pc' : Nat) (X : Stand p l e R s m args below meth c T locs cells slots) (hx : p.tables.exec = Jvm.exec) (hZ : Z.Warmed39 s.vm) (w : (Cond.arrayClass .byte).before a0 Z = true) (eT : T.heap = h) {nn : Int32} (len cap : Nat) (hn0 : ¬ nn < 0) (hlen : nn.toNatClampNeg = len) (hcap : len ≤ cap) (hb : cap * 8 ≤ 536870912) (hc : cells + 1 ≤ R.cells) (hl : slots + cap ≤ R.slots) (hd : decode c.code pc = .ok (.newarray .byte, 2)) (hp : pc + 2 = pc') (H : ∀ T' h' b, Stand p l e R s m args below meth c T' locs (cells + 1) (slots + cap) → T'.heap = h' → Ext h h' → b = h.size → AI Z h' b .byte (List.replicate len (0 : Int32)) → Go p e below s k n Q T' (mkF m pc' Ls (.ref b :: st))) : Go p e below s k n Q T (mkF m pc Ls (.int nn :: st)) := by
  subst hp hlen
  obtain ⟨T', h', cA, X', e', E, A, q⟩ := newP X hx hZ (aty := .byte) w eT (g := mkF m pc Ls (.int nn :: st)) rfl hd rfl hn0 hcap hb hc hl
  exact (H T' h' _ X' e' E rfl ⟨_, A, by simp [newA, defaultValue, newarray.typeOf], by simpa using (back32 hn0).2⟩).via q
theorem g_new_int (pc' : Nat) (X : Stand p l e R s m args below meth c T locs cells slots) (hx : p.tables.exec = Jvm.exec) (hZ : Z.Warmed39 s.vm) (w : (Cond.arrayClass .int).before a0 Z = true) (eT : T.heap = h) {nn : Int32} (len cap : Nat) (hn0 : ¬ nn < 0) (hlen : nn.toNatClampNeg = len) (hcap : len ≤ cap) (hb : cap * 8 ≤ 536870912) (hc : cells + 1 ≤ R.cells) (hl : slots + cap ≤ R.slots) (hd : decode c.code pc = .ok (.newarray .int, 2)) (hp : pc + 2 = pc') (H : ∀ T' h' b, Stand p l e R s m args below meth c T' locs (cells + 1) (slots + cap) → T'.heap = h' → Ext h h' → b = h.size → AI Z h' b .int (List.replicate len (0 : Int32)) → Go p e below s k n Q T' (mkF m pc' Ls (.ref b :: st))) : Go p e below s k n Q T (mkF m pc Ls (.int nn :: st)) := by
  subst hp hlen
  obtain ⟨T', h', cA, X', e', E, A, q⟩ := newP X hx hZ (aty := .int) w eT (g := mkF m pc Ls (.int nn :: st)) rfl hd rfl hn0 hcap hb hc hl
  exact (H T' h' _ X' e' E rfl ⟨_, A, by simp [newA, defaultValue, newarray.typeOf], by simpa using (back32 hn0).2⟩).via q
theorem g_new_long (pc' : Nat) (X : Stand p l e R s m args below meth c T locs cells slots) (hx : p.tables.exec = Jvm.exec) (hZ : Z.Warmed39 s.vm) (w : (Cond.arrayClass .long).before a0 Z = true) (eT : T.heap = h) {nn : Int32} (len cap : Nat) (hn0 : ¬ nn < 0) (hlen : nn.toNatClampNeg = len) (hcap : len ≤ cap) (hb : cap * 8 ≤ 536870912) (hc : cells + 1 ≤ R.cells) (hl : slots + cap ≤ R.slots) (hd : decode c.code pc = .ok (.newarray .long, 2)) (hp : pc + 2 = pc') (H : ∀ T' h' b, Stand p l e R s m args below meth c T' locs (cells + 1) (slots + cap) → T'.heap = h' → Ext h h' → b = h.size → AJ Z h' b (List.replicate len (0 : Int64)) → Go p e below s k n Q T' (mkF m pc' Ls (.ref b :: st))) : Go p e below s k n Q T (mkF m pc Ls (.int nn :: st)) := by
  subst hp hlen
  obtain ⟨T', h', cA, X', e', E, A, q⟩ := newP X hx hZ (aty := .long) w eT (g := mkF m pc Ls (.int nn :: st)) rfl hd rfl hn0 hcap hb hc hl
  exact (H T' h' _ X' e' E rfl ⟨_, A, by simp [newA, defaultValue, newarray.typeOf], by simpa using (back32 hn0).2⟩).via q
end OwnKit
theorem own_lrem (x y : Int64) (d : Int) (hy : y.toInt = d) : (0 ≤ x.toInt → (x % y).toInt = x.toInt % d) ∧ (x.toInt < 0 → (x % y).toInt = -((-x.toInt) % d)) := by
  rw [Int64.toInt_mod, hy]; exact tr _ _
theorem own_lremV (x y : Int64) : 0 ≤ x.toInt → 0 < y.toInt → 0 ≤ (x % y).toInt ∧ (x % y).toInt < y.toInt ∧ (x % y).toInt ≤ x.toInt := by
  intro h1 h2
  rw [Int64.toInt_mod, Int.tmod_eq_emod_of_nonneg h1]
  have a := Int.emod_nonneg x.toInt (by omega : y.toInt ≠ 0)
  have b := Int.emod_lt_of_pos x.toInt h2
  refine ⟨a, b, ?_⟩
  by_cases c : x.toInt < y.toInt
  · rw [Int.emod_eq_of_lt h1 c]; exact Int.le_refl _
  · omega
theorem own_prod {a b A B : Int} (h1 : 0 ≤ a) (h2 : a ≤ A) (h3 : 0 ≤ b) (h4 : b ≤ B) : 0 ≤ a * b ∧ a * b ≤ A * B :=
  ⟨Int.mul_nonneg h1 h3, Int.mul_le_mul h2 h4 h3 (Int.le_trans h1 h2)⟩
theorem own_get {bs : List Int32} {i : Nat} (h : i < bs.length) : bs[i]? = some (bs.getD i 0) := by
  rw [List.getD_eq_getElem?_getD, List.getElem?_eq_getElem h]; rfl
def own_find (bs : List Int32) (d : Int32) : Nat → Nat → Int32
  | _, 0 => -1
  | i, k + 1 => if (bs.getD i 0 &&& (255 : Int32)) = d then Int32.ofNat i else own_find bs d (i + 1) k
theorem own_inc {i : Int32} (h : 0 ≤ i.toInt) (q : i.toInt < 1000) : (i + (1 : Int32)).toInt = i.toInt + 1 := by
  have a := c_iadd i (1 : Int32)
  have b := rng32 (i + (1 : Int32))
  simp only [Int32.reduceToInt] at a
  omega
theorem own_nat0 {i : Int32} (h : 0 ≤ i.toInt) : ¬ i < 0 := by
  rw [Int32.lt_iff_toInt_lt]; simp only [Int32.reduceToInt]; omega
theorem own_ofNat {i : Int32} (h : 0 ≤ i.toInt) : Int32.ofNat i.toInt.toNat = i := by
  have r := rng32 i
  apply Int32.toInt_inj.mp
  rw [Int32.toInt_ofNat_small (by omega)]
  omega
theorem own_hit {bs : List Int32} {d i t : Int32} (h0 : 0 ≤ i.toInt) (h : i < t) (q : (bs.getD i.toInt.toNat 0 &&& (255 : Int32)) = d) : own_find bs d i.toInt.toNat (t.toInt - i.toInt).toNat = i := by
  rw [Int32.lt_iff_toInt_lt] at h
  obtain ⟨k, e⟩ : ∃ k, (t.toInt - i.toInt).toNat = k + 1 := ⟨(t.toInt - i.toInt).toNat - 1, by omega⟩
  rw [e, own_find, if_pos q, own_ofNat h0]
theorem own_miss {bs : List Int32} {d i t : Int32} (h0 : 0 ≤ i.toInt) (h1 : i.toInt < 1000) (h : i < t) (q : ¬ (bs.getD i.toInt.toNat 0 &&& (255 : Int32)) = d) : own_find bs d (i + (1 : Int32)).toInt.toNat (t.toInt - (i + (1 : Int32)).toInt).toNat = own_find bs d i.toInt.toNat (t.toInt - i.toInt).toNat := by
  rw [Int32.lt_iff_toInt_lt] at h
  obtain ⟨k, e⟩ : ∃ k, (t.toInt - i.toInt).toNat = k + 1 := ⟨(t.toInt - i.toInt).toNat - 1, by omega⟩
  have e2 : (t.toInt - (i + (1 : Int32)).toInt).toNat = k := by rw [own_inc h0 h1]; omega
  have e3 : (i + (1 : Int32)).toInt.toNat = i.toInt.toNat + 1 := by rw [own_inc h0 h1]; omega
  rw [e, e2, e3]
  conv => rhs; rw [own_find, if_neg q]
theorem own_over {bs : List Int32} {d i t : Int32} (h : ¬ i < t) : own_find bs d i.toInt.toNat (t.toInt - i.toInt).toNat = -1 := by
  rw [Int32.lt_iff_toInt_lt] at h
  rw [show (t.toInt - i.toInt).toNat = 0 by omega, own_find]
theorem own_byte (x : Int32) : (x.toInt8.toInt32.toInt8.toInt32 &&& (255 : Int32)) = x &&& (255 : Int32) := by
  have a := c_mask x.toInt8.toInt32.toInt8.toInt32 (255 : Int32) 8 (by decide) (by decide)
  have b := c_mask x (255 : Int32) 8 (by decide) (by decide)
  have c := c_i2b x
  have d := c_i2b x.toInt8.toInt32
  apply Int32.toInt_inj.mp
  rw [a, b]
  omega
theorem own_sh0 (x : Int32) : (x.toUInt32 >>> (((8 : Int32) * (0 : Int32)) &&& 31).toUInt32).toInt32 = x := by
  have e : (((8 : Int32) * (0 : Int32)) &&& 31).toUInt32 = 0 := by decide
  rw [e]; simp

theorem pn_0 : plainName "com/example/paillasse/paillasse/message/DelimitersIndexOfPinLaw" = true := by first | (simp [plainName, overriddenIn]; done) | decide +kernel
theorem d3_0 : decode method_2_code 0 = .ok (.iload_n 0, 1) := by decide +kernel
theorem d3_1 : decode method_2_code 1 = .ok (.bipush 8, 2) := by decide +kernel
theorem d3_3 : decode method_2_code 3 = .ok (.iload_n 1, 1) := by decide +kernel
theorem d3_4 : decode method_2_code 4 = .ok (.imul, 1) := by decide +kernel
theorem d3_5 : decode method_2_code 5 = .ok (.iushr, 1) := by decide +kernel
theorem d3_6 : decode method_2_code 6 = .ok (.sipush 255, 3) := by decide +kernel
theorem d3_9 : decode method_2_code 9 = .ok (.iand, 1) := by decide +kernel
theorem d3_10 : decode method_2_code 10 = .ok (.ireturn, 1) := by decide +kernel
def Rel3 (p1 : Int32) (p2 : Int32) (r : Int32) : Prop := (r = (((p1.toUInt32 >>> (((8 : Int32) * p2) &&& 31).toUInt32).toInt32) &&& (255 : Int32)))
def Q3 (Z : State) (p1 : Int32) (p2 : Int32) (h0 : Heap) (n0 : Nat) (v : Option Value) (h : Heap) (L : List Loc) : Prop := ∃ r : Int32, v = some (.int r) ∧ Rel3 p1 p2 r ∧ Fr n0 L ∧ h = h0
theorem ef_rm3 (m : MethodId) (p1 : Int32) (p2 : Int32) : entryFrame m #[(.int p1), (.int p2)] 2 = mkF m 0 #[.val (.int p1), .val (.int p2)] [] := by first | (simp [entryFrame, mkF, argsToLocals, Value.category]; done) | rfl
set_option maxRecDepth 65536 in
set_option maxHeartbeats 40000000 in
theorem rm3 (l : Launch) (Z : State) (a0 : Array Value) (hw : ∀ d ∈ tables_1, d.before a0 Z = true) (ws : List Jvm.Cond) (p1 : Int32) (p2 : Int32) (h0 : Heap) (n0 : Nat) (Z0 : n0 ≤ h0.size)  :
    MetFree l (⟨"com/example/paillasse/paillasse/message/DelimitersIndexOfPinLaw", "unsignedAt", "(II)I"⟩ : MethodName) (head1 (Jvm.Cond.code (⟨"com/example/paillasse/paillasse/message/DelimitersIndexOfPinLaw", "unsignedAt", "(II)I"⟩ : MethodName) method_2_code 2 (some .int) :: ws) ({ frames := 0, cells := 0, slots := 0, locals := 0 } : Room)) (fun a U => a = #[(.int p1), (.int p2)] ∧ Z.Warmed39 U.vm ∧ U.heap = h0) (fun _ _ _ _ _ => True) (fun _ U o U' => ∃ v L, o = .returned v ∧ (Q3 Z p1 p2 h0 n0) v U'.heap L ∧ FrameEnd U o U' L ({ frames := 0, cells := 0, slots := 0, locals := 0 } : Room).cells ({ frames := 0, cells := 0, slots := 0, locals := 0 } : Room).slots) := by
  refine MetFree.of_bodySF (plainFor_of_name pn_0) hisR ?_
  intro p e s m args below meth c s₁ Bd hml0 hP hK
  obtain ⟨rfl, hZ, hh⟩ := hP
  have hx := Bd.exec
  have hby := Bd.bytes
  have hml : c.maxLocals = 2 := hml0
  have hown : s.vm.findClass "com/example/paillasse/paillasse/message/DelimitersIndexOfPinLaw" = some m.cls := findClass_of_methodNamed Bd.named
  have hnm := (name_of_methodNamed Bd.named Bd.method).1
  have hlk : meth.locks = false := BodyLoose.notSynchronized Bd
  have X0 : Stand p l e ({ frames := 0, cells := 0, slots := 0, locals := 0 } : Room) s m #[(.int p1), (.int p2)] below meth c s₁ [] 0 0 := Stand.of_body Bd
  have e0 : s₁.heap = h0 := by rw [← hh, Bd.state]; rfl
  have N0 := Fr.nil n0
  show Go p e below s ({ frames := 0, cells := 0, slots := 0, locals := 0 } : Room).cells ({ frames := 0, cells := 0, slots := 0, locals := 0 } : Room).slots (Q3 Z p1 p2 h0 n0) s₁ (entryFrame m #[(.int p1), (.int p2)] 2)
  rw [ef_rm3 m p1 p2]
  refine g_iloadN 1 X0 hx (hb hby d3_0) rfl (v := p1) rfl ?_
  refine g_bipush 3 X0 hx (hb hby d3_1) rfl (z := (8 : Int32)) rfl ?_
  refine g_iloadN 4 X0 hx (hb hby d3_3) rfl (v := p2) rfl ?_
  refine g_imul 5 X0 hx (hb hby d3_4) rfl (z := ((8 : Int32) * p2)) rfl ?_
  refine g_iushr 6 X0 hx (hb hby d3_5) rfl (z := ((p1.toUInt32 >>> (((8 : Int32) * p2) &&& 31).toUInt32).toInt32)) rfl ?_
  refine g_sipush 9 X0 hx (hb hby d3_6) rfl (z := (255 : Int32)) rfl ?_
  refine g_iand 10 X0 hx (hb hby d3_9) rfl (z := (((p1.toUInt32 >>> (((8 : Int32) * p2) &&& 31).toUInt32).toInt32) &&& (255 : Int32))) rfl ?_
  exact g_retI X0 hx Bd.returns hlk (hb hby d3_10) (by decide) (by decide) ⟨(((p1.toUInt32 >>> (((8 : Int32) * p2) &&& 31).toUInt32).toInt32) &&& (255 : Int32)), rfl, rfl, N0, e0⟩
theorem pd_0 : parseMethodDescriptor "(II)I" = some ⟨[.int, .int], some .int⟩ := by decide +kernel
theorem d1_0 : decode method_3_code 0 = .ok (.iload_n 3, 1) := by decide +kernel
theorem d1_1 : decode method_3_code 1 = .ok (.iload_n 1, 1) := by decide +kernel
theorem d1_2 : decode method_3_code 2 = .ok (.if_icmp .gt 22, 3) := by decide +kernel
theorem d1_5 : decode method_3_code 5 = .ok (.iload_n 1, 1) := by decide +kernel
theorem d1_6 : decode method_3_code 6 = .ok (.iload 4, 2) := by decide +kernel
theorem d1_8 : decode method_3_code 8 = .ok (.if_icmp .ge 16, 3) := by decide +kernel
theorem d1_11 : decode method_3_code 11 = .ok (.iload_n 0, 1) := by decide +kernel
theorem d1_12 : decode method_3_code 12 = .ok (.iload_n 1, 1) := by decide +kernel
theorem d1_13 : decode method_3_code 13 = .ok (.invokestatic 7, 3) := by decide +kernel
theorem d1_16 : decode method_3_code 16 = .ok (.iload_n 2, 1) := by decide +kernel
theorem d1_17 : decode method_3_code 17 = .ok (.if_icmp .ne 7, 3) := by decide +kernel
theorem d1_20 : decode method_3_code 20 = .ok (.iconst 1, 1) := by decide +kernel
theorem d1_21 : decode method_3_code 21 = .ok (.goto 4, 3) := by decide +kernel
theorem d1_24 : decode method_3_code 24 = .ok (.iconst 0, 1) := by decide +kernel
theorem d1_25 : decode method_3_code 25 = .ok (.ireturn, 1) := by decide +kernel
def Rel1 (p1 : Int32) (p2 : Int32) (p3 : Int32) (p4 : Int32) (p5 : Int32) (r : Int32) : Prop := (p2 < p4 ∧ r = (0 : Int32)) ∨ (∃ (r3 : Int32), ¬ (p2 < p4) ∧ p2 < p5 ∧ Rel3 p1 p2 r3 ∧ r3 = p3 ∧ r = (1 : Int32)) ∨ (∃ (r3 : Int32), ¬ (p2 < p4) ∧ p2 < p5 ∧ Rel3 p1 p2 r3 ∧ ¬ (r3 = p3) ∧ r = (0 : Int32)) ∨ (¬ (p2 < p4) ∧ ¬ (p2 < p5) ∧ r = (0 : Int32))
def Q1 (Z : State) (p1 : Int32) (p2 : Int32) (p3 : Int32) (p4 : Int32) (p5 : Int32) (h0 : Heap) (n0 : Nat) (v : Option Value) (h : Heap) (L : List Loc) : Prop := ∃ r : Int32, v = some (.int r) ∧ Rel1 p1 p2 p3 p4 p5 r ∧ Fr n0 L ∧ h = h0
theorem ef_rm1 (m : MethodId) (p1 : Int32) (p2 : Int32) (p3 : Int32) (p4 : Int32) (p5 : Int32) : entryFrame m #[(.int p1), (.int p2), (.int p3), (.int p4), (.int p5)] 5 = mkF m 0 #[.val (.int p1), .val (.int p2), .val (.int p3), .val (.int p4), .val (.int p5)] [] := by first | (simp [entryFrame, mkF, argsToLocals, Value.category]; done) | rfl
set_option maxRecDepth 65536 in
set_option maxHeartbeats 40000000 in
theorem rm1 (l : Launch) (Z : State) (a0 : Array Value) (hw : ∀ d ∈ tables_1, d.before a0 Z = true) (ws : List Jvm.Cond) (p1 : Int32) (p2 : Int32) (p3 : Int32) (p4 : Int32) (p5 : Int32) (h0 : Heap) (n0 : Nat) (Z0 : n0 ≤ h0.size)  :
    MetFree l (⟨"com/example/paillasse/paillasse/message/DelimitersIndexOfPinLaw", "hit", "(IIIII)Z"⟩ : MethodName) (head1 (Jvm.Cond.code (⟨"com/example/paillasse/paillasse/message/DelimitersIndexOfPinLaw", "hit", "(IIIII)Z"⟩ : MethodName) method_3_code 5 (some .boolean) :: ws) ({ frames := 1, cells := 0, slots := 0, locals := 13 } : Room)) (fun a U => a = #[(.int p1), (.int p2), (.int p3), (.int p4), (.int p5)] ∧ Z.Warmed39 U.vm ∧ U.heap = h0) (fun _ _ _ _ _ => True) (fun _ U o U' => ∃ v L, o = .returned v ∧ (Q1 Z p1 p2 p3 p4 p5 h0 n0) v U'.heap L ∧ FrameEnd U o U' L ({ frames := 1, cells := 0, slots := 0, locals := 13 } : Room).cells ({ frames := 1, cells := 0, slots := 0, locals := 13 } : Room).slots) := by
  refine MetFree.of_bodySF (plainFor_of_name pn_0) hisR ?_
  intro p e s m args below meth c s₁ Bd hml0 hP hK
  obtain ⟨rfl, hZ, hh⟩ := hP
  have hx := Bd.exec
  have hby := Bd.bytes
  have hml : c.maxLocals = 5 := hml0
  have hown : s.vm.findClass "com/example/paillasse/paillasse/message/DelimitersIndexOfPinLaw" = some m.cls := findClass_of_methodNamed Bd.named
  have hnm := (name_of_methodNamed Bd.named Bd.method).1
  have hlk : meth.locks = false := BodyLoose.notSynchronized Bd
  have X0 : Stand p l e ({ frames := 1, cells := 0, slots := 0, locals := 13 } : Room) s m #[(.int p1), (.int p2), (.int p3), (.int p4), (.int p5)] below meth c s₁ [] 0 0 := Stand.of_body Bd
  have e0 : s₁.heap = h0 := by rw [← hh, Bd.state]; rfl
  have N0 := Fr.nil n0
  show Go p e below s ({ frames := 1, cells := 0, slots := 0, locals := 13 } : Room).cells ({ frames := 1, cells := 0, slots := 0, locals := 13 } : Room).slots (Q1 Z p1 p2 p3 p4 p5 h0 n0) s₁ (entryFrame m #[(.int p1), (.int p2), (.int p3), (.int p4), (.int p5)] 5)
  rw [ef_rm1 m p1 p2 p3 p4 p5]
  refine g_iloadN 1 X0 hx (hb hby d1_0) rfl (v := p4) rfl ?_
  refine g_iloadN 2 X0 hx (hb hby d1_1) rfl (v := p2) rfl ?_
  by_cases hc2_0 : p2 < p4
  ·
    refine g_icmpYes 24 X0 hx (hb hby d1_2)  (tlt hc2_0).2.2.1 (by decide) (by decide) ?_
    refine g_iconst 25 X0 hx (hb hby d1_24) rfl (z := (0 : Int32)) rfl ?_
    exact g_retN X0 hx (t := .boolean) Bd.returns hlk (by simp) rfl (hb hby d1_25) (by decide) (by decide) ⟨(0 : Int32), rfl, (Or.inl ⟨hc2_0, rfl⟩), N0, e0⟩
  ·
    refine g_icmpNo 5 X0 hx (hb hby d1_2)  (flt hc2_0).2.2.1 rfl ?_
    refine g_iloadN 6 X0 hx (hb hby d1_5) rfl (v := p2) rfl ?_
    refine g_iload 8 X0 hx (hb hby d1_6) rfl (v := p5) rfl ?_
    by_cases hc8_1 : p2 < p5
    ·
      refine g_icmpNo 11 X0 hx (hb hby d1_8)  (tlt hc8_1).2.1 rfl ?_
      refine g_iloadN 12 X0 hx (hb hby d1_11) rfl (v := p1) rfl ?_
      refine g_iloadN 13 X0 hx (hb hby d1_12) rfl (v := p2) rfl ?_
      refine g_callS 16 X0 hx hZ (y := (⟨"com/example/paillasse/paillasse/message/DelimitersIndexOfPinLaw", "unsignedAt", "(II)I"⟩ : MethodName)) hown (hw _ (List.mem_of_getElem? (i := 10) rfl)) (hw _ (List.mem_of_getElem? (i := 11) rfl)) (hw _ (List.mem_of_getElem? (i := 4) rfl)) (hw _ (List.mem_of_getElem? (i := 12) rfl)) (by decide) e0 (rm3 l Z a0 hw [] p1 p2  h0 n0 Z0 ) (by rw [hml]; rfl) [(.int p1), (.int p2)] [] rfl rfl (lenOf pd_0 rfl) 0 (Nat.le_of_eq rfl) (hb hby d1_13) (by decide) (by decide) (by decide) (by decide) rfl ?_
      intro v3 T3 L3 X3 hQ3
      obtain ⟨r3, rfl, hr3, N3q, e3⟩ := hQ3
      have N3 := Fr.app N0 N3q
      show Go p e below s ({ frames := 1, cells := 0, slots := 0, locals := 13 } : Room).cells ({ frames := 1, cells := 0, slots := 0, locals := 13 } : Room).slots (Q1 Z p1 p2 p3 p4 p5 h0 n0) T3 (mkF m 16 #[.val (.int p1), .val (.int p2), .val (.int p3), .val (.int p4), .val (.int p5)] [(.int r3)])
      refine g_iloadN 17 X3 hx (hb hby d1_16) rfl (v := p3) rfl ?_
      by_cases hc17_3 : r3 = p3
      ·
        refine g_icmpNo 20 X3 hx (hb hby d1_17)  (teq hc17_3).2 rfl ?_
        refine g_iconst 21 X3 hx (hb hby d1_20) rfl (z := (1 : Int32)) rfl ?_
        refine g_goto 25 X3 hx (hb hby d1_21) (by decide) (by decide) ?_
        exact g_retN X3 hx (t := .boolean) Bd.returns hlk (by simp) rfl (hb hby d1_25) (by decide) (by decide) ⟨(1 : Int32), rfl, (Or.inr (Or.inl ⟨r3, hc2_0, hc8_1, hr3, hc17_3, rfl⟩)), N3, e3⟩
      ·
        refine g_icmpYes 24 X3 hx (hb hby d1_17)  (feq hc17_3).2 (by decide) (by decide) ?_
        refine g_iconst 25 X3 hx (hb hby d1_24) rfl (z := (0 : Int32)) rfl ?_
        exact g_retN X3 hx (t := .boolean) Bd.returns hlk (by simp) rfl (hb hby d1_25) (by decide) (by decide) ⟨(0 : Int32), rfl, (Or.inr (Or.inr (Or.inl ⟨r3, hc2_0, hc8_1, hr3, hc17_3, rfl⟩))), N3, e3⟩
    ·
      refine g_icmpYes 24 X0 hx (hb hby d1_8)  (flt hc8_1).2.1 (by decide) (by decide) ?_
      refine g_iconst 25 X0 hx (hb hby d1_24) rfl (z := (0 : Int32)) rfl ?_
      exact g_retN X0 hx (t := .boolean) Bd.returns hlk (by simp) rfl (hb hby d1_25) (by decide) (by decide) ⟨(0 : Int32), rfl, (Or.inr (Or.inr (Or.inr ⟨hc2_0, hc8_1, rfl⟩))), N0, e0⟩
theorem pn_1 : plainName "com/example/paillasse/paillasse/message/Delimiters" = true := by first | (simp [plainName, overriddenIn]; done) | decide +kernel
theorem d2_0 : decode prog_80_method_5_code 0 = .ok (.iload_n 2, 1) := by decide +kernel
theorem d2_1 : decode prog_80_method_5_code 1 = .ok (.istore 4, 2) := by decide +kernel
theorem d2_3 : decode prog_80_method_5_code 3 = .ok (.iload 4, 2) := by decide +kernel
theorem d2_5 : decode prog_80_method_5_code 5 = .ok (.iload_n 3, 1) := by decide +kernel
theorem d2_6 : decode prog_80_method_5_code 6 = .ok (.if_icmp .ge 24, 3) := by decide +kernel
theorem d2_9 : decode prog_80_method_5_code 9 = .ok (.aload_n 0, 1) := by decide +kernel
theorem d2_10 : decode prog_80_method_5_code 10 = .ok (.iload 4, 2) := by decide +kernel
theorem d2_12 : decode prog_80_method_5_code 12 = .ok (.baload, 1) := by decide +kernel
theorem d2_13 : decode prog_80_method_5_code 13 = .ok (.sipush 255, 3) := by decide +kernel
theorem d2_16 : decode prog_80_method_5_code 16 = .ok (.iand, 1) := by decide +kernel
theorem d2_17 : decode prog_80_method_5_code 17 = .ok (.iload_n 1, 1) := by decide +kernel
theorem d2_18 : decode prog_80_method_5_code 18 = .ok (.if_icmp .ne 6, 3) := by decide +kernel
theorem d2_21 : decode prog_80_method_5_code 21 = .ok (.iload 4, 2) := by decide +kernel
theorem d2_23 : decode prog_80_method_5_code 23 = .ok (.ireturn, 1) := by decide +kernel
theorem d2_24 : decode prog_80_method_5_code 24 = .ok (.iinc 4 1, 3) := by decide +kernel
theorem d2_27 : decode prog_80_method_5_code 27 = .ok (.goto (-24), 3) := by decide +kernel
theorem d2_30 : decode prog_80_method_5_code 30 = .ok (.iconst (-1), 1) := by decide +kernel
theorem d2_31 : decode prog_80_method_5_code 31 = .ok (.ireturn, 1) := by decide +kernel
def Rel2 (p2 : Int32) (p3 : Int32) (p4 : Int32) (bs1 : List Int32) (r : Int32) : Prop := r = own_find bs1 p2 p3.toInt.toNat (p4.toInt - p3.toInt).toNat
def Q2 (Z : State) (a1 : Addr) (p2 : Int32) (p3 : Int32) (p4 : Int32) (bs1 : List Int32) (h0 : Heap) (n0 : Nat) (v : Option Value) (h : Heap) (L : List Loc) : Prop := ∃ r : Int32, v = some (.int r) ∧ Rel2 p2 p3 p4 bs1 r ∧ Fr n0 L ∧ h = h0
theorem ef_rm2 (m : MethodId) (a1 : Addr) (p2 : Int32) (p3 : Int32) (p4 : Int32) : entryFrame m #[(.ref a1), (.int p2), (.int p3), (.int p4)] 5 = mkF m 0 #[.val (.ref a1), .val (.int p2), .val (.int p3), .val (.int p4), .unset] [] := by first | (simp [entryFrame, mkF, argsToLocals, Value.category]; done) | rfl
set_option maxRecDepth 65536 in
set_option maxHeartbeats 40000000 in
theorem rm2 (l : Launch) (Z : State) (a0 : Array Value) (hw : ∀ d ∈ tables_1, d.before a0 Z = true) (ws : List Jvm.Cond) (a1 : Addr) (p2 : Int32) (p3 : Int32) (p4 : Int32) (bs1 : List Int32) (h0 : Heap) (n0 : Nat) (Z0 : n0 ≤ h0.size) (A_a1 : AI Z h0 a1 .byte bs1) (hf : 0 ≤ p3.toInt) (ht : p4.toInt ≤ 4) (hl : bs1.length = 4) :
    MetFree l (⟨"com/example/paillasse/paillasse/message/Delimiters", "indexOf", "([BIII)I"⟩ : MethodName) (head1 (Jvm.Cond.code (⟨"com/example/paillasse/paillasse/message/Delimiters", "indexOf", "([BIII)I"⟩ : MethodName) prog_80_method_5_code 5 (some .int) :: ws) ({ frames := 0, cells := 0, slots := 0, locals := 0 } : Room)) (fun a U => a = #[(.ref a1), (.int p2), (.int p3), (.int p4)] ∧ Z.Warmed39 U.vm ∧ U.heap = h0) (fun _ _ _ _ _ => True) (fun _ U o U' => ∃ v L, o = .returned v ∧ (Q2 Z a1 p2 p3 p4 bs1 h0 n0) v U'.heap L ∧ FrameEnd U o U' L ({ frames := 0, cells := 0, slots := 0, locals := 0 } : Room).cells ({ frames := 0, cells := 0, slots := 0, locals := 0 } : Room).slots) := by
  refine MetFree.of_bodySF (plainFor_of_name pn_1) hisR ?_
  intro p e s m args below meth c s₁ Bd hml0 hP hK
  obtain ⟨rfl, hZ, hh⟩ := hP
  have hx := Bd.exec
  have hby := Bd.bytes
  have hml : c.maxLocals = 5 := hml0
  have hown : s.vm.findClass "com/example/paillasse/paillasse/message/Delimiters" = some m.cls := findClass_of_methodNamed Bd.named
  have hnm := (name_of_methodNamed Bd.named Bd.method).1
  have hlk : meth.locks = false := BodyLoose.notSynchronized Bd
  have X0 : Stand p l e ({ frames := 0, cells := 0, slots := 0, locals := 0 } : Room) s m #[(.ref a1), (.int p2), (.int p3), (.int p4)] below meth c s₁ [] 0 0 := Stand.of_body Bd
  have e0 : s₁.heap = h0 := by rw [← hh, Bd.state]; rfl
  have N0 := Fr.nil n0
  show Go p e below s ({ frames := 0, cells := 0, slots := 0, locals := 0 } : Room).cells ({ frames := 0, cells := 0, slots := 0, locals := 0 } : Room).slots (Q2 Z a1 p2 p3 p4 bs1 h0 n0) s₁ (entryFrame m #[(.ref a1), (.int p2), (.int p3), (.int p4)] 5)
  rw [ef_rm2 m a1 p2 p3 p4]
  refine g_iloadN 1 X0 hx (hb hby d2_0) rfl (v := p3) rfl ?_
  refine g_istore 3 X0 hx (hb hby d2_1) rfl (Ls' := #[.val (.ref a1), .val (.int p2), .val (.int p3), .val (.int p4), .val (.int p3)]) rfl ?_
  have LOOP3 : ∀ (fuel : Nat) (li : Int32), (p4.toInt - li.toInt).toNat < fuel → (0 ≤ li.toInt) → (own_find bs1 p2 li.toInt.toNat (p4.toInt - li.toInt).toNat = own_find bs1 p2 p3.toInt.toNat (p4.toInt - p3.toInt).toNat) → Go p e below s ({ frames := 0, cells := 0, slots := 0, locals := 0 } : Room).cells ({ frames := 0, cells := 0, slots := 0, locals := 0 } : Room).slots (Q2 Z a1 p2 p3 p4 bs1 h0 n0) s₁ (mkF m 3 #[.val (.ref a1), .val (.int p2), .val (.int p3), .val (.int p4), .val (.int li)] []) := by
    intro fuel
    induction fuel with
    | zero => intro li hm; exact absurd hm (Nat.not_lt_zero _)
    | succ fuel ih =>
      intro li hm hi0 hfi
      refine g_iload 5 X0 hx (hb hby d2_3) rfl (v := li) rfl ?_
      refine g_iloadN 6 X0 hx (hb hby d2_5) rfl (v := p4) rfl ?_
      by_cases hc6_0 : li < p4
      ·
        refine g_icmpNo 9 X0 hx (hb hby d2_6)  (tlt hc6_0).2.1 rfl ?_
        refine g_aloadN 10 X0 hx (hb hby d2_9) rfl (v := (.ref a1)) rfl rfl ?_
        refine g_iload 12 X0 hx (hb hby d2_10) rfl (v := li) rfl ?_
        refine g_baload 13 X0 hx hZ e0 A_a1 (li.toInt.toNat) (own_nat0 hi0) rfl (z := (bs1.getD li.toInt.toNat 0)) (own_get (by have q := Int32.lt_iff_toInt_lt.mp hc6_0; have r := ht; omega)) (hb hby d2_12) rfl ?_
        refine g_sipush 16 X0 hx (hb hby d2_13) rfl (z := (255 : Int32)) rfl ?_
        refine g_iand 17 X0 hx (hb hby d2_16) rfl (z := ((bs1.getD li.toInt.toNat 0) &&& (255 : Int32))) rfl ?_
        refine g_iloadN 18 X0 hx (hb hby d2_17) rfl (v := p2) rfl ?_
        by_cases hc18_1 : ((bs1.getD li.toInt.toNat 0) &&& (255 : Int32)) = p2
        ·
          refine g_icmpNo 21 X0 hx (hb hby d2_18)  (teq hc18_1).2 rfl ?_
          refine g_iload 23 X0 hx (hb hby d2_21) rfl (v := li) rfl ?_
          exact g_retI X0 hx Bd.returns hlk (hb hby d2_23) (by decide) (by decide) ⟨li, rfl, ((own_hit hi0 hc6_0 hc18_1).symm.trans hfi), N0, e0⟩
        ·
          refine g_icmpYes 24 X0 hx (hb hby d2_18)  (feq hc18_1).2 (by decide) (by decide) ?_
          refine g_iinc 27 X0 hx (hb hby d2_24) rfl (x := li) rfl (z := (li + (1 : Int32))) rfl (Ls' := #[.val (.ref a1), .val (.int p2), .val (.int p3), .val (.int p4), .val (.int (li + (1 : Int32)))]) rfl ?_
          refine g_goto 3 X0 hx (hb hby d2_27) (by decide) (by decide) ?_
          exact ih (li + (1 : Int32)) (by rw [own_inc hi0 (by have q := Int32.lt_iff_toInt_lt.mp hc6_0; have r := ht; omega)]; have q := Int32.lt_iff_toInt_lt.mp hc6_0; omega) (by rw [own_inc hi0 (by have q := Int32.lt_iff_toInt_lt.mp hc6_0; have r := ht; omega)]; omega) ((own_miss hi0 (by have q := Int32.lt_iff_toInt_lt.mp hc6_0; have r := ht; omega) hc6_0 hc18_1).trans hfi)
      ·
        refine g_icmpYes 30 X0 hx (hb hby d2_6)  (flt hc6_0).2.1 (by decide) (by decide) ?_
        refine g_iconst 31 X0 hx (hb hby d2_30) rfl (z := (-1 : Int32)) rfl ?_
        exact g_retI X0 hx Bd.returns hlk (hb hby d2_31) (by decide) (by decide) ⟨(-1 : Int32), rfl, ((own_over hc6_0).symm.trans hfi), N0, e0⟩
  exact LOOP3 _ p3 (Nat.lt_succ_self _) hf rfl
theorem own_rel (p k d f t r : Int32) (h : Rel1 p k d f t r) : (r = 0 ∧ ¬ (f.toInt ≤ k.toInt ∧ k.toInt < t.toInt ∧ ((p.toUInt32 >>> (((8 : Int32) * k) &&& 31).toUInt32).toInt32 &&& (255 : Int32)) = d)) ∨ (¬ r = 0 ∧ f.toInt ≤ k.toInt ∧ k.toInt < t.toInt ∧ ((p.toUInt32 >>> (((8 : Int32) * k) &&& 31).toUInt32).toInt32 &&& (255 : Int32)) = d) := by
  unfold Rel1 at h
  simp only [Int32.lt_iff_toInt_lt] at h
  rcases h with ⟨a, b⟩ | ⟨x, a, b, c, d, e⟩ | ⟨x, a, b, c, d, e⟩ | ⟨a, b, c⟩
  all_goals first | (refine Or.inl ⟨by assumption, ?_⟩; rintro ⟨u, v, w⟩; omega) | skip
  all_goals (have c' := c; unfold Rel3 at c'; subst c'; first | (refine Or.inr ⟨?_, by omega, by assumption, by assumption⟩; subst e; decide) | (refine Or.inl ⟨by assumption, ?_⟩; rintro ⟨u, v, w⟩; contradiction))
theorem own_core (p d : Int32) (f t : Nat) (hf : f ≤ 4) (ht : t ≤ 4) : own_find [p.toInt8.toInt32.toInt8.toInt32, ((p.toUInt32 >>> ((8 : Int32) &&& 31).toUInt32).toInt32).toInt8.toInt32.toInt8.toInt32, ((p.toUInt32 >>> ((16 : Int32) &&& 31).toUInt32).toInt32).toInt8.toInt32.toInt8.toInt32, ((p.toUInt32 >>> ((24 : Int32) &&& 31).toUInt32).toInt32).toInt8.toInt32.toInt8.toInt32] d f (t - f) = if f ≤ 0 ∧ 0 < t ∧ ((p.toUInt32 >>> (((8 : Int32) * (0 : Int32)) &&& 31).toUInt32).toInt32 &&& (255 : Int32)) = d then 0 else if f ≤ 1 ∧ 1 < t ∧ ((p.toUInt32 >>> (((8 : Int32) * (1 : Int32)) &&& 31).toUInt32).toInt32 &&& (255 : Int32)) = d then 1 else if f ≤ 2 ∧ 2 < t ∧ ((p.toUInt32 >>> (((8 : Int32) * (2 : Int32)) &&& 31).toUInt32).toInt32 &&& (255 : Int32)) = d then 2 else if f ≤ 3 ∧ 3 < t ∧ ((p.toUInt32 >>> (((8 : Int32) * (3 : Int32)) &&& 31).toUInt32).toInt32 &&& (255 : Int32)) = d then 3 else -1 := by
  have x0 : (p.toInt8.toInt32.toInt8.toInt32 &&& (255 : Int32)) = ((p.toUInt32 >>> (((8 : Int32) * (0 : Int32)) &&& 31).toUInt32).toInt32 &&& (255 : Int32)) := by rw [own_byte, own_sh0]
  have x1 : (((p.toUInt32 >>> ((8 : Int32) &&& 31).toUInt32).toInt32).toInt8.toInt32.toInt8.toInt32 &&& (255 : Int32)) = ((p.toUInt32 >>> (((8 : Int32) * (1 : Int32)) &&& 31).toUInt32).toInt32 &&& (255 : Int32)) := own_byte _
  have x2 : (((p.toUInt32 >>> ((16 : Int32) &&& 31).toUInt32).toInt32).toInt8.toInt32.toInt8.toInt32 &&& (255 : Int32)) = ((p.toUInt32 >>> (((8 : Int32) * (2 : Int32)) &&& 31).toUInt32).toInt32 &&& (255 : Int32)) := own_byte _
  have x3 : (((p.toUInt32 >>> ((24 : Int32) &&& 31).toUInt32).toInt32).toInt8.toInt32.toInt8.toInt32 &&& (255 : Int32)) = ((p.toUInt32 >>> (((8 : Int32) * (3 : Int32)) &&& 31).toUInt32).toInt32 &&& (255 : Int32)) := own_byte _
  generalize ((p.toUInt32 >>> (((8 : Int32) * (0 : Int32)) &&& 31).toUInt32).toInt32 &&& (255 : Int32)) = U0 at *
  generalize ((p.toUInt32 >>> (((8 : Int32) * (1 : Int32)) &&& 31).toUInt32).toInt32 &&& (255 : Int32)) = U1 at *
  generalize ((p.toUInt32 >>> (((8 : Int32) * (2 : Int32)) &&& 31).toUInt32).toInt32 &&& (255 : Int32)) = U2 at *
  generalize ((p.toUInt32 >>> (((8 : Int32) * (3 : Int32)) &&& 31).toUInt32).toInt32 &&& (255 : Int32)) = U3 at *
  generalize p.toInt8.toInt32.toInt8.toInt32 = B0 at *
  generalize ((p.toUInt32 >>> ((8 : Int32) &&& 31).toUInt32).toInt32).toInt8.toInt32.toInt8.toInt32 = B1 at *
  generalize ((p.toUInt32 >>> ((16 : Int32) &&& 31).toUInt32).toInt32).toInt8.toInt32.toInt8.toInt32 = B2 at *
  generalize ((p.toUInt32 >>> ((24 : Int32) &&& 31).toUInt32).toInt32).toInt8.toInt32.toInt8.toInt32 = B3 at *
  subst x0 x1 x2 x3
  obtain rfl | rfl | rfl | rfl | rfl : f = 0 ∨ f = 1 ∨ f = 2 ∨ f = 3 ∨ f = 4 := by omega
  all_goals obtain rfl | rfl | rfl | rfl | rfl : t = 0 ∨ t = 1 ∨ t = 2 ∨ t = 3 ∨ t = 4 := by omega
  all_goals simp [own_find]
theorem own_leaf (p d f t r3 r2 r1 r0 e3 e2 e1 e0 r z : Int32) (hf : 0 ≤ f.toInt ∧ f.toInt ≤ 4) (ht : 0 ≤ t.toInt ∧ t.toInt ≤ 4) (h3 : Rel1 p (3 : Int32) d f t r3) (j3 : (r3 = (0 : Int32) ∧ e3 = (-1 : Int32)) ∨ (¬ (r3 = (0 : Int32)) ∧ e3 = (3 : Int32))) (h2 : Rel1 p (2 : Int32) d f t r2) (j2 : (r2 = (0 : Int32) ∧ e2 = e3) ∨ (¬ (r2 = (0 : Int32)) ∧ e2 = (2 : Int32))) (h1 : Rel1 p (1 : Int32) d f t r1) (j1 : (r1 = (0 : Int32) ∧ e1 = e2) ∨ (¬ (r1 = (0 : Int32)) ∧ e1 = (1 : Int32))) (h0 : Rel1 p (0 : Int32) d f t r0) (j0 : (r0 = (0 : Int32) ∧ e0 = e1) ∨ (¬ (r0 = (0 : Int32)) ∧ e0 = (0 : Int32))) (hr : Rel2 d f t [p.toInt8.toInt32.toInt8.toInt32, ((p.toUInt32 >>> ((8 : Int32) &&& 31).toUInt32).toInt32).toInt8.toInt32.toInt8.toInt32, ((p.toUInt32 >>> ((16 : Int32) &&& 31).toUInt32).toInt32).toInt8.toInt32.toInt8.toInt32, ((p.toUInt32 >>> ((24 : Int32) &&& 31).toUInt32).toInt32).toInt8.toInt32.toInt8.toInt32] r) (hz : (r = e0 ∧ z = (1 : Int32)) ∨ (¬ (r = e0) ∧ z = (0 : Int32))) : z = 1 := by
  have k : r = e0 := by
    unfold Rel2 at hr
    rw [show (t.toInt - f.toInt).toNat = t.toInt.toNat - f.toInt.toNat by omega, own_core p d _ _ (by omega) (by omega)] at hr
    have q3 := own_rel _ _ _ _ _ _ h3
    have q2 := own_rel _ _ _ _ _ _ h2
    have q1 := own_rel _ _ _ _ _ _ h1
    have q0 := own_rel _ _ _ _ _ _ h0
    simp only [Int32.reduceToInt] at q3 q2 q1 q0
    rw [hr]
    clear hr h3 h2 h1 h0 hz
    generalize ((p.toUInt32 >>> (((8 : Int32) * (0 : Int32)) &&& 31).toUInt32).toInt32 &&& (255 : Int32)) = U0 at *
    generalize ((p.toUInt32 >>> (((8 : Int32) * (1 : Int32)) &&& 31).toUInt32).toInt32 &&& (255 : Int32)) = U1 at *
    generalize ((p.toUInt32 >>> (((8 : Int32) * (2 : Int32)) &&& 31).toUInt32).toInt32 &&& (255 : Int32)) = U2 at *
    generalize ((p.toUInt32 >>> (((8 : Int32) * (3 : Int32)) &&& 31).toUInt32).toInt32 &&& (255 : Int32)) = U3 at *
    rcases q0 with ⟨x0, y0⟩ | ⟨x0, y0, w0, v0⟩
    · rw [if_neg (fun g => y0 ⟨by omega, by omega, g.2.2⟩)]
      have z0 : e0 = e1 := by rcases j0 with ⟨_, a⟩ | ⟨a, _⟩; exact a; exact absurd x0 a
      rcases q1 with ⟨x1, y1⟩ | ⟨x1, y1, w1, v1⟩
      · rw [if_neg (fun g => y1 ⟨by omega, by omega, g.2.2⟩)]
        have z1 : e1 = e2 := by rcases j1 with ⟨_, a⟩ | ⟨a, _⟩; exact a; exact absurd x1 a
        rcases q2 with ⟨x2, y2⟩ | ⟨x2, y2, w2, v2⟩
        · rw [if_neg (fun g => y2 ⟨by omega, by omega, g.2.2⟩)]
          have z2 : e2 = e3 := by rcases j2 with ⟨_, a⟩ | ⟨a, _⟩; exact a; exact absurd x2 a
          rcases q3 with ⟨x3, y3⟩ | ⟨x3, y3, w3, v3⟩
          · rw [if_neg (fun g => y3 ⟨by omega, by omega, g.2.2⟩), z0, z1, z2]
            rcases j3 with ⟨_, a⟩ | ⟨a, _⟩; exact a.symm; exact absurd x3 a
          · rw [if_pos ⟨by omega, by omega, v3⟩, z0, z1, z2]
            rcases j3 with ⟨a, _⟩ | ⟨_, a⟩; exact absurd a x3; exact a.symm
        · rw [if_pos ⟨by omega, by omega, v2⟩, z0, z1]
          rcases j2 with ⟨a, _⟩ | ⟨_, a⟩; exact absurd a x2; exact a.symm
      · rw [if_pos ⟨by omega, by omega, v1⟩, z0]
        rcases j1 with ⟨a, _⟩ | ⟨_, a⟩; exact absurd a x1; exact a.symm
    · rw [if_pos ⟨by omega, by omega, v0⟩]
      rcases j0 with ⟨a, _⟩ | ⟨_, a⟩; exact absurd a x0; exact a.symm
  rcases hz with ⟨_, b⟩ | ⟨a, _⟩
  · exact b
  · exact absurd k a
theorem pd_1 : parseMethodDescriptor "(IIIII)Z" = some ⟨[.int, .int, .int, .int, .int], some .boolean⟩ := by decide +kernel
theorem pd_2 : parseMethodDescriptor "([BIII)I" = some ⟨[(.array .byte), .int, .int, .int], some .int⟩ := by decide +kernel
theorem sub0_0 (p4 : Int32) (z25 : Int32) (z26 : Int32) (hz25 : p4 &&& (2147483647 : Int32) = z25) (hz26 : z25 % (5 : Int32) = z26) : 0 ≤ z26.toInt ∧ z26.toInt ≤ 4 := by
  have o0 := rng32 p4
  have o1 := rng32 (p4 &&& (2147483647 : Int32))
  have o2 := c_mask p4 (2147483647 : Int32) 31 (by decide) (by decide)
  have o3 := rng32 z25
  have o4 := rng32 (z25 % (5 : Int32))
  have o5 := c_irem z25 (5 : Int32) 5 (by decide)
  have o6 := rng32 z26
  simp only [Int32.lt_iff_toInt_lt, Int64.lt_iff_toInt_lt, Int32.le_iff_toInt_le, Int64.le_iff_toInt_le, ← Int32.toInt_inj, ← Int64.toInt_inj, Int32.reduceToInt, Int64.reduceToInt, Int32.toInt_toInt64, ne_eq] at * <;> omega
theorem sub0_1 (p5 : Int32) (z27 : Int32) (z28 : Int32) (hz27 : p5 &&& (2147483647 : Int32) = z27) (hz28 : z27 % (5 : Int32) = z28) : 0 ≤ z28.toInt ∧ z28.toInt ≤ 4 := by
  have o0 := rng32 p5
  have o1 := rng32 (p5 &&& (2147483647 : Int32))
  have o2 := c_mask p5 (2147483647 : Int32) 31 (by decide) (by decide)
  have o3 := rng32 z27
  have o4 := rng32 (z27 % (5 : Int32))
  have o5 := c_irem z27 (5 : Int32) 5 (by decide)
  have o6 := rng32 z28
  simp only [Int32.lt_iff_toInt_lt, Int64.lt_iff_toInt_lt, Int32.le_iff_toInt_le, Int64.le_iff_toInt_le, ← Int32.toInt_inj, ← Int64.toInt_inj, Int32.reduceToInt, Int64.reduceToInt, Int32.toInt_toInt64, ne_eq] at * <;> omega
theorem sub0_2 (p4 : Int32) (z54 : Int32) (z55 : Int32) (hz54 : p4 &&& (2147483647 : Int32) = z54) (hz55 : z54 % (5 : Int32) = z55) : 0 ≤ z55.toInt ∧ z55.toInt ≤ 4 := by
  have o0 := rng32 p4
  have o1 := rng32 (p4 &&& (2147483647 : Int32))
  have o2 := c_mask p4 (2147483647 : Int32) 31 (by decide) (by decide)
  have o3 := rng32 z54
  have o4 := rng32 (z54 % (5 : Int32))
  have o5 := c_irem z54 (5 : Int32) 5 (by decide)
  have o6 := rng32 z55
  simp only [Int32.lt_iff_toInt_lt, Int64.lt_iff_toInt_lt, Int32.le_iff_toInt_le, Int64.le_iff_toInt_le, ← Int32.toInt_inj, ← Int64.toInt_inj, Int32.reduceToInt, Int64.reduceToInt, Int32.toInt_toInt64, ne_eq] at * <;> omega
theorem sub0_3 (p5 : Int32) (z56 : Int32) (z57 : Int32) (hz56 : p5 &&& (2147483647 : Int32) = z56) (hz57 : z56 % (5 : Int32) = z57) : 0 ≤ z57.toInt ∧ z57.toInt ≤ 4 := by
  have o0 := rng32 p5
  have o1 := rng32 (p5 &&& (2147483647 : Int32))
  have o2 := c_mask p5 (2147483647 : Int32) 31 (by decide) (by decide)
  have o3 := rng32 z56
  have o4 := rng32 (z56 % (5 : Int32))
  have o5 := c_irem z56 (5 : Int32) 5 (by decide)
  have o6 := rng32 z57
  simp only [Int32.lt_iff_toInt_lt, Int64.lt_iff_toInt_lt, Int32.le_iff_toInt_le, Int64.le_iff_toInt_le, ← Int32.toInt_inj, ← Int64.toInt_inj, Int32.reduceToInt, Int64.reduceToInt, Int32.toInt_toInt64, ne_eq] at * <;> omega
theorem sub0_4 (p4 : Int32) (z84 : Int32) (z85 : Int32) (hz84 : p4 &&& (2147483647 : Int32) = z84) (hz85 : z84 % (5 : Int32) = z85) : 0 ≤ z85.toInt ∧ z85.toInt ≤ 4 := by
  have o0 := rng32 p4
  have o1 := rng32 (p4 &&& (2147483647 : Int32))
  have o2 := c_mask p4 (2147483647 : Int32) 31 (by decide) (by decide)
  have o3 := rng32 z84
  have o4 := rng32 (z84 % (5 : Int32))
  have o5 := c_irem z84 (5 : Int32) 5 (by decide)
  have o6 := rng32 z85
  simp only [Int32.lt_iff_toInt_lt, Int64.lt_iff_toInt_lt, Int32.le_iff_toInt_le, Int64.le_iff_toInt_le, ← Int32.toInt_inj, ← Int64.toInt_inj, Int32.reduceToInt, Int64.reduceToInt, Int32.toInt_toInt64, ne_eq] at * <;> omega
theorem sub0_5 (p5 : Int32) (z86 : Int32) (z87 : Int32) (hz86 : p5 &&& (2147483647 : Int32) = z86) (hz87 : z86 % (5 : Int32) = z87) : 0 ≤ z87.toInt ∧ z87.toInt ≤ 4 := by
  have o0 := rng32 p5
  have o1 := rng32 (p5 &&& (2147483647 : Int32))
  have o2 := c_mask p5 (2147483647 : Int32) 31 (by decide) (by decide)
  have o3 := rng32 z86
  have o4 := rng32 (z86 % (5 : Int32))
  have o5 := c_irem z86 (5 : Int32) 5 (by decide)
  have o6 := rng32 z87
  simp only [Int32.lt_iff_toInt_lt, Int64.lt_iff_toInt_lt, Int32.le_iff_toInt_le, Int64.le_iff_toInt_le, ← Int32.toInt_inj, ← Int64.toInt_inj, Int32.reduceToInt, Int64.reduceToInt, Int32.toInt_toInt64, ne_eq] at * <;> omega
theorem leaf_0 (p1 : Int32) (p2 : Int32) (p3 : Int32) (p4 : Int32) (p5 : Int32) (z3 : Int32) (z7 : Int32) (z8 : Int32) (z12 : Int32) (z13 : Int32) (z17 : Int32) (z18 : Int32) (z22 : Int32) (z23 : Int32) (z26 : Int32) (z28 : Int32) (r29 : Int32) (z31 : Int32) (r33 : Int32) (z35 : Int32) (r37 : Int32) (z39 : Int32) (r41 : Int32) (z43 : Int32) (r45 : Int32) (z50 : Int32) (hz3 : p1.toInt8.toInt32 = z3) (hz7 : (p1.toUInt32 >>> ((8 : Int32) &&& 31).toUInt32).toInt32 = z7) (hz8 : z7.toInt8.toInt32 = z8) (hz12 : (p1.toUInt32 >>> ((16 : Int32) &&& 31).toUInt32).toInt32 = z12) (hz13 : z12.toInt8.toInt32 = z13) (hz17 : (p1.toUInt32 >>> ((24 : Int32) &&& 31).toUInt32).toInt32 = z17) (hz18 : z17.toInt8.toInt32 = z18) (hF : 0 ≤ z26.toInt ∧ z26.toInt ≤ 4) (hT : 0 ≤ z28.toInt ∧ z28.toInt ≤ 4) (hr29 : Rel1 p1 (3 : Int32) p2 z26 z28 r29) (hj32 : (r29 = (0 : Int32) ∧ z31 = (-1 : Int32)) ∨ (¬ (r29 = (0 : Int32)) ∧ z31 = (3 : Int32))) (hr33 : Rel1 p1 (2 : Int32) p2 z26 z28 r33) (hj36 : (r33 = (0 : Int32) ∧ z35 = z31) ∨ (¬ (r33 = (0 : Int32)) ∧ z35 = (2 : Int32))) (hr37 : Rel1 p1 (1 : Int32) p2 z26 z28 r37) (hj40 : (r37 = (0 : Int32) ∧ z39 = z35) ∨ (¬ (r37 = (0 : Int32)) ∧ z39 = (1 : Int32))) (hr41 : Rel1 p1 (0 : Int32) p2 z26 z28 r41) (hj44 : (r41 = (0 : Int32) ∧ z43 = z39) ∨ (¬ (r41 = (0 : Int32)) ∧ z43 = (0 : Int32))) (hr45 : Rel2 p2 z26 z28 [z3.toInt8.toInt32, z8.toInt8.toInt32, z13.toInt8.toInt32, z18.toInt8.toInt32] r45) (hj51 : (r45 = z43 ∧ z50 = (1 : Int32)) ∨ (¬ (r45 = z43) ∧ z50 = (0 : Int32))) : z50 = 1 := by
  subst hz3 hz7 hz8 hz12 hz13 hz17 hz18
  exact own_leaf _ _ _ _ _ _ _ _ _ _ _ _ _ _ hF hT hr29 hj32 hr33 hj36 hr37 hj40 hr41 hj44 hr45 hj51
theorem leaf_1 (p1 : Int32) (p2 : Int32) (p3 : Int32) (p4 : Int32) (p5 : Int32) (z3 : Int32) (z7 : Int32) (z8 : Int32) (z12 : Int32) (z13 : Int32) (z17 : Int32) (z18 : Int32) (z22 : Int32) (z23 : Int32) (r53 : Int32) (z55 : Int32) (z57 : Int32) (r58 : Int32) (z60 : Int32) (r62 : Int32) (z64 : Int32) (r66 : Int32) (z68 : Int32) (r70 : Int32) (z72 : Int32) (r74 : Int32) (z79 : Int32) (hz3 : p1.toInt8.toInt32 = z3) (hz7 : (p1.toUInt32 >>> ((8 : Int32) &&& 31).toUInt32).toInt32 = z7) (hz8 : z7.toInt8.toInt32 = z8) (hz12 : (p1.toUInt32 >>> ((16 : Int32) &&& 31).toUInt32).toInt32 = z12) (hz13 : z12.toInt8.toInt32 = z13) (hz17 : (p1.toUInt32 >>> ((24 : Int32) &&& 31).toUInt32).toInt32 = z17) (hz18 : z17.toInt8.toInt32 = z18) (hF : 0 ≤ z55.toInt ∧ z55.toInt ≤ 4) (hT : 0 ≤ z57.toInt ∧ z57.toInt ≤ 4) (hr58 : Rel1 p1 (3 : Int32) r53 z55 z57 r58) (hj61 : (r58 = (0 : Int32) ∧ z60 = (-1 : Int32)) ∨ (¬ (r58 = (0 : Int32)) ∧ z60 = (3 : Int32))) (hr62 : Rel1 p1 (2 : Int32) r53 z55 z57 r62) (hj65 : (r62 = (0 : Int32) ∧ z64 = z60) ∨ (¬ (r62 = (0 : Int32)) ∧ z64 = (2 : Int32))) (hr66 : Rel1 p1 (1 : Int32) r53 z55 z57 r66) (hj69 : (r66 = (0 : Int32) ∧ z68 = z64) ∨ (¬ (r66 = (0 : Int32)) ∧ z68 = (1 : Int32))) (hr70 : Rel1 p1 (0 : Int32) r53 z55 z57 r70) (hj73 : (r70 = (0 : Int32) ∧ z72 = z68) ∨ (¬ (r70 = (0 : Int32)) ∧ z72 = (0 : Int32))) (hr74 : Rel2 r53 z55 z57 [z3.toInt8.toInt32, z8.toInt8.toInt32, z13.toInt8.toInt32, z18.toInt8.toInt32] r74) (hj80 : (r74 = z72 ∧ z79 = (1 : Int32)) ∨ (¬ (r74 = z72) ∧ z79 = (0 : Int32))) : z79 = 1 := by
  subst hz3 hz7 hz8 hz12 hz13 hz17 hz18
  exact own_leaf _ _ _ _ _ _ _ _ _ _ _ _ _ _ hF hT hr58 hj61 hr62 hj65 hr66 hj69 hr70 hj73 hr74 hj80
theorem leaf_2 (p1 : Int32) (p2 : Int32) (p3 : Int32) (p4 : Int32) (p5 : Int32) (z3 : Int32) (z7 : Int32) (z8 : Int32) (z12 : Int32) (z13 : Int32) (z17 : Int32) (z18 : Int32) (z22 : Int32) (z23 : Int32) (z82 : Int32) (z85 : Int32) (z87 : Int32) (r88 : Int32) (z90 : Int32) (r92 : Int32) (z94 : Int32) (r96 : Int32) (z98 : Int32) (r100 : Int32) (z102 : Int32) (r104 : Int32) (z109 : Int32) (hz3 : p1.toInt8.toInt32 = z3) (hz7 : (p1.toUInt32 >>> ((8 : Int32) &&& 31).toUInt32).toInt32 = z7) (hz8 : z7.toInt8.toInt32 = z8) (hz12 : (p1.toUInt32 >>> ((16 : Int32) &&& 31).toUInt32).toInt32 = z12) (hz13 : z12.toInt8.toInt32 = z13) (hz17 : (p1.toUInt32 >>> ((24 : Int32) &&& 31).toUInt32).toInt32 = z17) (hz18 : z17.toInt8.toInt32 = z18) (hF : 0 ≤ z85.toInt ∧ z85.toInt ≤ 4) (hT : 0 ≤ z87.toInt ∧ z87.toInt ≤ 4) (hr88 : Rel1 p1 (3 : Int32) z82 z85 z87 r88) (hj91 : (r88 = (0 : Int32) ∧ z90 = (-1 : Int32)) ∨ (¬ (r88 = (0 : Int32)) ∧ z90 = (3 : Int32))) (hr92 : Rel1 p1 (2 : Int32) z82 z85 z87 r92) (hj95 : (r92 = (0 : Int32) ∧ z94 = z90) ∨ (¬ (r92 = (0 : Int32)) ∧ z94 = (2 : Int32))) (hr96 : Rel1 p1 (1 : Int32) z82 z85 z87 r96) (hj99 : (r96 = (0 : Int32) ∧ z98 = z94) ∨ (¬ (r96 = (0 : Int32)) ∧ z98 = (1 : Int32))) (hr100 : Rel1 p1 (0 : Int32) z82 z85 z87 r100) (hj103 : (r100 = (0 : Int32) ∧ z102 = z98) ∨ (¬ (r100 = (0 : Int32)) ∧ z102 = (0 : Int32))) (hr104 : Rel2 z82 z85 z87 [z3.toInt8.toInt32, z8.toInt8.toInt32, z13.toInt8.toInt32, z18.toInt8.toInt32] r104) (hj110 : (r104 = z102 ∧ z109 = (1 : Int32)) ∨ (¬ (r104 = z102) ∧ z109 = (0 : Int32))) : z109 = 1 := by
  subst hz3 hz7 hz8 hz12 hz13 hz17 hz18
  exact own_leaf _ _ _ _ _ _ _ _ _ _ _ _ _ _ hF hT hr88 hj91 hr92 hj95 hr96 hj99 hr100 hj103 hr104 hj110
def Q0 (Z : State) (p1 : Int32) (p2 : Int32) (p3 : Int32) (p4 : Int32) (p5 : Int32) (h0 : Heap) (n0 : Nat) (v : Option Value) (h : Heap) (L : List Loc) : Prop := v = some (.int (1 : Int32)) ∧ Fr n0 L
theorem ef_rm0 (m : MethodId) (p1 : Int32) (p2 : Int32) (p3 : Int32) (p4 : Int32) (p5 : Int32) : entryFrame m #[(.int p1), (.int p2), (.int p3), (.int p4), (.int p5)] maxLocals = mkF m 0 #[.val (.int p1), .val (.int p2), .val (.int p3), .val (.int p4), .val (.int p5), .unset, .unset, .unset, .unset, .unset, .unset, .unset, .unset] [] := by first | (simp [entryFrame, mkF, argsToLocals, Value.category, maxLocals]; done) | rfl
set_option maxRecDepth 65536 in
set_option maxHeartbeats 40000000 in
theorem rm0 (l : Launch) (Z : State) (a0 : Array Value) (hw : ∀ d ∈ tables_1, d.before a0 Z = true) (ws : List Jvm.Cond) (p1 : Int32) (p2 : Int32) (p3 : Int32) (p4 : Int32) (p5 : Int32) (h0 : Heap) (n0 : Nat) (Z0 : n0 ≤ h0.size)  :
    MetFree l x (head1 (Jvm.Cond.code x code maxLocals ret :: ws) room_1) (fun a U => a = #[(.int p1), (.int p2), (.int p3), (.int p4), (.int p5)] ∧ Z.Warmed39 U.vm ∧ U.heap = h0) (fun _ _ _ _ _ => True) (fun _ U o U' => ∃ v L, o = .returned v ∧ (Q0 Z p1 p2 p3 p4 p5 h0 n0) v U'.heap L ∧ FrameEnd U o U' L 16 128) := by
  refine MetFree.of_bodySF (plainFor_of_name pn_0) hisR ?_
  intro p e s m args below meth c s₁ Bd hml0 hP hK
  obtain ⟨rfl, hZ, hh⟩ := hP
  have hx := Bd.exec
  have hby := Bd.bytes
  have hml : c.maxLocals = 13 := hml0
  have hown : s.vm.findClass "com/example/paillasse/paillasse/message/DelimitersIndexOfPinLaw" = some m.cls := findClass_of_methodNamed Bd.named
  have hnm := (name_of_methodNamed Bd.named Bd.method).1
  have hlk : meth.locks = false := BodyLoose.notSynchronized Bd
  have X0 : Stand p l e room_1 s m #[(.int p1), (.int p2), (.int p3), (.int p4), (.int p5)] below meth c s₁ [] 0 0 := Stand.of_body Bd
  have e0 : s₁.heap = h0 := by rw [← hh, Bd.state]; rfl
  have N0 := Fr.nil n0
  show Go p e below s 16 128 (Q0 Z p1 p2 p3 p4 p5 h0 n0) s₁ (entryFrame m #[(.int p1), (.int p2), (.int p3), (.int p4), (.int p5)] maxLocals)
  rw [ef_rm0 m p1 p2 p3 p4 p5]
  refine g_iconst 1 X0 hx (hb hby at_0) rfl (z := (4 : Int32)) rfl ?_
  refine g_new_byte 3 X0 hx hZ (hw _ (List.mem_of_getElem? (i := 0) rfl)) e0 4 4 (by decide) rfl (by decide) (by decide) (by decide) (by decide) (hb hby at_1) rfl ?_
  intro T1 h1 b1 X1 e1 E1 g1 A1
  have Zs2 : n0 ≤ h1.size := (Nat.le_trans Z0 E1.1)
  have g_b1 : n0 ≤ b1 := Nat.le_trans Z0 (Nat.le_of_eq g1.symm)
  have A1' : AI Z h1 b1 .byte [(0 : Int32), (0 : Int32), (0 : Int32), (0 : Int32)] := A1
  refine g_astore 5 X1 hx (hb hby at_3) rfl (Ls' := #[.val (.int p1), .val (.int p2), .val (.int p3), .val (.int p4), .val (.int p5), .val (.ref b1), .unset, .unset, .unset, .unset, .unset, .unset, .unset]) rfl rfl ?_
  refine g_aload 7 X1 hx (hb hby at_5) rfl (v := (.ref b1)) rfl rfl ?_
  refine g_iconst 8 X1 hx (hb hby at_7) rfl (z := (0 : Int32)) rfl ?_
  refine g_iloadN 9 X1 hx (hb hby at_8) rfl (v := p1) rfl ?_
  obtain ⟨z3, hz3⟩ : ∃ z : Int32, p1.toInt8.toInt32 = z := ⟨_, rfl⟩
  refine g_i2b 10 X1 hx (hb hby at_9) rfl (z := z3) hz3 ?_
  refine g_bastore 11 X1 hx hZ e1 A1' 0 (by decide) rfl (Nat.le_of_ble_eq_true rfl) (z := z3.toInt8.toInt32) rfl (hb hby at_10) rfl ?_
  intro T4 h4 X4 e4 W4 A4
  have Zs5 : n0 ≤ h4.size := (Nat.le_trans Zs2 (Keep.of_wr W4).1)
  have A4' : AI Z h4 b1 .byte [z3.toInt8.toInt32, (0 : Int32), (0 : Int32), (0 : Int32)] := A4
  have N6 := Fr.snoc X4 N0 g_b1
  refine g_aload 13 X4 hx (hb hby at_11) rfl (v := (.ref b1)) rfl rfl ?_
  refine g_iconst 14 X4 hx (hb hby at_13) rfl (z := (1 : Int32)) rfl ?_
  refine g_iloadN 15 X4 hx (hb hby at_14) rfl (v := p1) rfl ?_
  refine g_bipush 17 X4 hx (hb hby at_15) rfl (z := (8 : Int32)) rfl ?_
  obtain ⟨z7, hz7⟩ : ∃ z : Int32, (p1.toUInt32 >>> ((8 : Int32) &&& 31).toUInt32).toInt32 = z := ⟨_, rfl⟩
  refine g_iushr 18 X4 hx (hb hby at_17) rfl (z := z7) hz7 ?_
  obtain ⟨z8, hz8⟩ : ∃ z : Int32, z7.toInt8.toInt32 = z := ⟨_, rfl⟩
  refine g_i2b 19 X4 hx (hb hby at_18) rfl (z := z8) hz8 ?_
  refine g_bastore 20 X4 hx hZ e4 A4' 1 (by decide) rfl (Nat.le_of_ble_eq_true rfl) (z := z8.toInt8.toInt32) rfl (hb hby at_19) rfl ?_
  intro T9 h9 X9 e9 W9 A9
  have Zs10 : n0 ≤ h9.size := (Nat.le_trans Zs5 (Keep.of_wr W9).1)
  have A9' : AI Z h9 b1 .byte [z3.toInt8.toInt32, z8.toInt8.toInt32, (0 : Int32), (0 : Int32)] := A9
  have N11 := Fr.snoc X9 N6 g_b1
  refine g_aload 22 X9 hx (hb hby at_20) rfl (v := (.ref b1)) rfl rfl ?_
  refine g_iconst 23 X9 hx (hb hby at_22) rfl (z := (2 : Int32)) rfl ?_
  refine g_iloadN 24 X9 hx (hb hby at_23) rfl (v := p1) rfl ?_
  refine g_bipush 26 X9 hx (hb hby at_24) rfl (z := (16 : Int32)) rfl ?_
  obtain ⟨z12, hz12⟩ : ∃ z : Int32, (p1.toUInt32 >>> ((16 : Int32) &&& 31).toUInt32).toInt32 = z := ⟨_, rfl⟩
  refine g_iushr 27 X9 hx (hb hby at_26) rfl (z := z12) hz12 ?_
  obtain ⟨z13, hz13⟩ : ∃ z : Int32, z12.toInt8.toInt32 = z := ⟨_, rfl⟩
  refine g_i2b 28 X9 hx (hb hby at_27) rfl (z := z13) hz13 ?_
  refine g_bastore 29 X9 hx hZ e9 A9' 2 (by decide) rfl (Nat.le_of_ble_eq_true rfl) (z := z13.toInt8.toInt32) rfl (hb hby at_28) rfl ?_
  intro T14 h14 X14 e14 W14 A14
  have Zs15 : n0 ≤ h14.size := (Nat.le_trans Zs10 (Keep.of_wr W14).1)
  have A14' : AI Z h14 b1 .byte [z3.toInt8.toInt32, z8.toInt8.toInt32, z13.toInt8.toInt32, (0 : Int32)] := A14
  have N16 := Fr.snoc X14 N11 g_b1
  refine g_aload 31 X14 hx (hb hby at_29) rfl (v := (.ref b1)) rfl rfl ?_
  refine g_iconst 32 X14 hx (hb hby at_31) rfl (z := (3 : Int32)) rfl ?_
  refine g_iloadN 33 X14 hx (hb hby at_32) rfl (v := p1) rfl ?_
  refine g_bipush 35 X14 hx (hb hby at_33) rfl (z := (24 : Int32)) rfl ?_
  obtain ⟨z17, hz17⟩ : ∃ z : Int32, (p1.toUInt32 >>> ((24 : Int32) &&& 31).toUInt32).toInt32 = z := ⟨_, rfl⟩
  refine g_iushr 36 X14 hx (hb hby at_35) rfl (z := z17) hz17 ?_
  obtain ⟨z18, hz18⟩ : ∃ z : Int32, z17.toInt8.toInt32 = z := ⟨_, rfl⟩
  refine g_i2b 37 X14 hx (hb hby at_36) rfl (z := z18) hz18 ?_
  refine g_bastore 38 X14 hx hZ e14 A14' 3 (by decide) rfl (Nat.le_of_ble_eq_true rfl) (z := z18.toInt8.toInt32) rfl (hb hby at_37) rfl ?_
  intro T19 h19 X19 e19 W19 A19
  have Zs20 : n0 ≤ h19.size := (Nat.le_trans Zs15 (Keep.of_wr W19).1)
  have A19' : AI Z h19 b1 .byte [z3.toInt8.toInt32, z8.toInt8.toInt32, z13.toInt8.toInt32, z18.toInt8.toInt32] := A19
  have N21 := Fr.snoc X19 N16 g_b1
  refine g_iloadN 39 X19 hx (hb hby at_38) rfl (v := p2) rfl ?_
  refine g_iconst 40 X19 hx (hb hby at_39) rfl (z := (3 : Int32)) rfl ?_
  obtain ⟨z22, hz22⟩ : ∃ z : Int32, p2 &&& (3 : Int32) = z := ⟨_, rfl⟩
  refine g_iand 41 X19 hx (hb hby at_40) rfl (z := z22) hz22 ?_
  refine g_istore 43 X19 hx (hb hby at_41) rfl (Ls' := #[.val (.int p1), .val (.int p2), .val (.int p3), .val (.int p4), .val (.int p5), .val (.ref b1), .val (.int z22), .unset, .unset, .unset, .unset, .unset, .unset]) rfl ?_
  refine g_iloadN 44 X19 hx (hb hby at_43) rfl (v := p3) rfl ?_
  refine g_iconst 45 X19 hx (hb hby at_44) rfl (z := (3 : Int32)) rfl ?_
  obtain ⟨z23, hz23⟩ : ∃ z : Int32, p3 &&& (3 : Int32) = z := ⟨_, rfl⟩
  refine g_iand 46 X19 hx (hb hby at_45) rfl (z := z23) hz23 ?_
  refine g_istore 48 X19 hx (hb hby at_46) rfl (Ls' := #[.val (.int p1), .val (.int p2), .val (.int p3), .val (.int p4), .val (.int p5), .val (.ref b1), .val (.int z22), .val (.int z23), .unset, .unset, .unset, .unset, .unset]) rfl ?_
  refine g_iload 50 X19 hx (hb hby at_48) rfl (v := z23) rfl ?_
  by_cases hc50_23 : z23 = (0 : Int32)
  ·
    refine g_ifNo 53 X19 hx (hb hby at_50)  ((if0 _ _).trans (teq hc50_23).2) rfl ?_
    refine g_iloadN 54 X19 hx (hb hby at_53) rfl (v := p2) rfl ?_
    refine g_istore 56 X19 hx (hb hby at_54) rfl (Ls' := #[.val (.int p1), .val (.int p2), .val (.int p3), .val (.int p4), .val (.int p5), .val (.ref b1), .val (.int z22), .val (.int z23), .val (.int p2), .unset, .unset, .unset, .unset]) rfl ?_
    refine g_goto 102 X19 hx (hb hby at_56) (by decide) (by decide) ?_
    refine g_iloadN 103 X19 hx (hb hby at_102) rfl (v := p4) rfl ?_
    refine g_ldc 105 X19 hx hZ hown (hw _ (List.mem_of_getElem? (i := 1) rfl)) (hb hby at_103) rfl ?_
    obtain ⟨z25, hz25⟩ : ∃ z : Int32, p4 &&& (2147483647 : Int32) = z := ⟨_, rfl⟩
    refine g_iand 106 X19 hx (hb hby at_105) rfl (z := z25) hz25 ?_
    refine g_iconst 107 X19 hx (hb hby at_106) rfl (z := (5 : Int32)) rfl ?_
    obtain ⟨z26, hz26⟩ : ∃ z : Int32, z25 % (5 : Int32) = z := ⟨_, rfl⟩
    refine g_irem 108 X19 hx (hb hby at_107) rfl (by decide) (z := z26) hz26 ?_
    refine g_istore 110 X19 hx (hb hby at_108) rfl (Ls' := #[.val (.int p1), .val (.int p2), .val (.int p3), .val (.int p4), .val (.int p5), .val (.ref b1), .val (.int z22), .val (.int z23), .val (.int p2), .val (.int z26), .unset, .unset, .unset]) rfl ?_
    refine g_iload 112 X19 hx (hb hby at_110) rfl (v := p5) rfl ?_
    refine g_ldc 114 X19 hx hZ hown (hw _ (List.mem_of_getElem? (i := 1) rfl)) (hb hby at_112) rfl ?_
    obtain ⟨z27, hz27⟩ : ∃ z : Int32, p5 &&& (2147483647 : Int32) = z := ⟨_, rfl⟩
    refine g_iand 115 X19 hx (hb hby at_114) rfl (z := z27) hz27 ?_
    refine g_iconst 116 X19 hx (hb hby at_115) rfl (z := (5 : Int32)) rfl ?_
    obtain ⟨z28, hz28⟩ : ∃ z : Int32, z27 % (5 : Int32) = z := ⟨_, rfl⟩
    refine g_irem 117 X19 hx (hb hby at_116) rfl (by decide) (z := z28) hz28 ?_
    refine g_istore 119 X19 hx (hb hby at_117) rfl (Ls' := #[.val (.int p1), .val (.int p2), .val (.int p3), .val (.int p4), .val (.int p5), .val (.ref b1), .val (.int z22), .val (.int z23), .val (.int p2), .val (.int z26), .val (.int z28), .unset, .unset]) rfl ?_
    have hF : 0 ≤ z26.toInt ∧ z26.toInt ≤ 4 := (sub0_0 p4 z25 z26 hz25 hz26)
    have hT : 0 ≤ z28.toInt ∧ z28.toInt ≤ 4 := (sub0_1 p5 z27 z28 hz27 hz28)
    refine g_iconst 120 X19 hx (hb hby at_119) rfl (z := (-1 : Int32)) rfl ?_
    refine g_istore 122 X19 hx (hb hby at_120) rfl (Ls' := #[.val (.int p1), .val (.int p2), .val (.int p3), .val (.int p4), .val (.int p5), .val (.ref b1), .val (.int z22), .val (.int z23), .val (.int p2), .val (.int z26), .val (.int z28), .val (.int (-1 : Int32)), .unset]) rfl ?_
    refine g_iloadN 123 X19 hx (hb hby at_122) rfl (v := p1) rfl ?_
    refine g_iconst 124 X19 hx (hb hby at_123) rfl (z := (3 : Int32)) rfl ?_
    refine g_iload 126 X19 hx (hb hby at_124) rfl (v := p2) rfl ?_
    refine g_iload 128 X19 hx (hb hby at_126) rfl (v := z26) rfl ?_
    refine g_iload 130 X19 hx (hb hby at_128) rfl (v := z28) rfl ?_
    refine g_callS 133 X19 hx hZ (y := (⟨"com/example/paillasse/paillasse/message/DelimitersIndexOfPinLaw", "hit", "(IIIII)Z"⟩ : MethodName)) hown (hw _ (List.mem_of_getElem? (i := 2) rfl)) (hw _ (List.mem_of_getElem? (i := 3) rfl)) (hw _ (List.mem_of_getElem? (i := 4) rfl)) (hw _ (List.mem_of_getElem? (i := 5) rfl)) (by decide) e19 (rm1 l Z a0 hw [] p1 (3 : Int32) p2 z26 z28  h19 n0 Zs20 ) (by rw [hml]; rfl) [(.int p1), (.int (3 : Int32)), (.int p2), (.int z26), (.int z28)] [] rfl rfl (lenOf pd_1 rfl) 0 (Nat.le_of_eq rfl) (hb hby at_130) (by decide) (by decide) (by decide) (by decide) rfl ?_
    intro v29 T29 L29 X29 hQ29
    obtain ⟨r29, rfl, hr29, N29q, e29⟩ := hQ29
    have N29 := Fr.app N21 N29q
    show Go p e below s 16 128 (Q0 Z p1 p2 p3 p4 p5 h0 n0) T29 (mkF m 133 #[.val (.int p1), .val (.int p2), .val (.int p3), .val (.int p4), .val (.int p5), .val (.ref b1), .val (.int z22), .val (.int z23), .val (.int p2), .val (.int z26), .val (.int z28), .val (.int (-1 : Int32)), .unset] [(.int r29)])
    suffices Jhj32 : ∀ (z31 : Int32), ((r29 = (0 : Int32) ∧ z31 = (-1 : Int32)) ∨ (¬ (r29 = (0 : Int32)) ∧ z31 = (3 : Int32))) → Go p e below s 16 128 (Q0 Z p1 p2 p3 p4 p5 h0 n0) T29 (mkF m 139 #[.val (.int p1), .val (.int p2), .val (.int p3), .val (.int p4), .val (.int p5), .val (.ref b1), .val (.int z22), .val (.int z23), .val (.int p2), .val (.int z26), .val (.int z28), .val (.int z31), .unset] []) by
      by_cases hc133_29 : r29 = (0 : Int32)
      ·
        refine g_ifYes 139 X29 hx (hb hby at_133)  ((if0 _ _).trans (teq hc133_29).1) (by decide) (by decide) ?_
        exact Jhj32 (-1 : Int32) (Or.inl ⟨hc133_29, rfl⟩)
      ·
        refine g_ifNo 136 X29 hx (hb hby at_133)  ((if0 _ _).trans (feq hc133_29).1) rfl ?_
        refine g_iconst 137 X29 hx (hb hby at_136) rfl (z := (3 : Int32)) rfl ?_
        refine g_istore 139 X29 hx (hb hby at_137) rfl (Ls' := #[.val (.int p1), .val (.int p2), .val (.int p3), .val (.int p4), .val (.int p5), .val (.ref b1), .val (.int z22), .val (.int z23), .val (.int p2), .val (.int z26), .val (.int z28), .val (.int (3 : Int32)), .unset]) rfl ?_
        exact Jhj32 (3 : Int32) (Or.inr (⟨hc133_29, rfl⟩))
    intro z31 hj32
    refine g_iloadN 140 X29 hx (hb hby at_139) rfl (v := p1) rfl ?_
    refine g_iconst 141 X29 hx (hb hby at_140) rfl (z := (2 : Int32)) rfl ?_
    refine g_iload 143 X29 hx (hb hby at_141) rfl (v := p2) rfl ?_
    refine g_iload 145 X29 hx (hb hby at_143) rfl (v := z26) rfl ?_
    refine g_iload 147 X29 hx (hb hby at_145) rfl (v := z28) rfl ?_
    refine g_callS 150 X29 hx hZ (y := (⟨"com/example/paillasse/paillasse/message/DelimitersIndexOfPinLaw", "hit", "(IIIII)Z"⟩ : MethodName)) hown (hw _ (List.mem_of_getElem? (i := 2) rfl)) (hw _ (List.mem_of_getElem? (i := 3) rfl)) (hw _ (List.mem_of_getElem? (i := 4) rfl)) (hw _ (List.mem_of_getElem? (i := 5) rfl)) (by decide) e29 (rm1 l Z a0 hw [] p1 (2 : Int32) p2 z26 z28  h19 n0 Zs20 ) (by rw [hml]; rfl) [(.int p1), (.int (2 : Int32)), (.int p2), (.int z26), (.int z28)] [] rfl rfl (lenOf pd_1 rfl) 0 (Nat.le_of_eq rfl) (hb hby at_147) (by decide) (by decide) (by decide) (by decide) rfl ?_
    intro v33 T33 L33 X33 hQ33
    obtain ⟨r33, rfl, hr33, N33q, e33⟩ := hQ33
    have N33 := Fr.app N29 N33q
    show Go p e below s 16 128 (Q0 Z p1 p2 p3 p4 p5 h0 n0) T33 (mkF m 150 #[.val (.int p1), .val (.int p2), .val (.int p3), .val (.int p4), .val (.int p5), .val (.ref b1), .val (.int z22), .val (.int z23), .val (.int p2), .val (.int z26), .val (.int z28), .val (.int z31), .unset] [(.int r33)])
    suffices Jhj36 : ∀ (z35 : Int32), ((r33 = (0 : Int32) ∧ z35 = z31) ∨ (¬ (r33 = (0 : Int32)) ∧ z35 = (2 : Int32))) → Go p e below s 16 128 (Q0 Z p1 p2 p3 p4 p5 h0 n0) T33 (mkF m 156 #[.val (.int p1), .val (.int p2), .val (.int p3), .val (.int p4), .val (.int p5), .val (.ref b1), .val (.int z22), .val (.int z23), .val (.int p2), .val (.int z26), .val (.int z28), .val (.int z35), .unset] []) by
      by_cases hc150_33 : r33 = (0 : Int32)
      ·
        refine g_ifYes 156 X33 hx (hb hby at_150)  ((if0 _ _).trans (teq hc150_33).1) (by decide) (by decide) ?_
        exact Jhj36 z31 (Or.inl ⟨hc150_33, rfl⟩)
      ·
        refine g_ifNo 153 X33 hx (hb hby at_150)  ((if0 _ _).trans (feq hc150_33).1) rfl ?_
        refine g_iconst 154 X33 hx (hb hby at_153) rfl (z := (2 : Int32)) rfl ?_
        refine g_istore 156 X33 hx (hb hby at_154) rfl (Ls' := #[.val (.int p1), .val (.int p2), .val (.int p3), .val (.int p4), .val (.int p5), .val (.ref b1), .val (.int z22), .val (.int z23), .val (.int p2), .val (.int z26), .val (.int z28), .val (.int (2 : Int32)), .unset]) rfl ?_
        exact Jhj36 (2 : Int32) (Or.inr (⟨hc150_33, rfl⟩))
    intro z35 hj36
    refine g_iloadN 157 X33 hx (hb hby at_156) rfl (v := p1) rfl ?_
    refine g_iconst 158 X33 hx (hb hby at_157) rfl (z := (1 : Int32)) rfl ?_
    refine g_iload 160 X33 hx (hb hby at_158) rfl (v := p2) rfl ?_
    refine g_iload 162 X33 hx (hb hby at_160) rfl (v := z26) rfl ?_
    refine g_iload 164 X33 hx (hb hby at_162) rfl (v := z28) rfl ?_
    refine g_callS 167 X33 hx hZ (y := (⟨"com/example/paillasse/paillasse/message/DelimitersIndexOfPinLaw", "hit", "(IIIII)Z"⟩ : MethodName)) hown (hw _ (List.mem_of_getElem? (i := 2) rfl)) (hw _ (List.mem_of_getElem? (i := 3) rfl)) (hw _ (List.mem_of_getElem? (i := 4) rfl)) (hw _ (List.mem_of_getElem? (i := 5) rfl)) (by decide) e33 (rm1 l Z a0 hw [] p1 (1 : Int32) p2 z26 z28  h19 n0 Zs20 ) (by rw [hml]; rfl) [(.int p1), (.int (1 : Int32)), (.int p2), (.int z26), (.int z28)] [] rfl rfl (lenOf pd_1 rfl) 0 (Nat.le_of_eq rfl) (hb hby at_164) (by decide) (by decide) (by decide) (by decide) rfl ?_
    intro v37 T37 L37 X37 hQ37
    obtain ⟨r37, rfl, hr37, N37q, e37⟩ := hQ37
    have N37 := Fr.app N33 N37q
    show Go p e below s 16 128 (Q0 Z p1 p2 p3 p4 p5 h0 n0) T37 (mkF m 167 #[.val (.int p1), .val (.int p2), .val (.int p3), .val (.int p4), .val (.int p5), .val (.ref b1), .val (.int z22), .val (.int z23), .val (.int p2), .val (.int z26), .val (.int z28), .val (.int z35), .unset] [(.int r37)])
    suffices Jhj40 : ∀ (z39 : Int32), ((r37 = (0 : Int32) ∧ z39 = z35) ∨ (¬ (r37 = (0 : Int32)) ∧ z39 = (1 : Int32))) → Go p e below s 16 128 (Q0 Z p1 p2 p3 p4 p5 h0 n0) T37 (mkF m 173 #[.val (.int p1), .val (.int p2), .val (.int p3), .val (.int p4), .val (.int p5), .val (.ref b1), .val (.int z22), .val (.int z23), .val (.int p2), .val (.int z26), .val (.int z28), .val (.int z39), .unset] []) by
      by_cases hc167_37 : r37 = (0 : Int32)
      ·
        refine g_ifYes 173 X37 hx (hb hby at_167)  ((if0 _ _).trans (teq hc167_37).1) (by decide) (by decide) ?_
        exact Jhj40 z35 (Or.inl ⟨hc167_37, rfl⟩)
      ·
        refine g_ifNo 170 X37 hx (hb hby at_167)  ((if0 _ _).trans (feq hc167_37).1) rfl ?_
        refine g_iconst 171 X37 hx (hb hby at_170) rfl (z := (1 : Int32)) rfl ?_
        refine g_istore 173 X37 hx (hb hby at_171) rfl (Ls' := #[.val (.int p1), .val (.int p2), .val (.int p3), .val (.int p4), .val (.int p5), .val (.ref b1), .val (.int z22), .val (.int z23), .val (.int p2), .val (.int z26), .val (.int z28), .val (.int (1 : Int32)), .unset]) rfl ?_
        exact Jhj40 (1 : Int32) (Or.inr (⟨hc167_37, rfl⟩))
    intro z39 hj40
    refine g_iloadN 174 X37 hx (hb hby at_173) rfl (v := p1) rfl ?_
    refine g_iconst 175 X37 hx (hb hby at_174) rfl (z := (0 : Int32)) rfl ?_
    refine g_iload 177 X37 hx (hb hby at_175) rfl (v := p2) rfl ?_
    refine g_iload 179 X37 hx (hb hby at_177) rfl (v := z26) rfl ?_
    refine g_iload 181 X37 hx (hb hby at_179) rfl (v := z28) rfl ?_
    refine g_callS 184 X37 hx hZ (y := (⟨"com/example/paillasse/paillasse/message/DelimitersIndexOfPinLaw", "hit", "(IIIII)Z"⟩ : MethodName)) hown (hw _ (List.mem_of_getElem? (i := 2) rfl)) (hw _ (List.mem_of_getElem? (i := 3) rfl)) (hw _ (List.mem_of_getElem? (i := 4) rfl)) (hw _ (List.mem_of_getElem? (i := 5) rfl)) (by decide) e37 (rm1 l Z a0 hw [] p1 (0 : Int32) p2 z26 z28  h19 n0 Zs20 ) (by rw [hml]; rfl) [(.int p1), (.int (0 : Int32)), (.int p2), (.int z26), (.int z28)] [] rfl rfl (lenOf pd_1 rfl) 0 (Nat.le_of_eq rfl) (hb hby at_181) (by decide) (by decide) (by decide) (by decide) rfl ?_
    intro v41 T41 L41 X41 hQ41
    obtain ⟨r41, rfl, hr41, N41q, e41⟩ := hQ41
    have N41 := Fr.app N37 N41q
    show Go p e below s 16 128 (Q0 Z p1 p2 p3 p4 p5 h0 n0) T41 (mkF m 184 #[.val (.int p1), .val (.int p2), .val (.int p3), .val (.int p4), .val (.int p5), .val (.ref b1), .val (.int z22), .val (.int z23), .val (.int p2), .val (.int z26), .val (.int z28), .val (.int z39), .unset] [(.int r41)])
    suffices Jhj44 : ∀ (z43 : Int32), ((r41 = (0 : Int32) ∧ z43 = z39) ∨ (¬ (r41 = (0 : Int32)) ∧ z43 = (0 : Int32))) → Go p e below s 16 128 (Q0 Z p1 p2 p3 p4 p5 h0 n0) T41 (mkF m 190 #[.val (.int p1), .val (.int p2), .val (.int p3), .val (.int p4), .val (.int p5), .val (.ref b1), .val (.int z22), .val (.int z23), .val (.int p2), .val (.int z26), .val (.int z28), .val (.int z43), .unset] []) by
      by_cases hc184_41 : r41 = (0 : Int32)
      ·
        refine g_ifYes 190 X41 hx (hb hby at_184)  ((if0 _ _).trans (teq hc184_41).1) (by decide) (by decide) ?_
        exact Jhj44 z39 (Or.inl ⟨hc184_41, rfl⟩)
      ·
        refine g_ifNo 187 X41 hx (hb hby at_184)  ((if0 _ _).trans (feq hc184_41).1) rfl ?_
        refine g_iconst 188 X41 hx (hb hby at_187) rfl (z := (0 : Int32)) rfl ?_
        refine g_istore 190 X41 hx (hb hby at_188) rfl (Ls' := #[.val (.int p1), .val (.int p2), .val (.int p3), .val (.int p4), .val (.int p5), .val (.ref b1), .val (.int z22), .val (.int z23), .val (.int p2), .val (.int z26), .val (.int z28), .val (.int (0 : Int32)), .unset]) rfl ?_
        exact Jhj44 (0 : Int32) (Or.inr (⟨hc184_41, rfl⟩))
    intro z43 hj44
    refine g_aload 192 X41 hx (hb hby at_190) rfl (v := (.ref b1)) rfl rfl ?_
    refine g_iload 194 X41 hx (hb hby at_192) rfl (v := p2) rfl ?_
    refine g_iload 196 X41 hx (hb hby at_194) rfl (v := z26) rfl ?_
    refine g_iload 198 X41 hx (hb hby at_196) rfl (v := z28) rfl ?_
    have hq198_hf_45 : 0 ≤ z26.toInt := hF.1
    have hq198_ht_46 : z28.toInt ≤ 4 := hT.2
    have hq198_hl_47 : [z3.toInt8.toInt32, z8.toInt8.toInt32, z13.toInt8.toInt32, z18.toInt8.toInt32].length = 4 := rfl
    refine g_callS 201 X41 hx hZ (y := (⟨"com/example/paillasse/paillasse/message/Delimiters", "indexOf", "([BIII)I"⟩ : MethodName)) hown (hw _ (List.mem_of_getElem? (i := 6) rfl)) (hw _ (List.mem_of_getElem? (i := 7) rfl)) (hw _ (List.mem_of_getElem? (i := 8) rfl)) (hw _ (List.mem_of_getElem? (i := 9) rfl)) (by decide) e41 (rm2 l Z a0 hw [] b1 p2 z26 z28 [z3.toInt8.toInt32, z8.toInt8.toInt32, z13.toInt8.toInt32, z18.toInt8.toInt32] h19 n0 Zs20 A19' hq198_hf_45 hq198_ht_46 hq198_hl_47) (by rw [hml]; rfl) [(.ref b1), (.int p2), (.int z26), (.int z28)] [] rfl rfl (lenOf pd_2 rfl) 0 (Nat.le_of_eq rfl) (hb hby at_198) (by decide) (by decide) (by decide) (by decide) rfl ?_
    intro v45 T45 L45 X45 hQ45
    obtain ⟨r45, rfl, hr45, N45q, e45⟩ := hQ45
    have N45 := Fr.app N41 N45q
    show Go p e below s 16 128 (Q0 Z p1 p2 p3 p4 p5 h0 n0) T45 (mkF m 201 #[.val (.int p1), .val (.int p2), .val (.int p3), .val (.int p4), .val (.int p5), .val (.ref b1), .val (.int z22), .val (.int z23), .val (.int p2), .val (.int z26), .val (.int z28), .val (.int z43), .unset] [(.int r45)])
    refine g_istore 203 X45 hx (hb hby at_201) rfl (Ls' := #[.val (.int p1), .val (.int p2), .val (.int p3), .val (.int p4), .val (.int p5), .val (.ref b1), .val (.int z22), .val (.int z23), .val (.int p2), .val (.int z26), .val (.int z28), .val (.int z43), .val (.int r45)]) rfl ?_
    refine g_iload 205 X45 hx (hb hby at_203) rfl (v := r45) rfl ?_
    refine g_iload 207 X45 hx (hb hby at_205) rfl (v := z43) rfl ?_
    suffices Jhj51 : ∀ (z50 : Int32), ((r45 = z43 ∧ z50 = (1 : Int32)) ∨ (¬ (r45 = z43) ∧ z50 = (0 : Int32))) → Go p e below s 16 128 (Q0 Z p1 p2 p3 p4 p5 h0 n0) T45 (mkF m 215 #[.val (.int p1), .val (.int p2), .val (.int p3), .val (.int p4), .val (.int p5), .val (.ref b1), .val (.int z22), .val (.int z23), .val (.int p2), .val (.int z26), .val (.int z28), .val (.int z43), .val (.int r45)] [(.int z50)]) by
      by_cases hc207_48 : r45 = z43
      ·
        refine g_icmpNo 210 X45 hx (hb hby at_207)  (teq hc207_48).2 rfl ?_
        refine g_iconst 211 X45 hx (hb hby at_210) rfl (z := (1 : Int32)) rfl ?_
        refine g_goto 215 X45 hx (hb hby at_211) (by decide) (by decide) ?_
        exact Jhj51 (1 : Int32) (Or.inl ⟨hc207_48, rfl⟩)
      ·
        refine g_icmpYes 214 X45 hx (hb hby at_207)  (feq hc207_48).2 (by decide) (by decide) ?_
        refine g_iconst 215 X45 hx (hb hby at_214) rfl (z := (0 : Int32)) rfl ?_
        exact Jhj51 (0 : Int32) (Or.inr (⟨hc207_48, rfl⟩))
    intro z50 hj51
    have hl0 : z50 = 1 := leaf_0 p1 p2 p3 p4 p5 z3 z7 z8 z12 z13 z17 z18 z22 z23 z26 z28 r29 z31 r33 z35 r37 z39 r41 z43 r45 z50 hz3 hz7 hz8 hz12 hz13 hz17 hz18 hF hT hr29 hj32 hr33 hj36 hr37 hj40 hr41 hj44 hr45 hj51
    subst hl0
    exact g_retN X45 hx (t := .boolean) Bd.returns hlk (by simp) rfl (hb hby at_215) (by decide) (by decide) ⟨rfl, N45⟩
  ·
    refine g_ifYes 59 X19 hx (hb hby at_50)  ((if0 _ _).trans (feq hc50_23).2) (by decide) (by decide) ?_
    refine g_iload 61 X19 hx (hb hby at_59) rfl (v := z23) rfl ?_
    refine g_iconst 62 X19 hx (hb hby at_61) rfl (z := (1 : Int32)) rfl ?_
    by_cases hc62_51 : z23 = (1 : Int32)
    ·
      refine g_icmpNo 65 X19 hx (hb hby at_62)  (teq hc62_51).2 rfl ?_
      refine g_iloadN 66 X19 hx (hb hby at_65) rfl (v := p1) rfl ?_
      refine g_iload 68 X19 hx (hb hby at_66) rfl (v := z22) rfl ?_
      refine g_callS 71 X19 hx hZ (y := (⟨"com/example/paillasse/paillasse/message/DelimitersIndexOfPinLaw", "unsignedAt", "(II)I"⟩ : MethodName)) hown (hw _ (List.mem_of_getElem? (i := 10) rfl)) (hw _ (List.mem_of_getElem? (i := 11) rfl)) (hw _ (List.mem_of_getElem? (i := 4) rfl)) (hw _ (List.mem_of_getElem? (i := 12) rfl)) (by decide) e19 (rm3 l Z a0 hw [] p1 z22  h19 n0 Zs20 ) (by rw [hml]; rfl) [(.int p1), (.int z22)] [] rfl rfl (lenOf pd_0 rfl) 0 (Nat.le_of_eq rfl) (hb hby at_68) (by decide) (by decide) (by decide) (by decide) rfl ?_
      intro v53 T53 L53 X53 hQ53
      obtain ⟨r53, rfl, hr53, N53q, e53⟩ := hQ53
      have N53 := Fr.app N21 N53q
      show Go p e below s 16 128 (Q0 Z p1 p2 p3 p4 p5 h0 n0) T53 (mkF m 71 #[.val (.int p1), .val (.int p2), .val (.int p3), .val (.int p4), .val (.int p5), .val (.ref b1), .val (.int z22), .val (.int z23), .unset, .unset, .unset, .unset, .unset] [(.int r53)])
      refine g_istore 73 X53 hx (hb hby at_71) rfl (Ls' := #[.val (.int p1), .val (.int p2), .val (.int p3), .val (.int p4), .val (.int p5), .val (.ref b1), .val (.int z22), .val (.int z23), .val (.int r53), .unset, .unset, .unset, .unset]) rfl ?_
      refine g_goto 102 X53 hx (hb hby at_73) (by decide) (by decide) ?_
      refine g_iloadN 103 X53 hx (hb hby at_102) rfl (v := p4) rfl ?_
      refine g_ldc 105 X53 hx hZ hown (hw _ (List.mem_of_getElem? (i := 1) rfl)) (hb hby at_103) rfl ?_
      obtain ⟨z54, hz54⟩ : ∃ z : Int32, p4 &&& (2147483647 : Int32) = z := ⟨_, rfl⟩
      refine g_iand 106 X53 hx (hb hby at_105) rfl (z := z54) hz54 ?_
      refine g_iconst 107 X53 hx (hb hby at_106) rfl (z := (5 : Int32)) rfl ?_
      obtain ⟨z55, hz55⟩ : ∃ z : Int32, z54 % (5 : Int32) = z := ⟨_, rfl⟩
      refine g_irem 108 X53 hx (hb hby at_107) rfl (by decide) (z := z55) hz55 ?_
      refine g_istore 110 X53 hx (hb hby at_108) rfl (Ls' := #[.val (.int p1), .val (.int p2), .val (.int p3), .val (.int p4), .val (.int p5), .val (.ref b1), .val (.int z22), .val (.int z23), .val (.int r53), .val (.int z55), .unset, .unset, .unset]) rfl ?_
      refine g_iload 112 X53 hx (hb hby at_110) rfl (v := p5) rfl ?_
      refine g_ldc 114 X53 hx hZ hown (hw _ (List.mem_of_getElem? (i := 1) rfl)) (hb hby at_112) rfl ?_
      obtain ⟨z56, hz56⟩ : ∃ z : Int32, p5 &&& (2147483647 : Int32) = z := ⟨_, rfl⟩
      refine g_iand 115 X53 hx (hb hby at_114) rfl (z := z56) hz56 ?_
      refine g_iconst 116 X53 hx (hb hby at_115) rfl (z := (5 : Int32)) rfl ?_
      obtain ⟨z57, hz57⟩ : ∃ z : Int32, z56 % (5 : Int32) = z := ⟨_, rfl⟩
      refine g_irem 117 X53 hx (hb hby at_116) rfl (by decide) (z := z57) hz57 ?_
      refine g_istore 119 X53 hx (hb hby at_117) rfl (Ls' := #[.val (.int p1), .val (.int p2), .val (.int p3), .val (.int p4), .val (.int p5), .val (.ref b1), .val (.int z22), .val (.int z23), .val (.int r53), .val (.int z55), .val (.int z57), .unset, .unset]) rfl ?_
      have hF : 0 ≤ z55.toInt ∧ z55.toInt ≤ 4 := (sub0_2 p4 z54 z55 hz54 hz55)
      have hT : 0 ≤ z57.toInt ∧ z57.toInt ≤ 4 := (sub0_3 p5 z56 z57 hz56 hz57)
      refine g_iconst 120 X53 hx (hb hby at_119) rfl (z := (-1 : Int32)) rfl ?_
      refine g_istore 122 X53 hx (hb hby at_120) rfl (Ls' := #[.val (.int p1), .val (.int p2), .val (.int p3), .val (.int p4), .val (.int p5), .val (.ref b1), .val (.int z22), .val (.int z23), .val (.int r53), .val (.int z55), .val (.int z57), .val (.int (-1 : Int32)), .unset]) rfl ?_
      refine g_iloadN 123 X53 hx (hb hby at_122) rfl (v := p1) rfl ?_
      refine g_iconst 124 X53 hx (hb hby at_123) rfl (z := (3 : Int32)) rfl ?_
      refine g_iload 126 X53 hx (hb hby at_124) rfl (v := r53) rfl ?_
      refine g_iload 128 X53 hx (hb hby at_126) rfl (v := z55) rfl ?_
      refine g_iload 130 X53 hx (hb hby at_128) rfl (v := z57) rfl ?_
      refine g_callS 133 X53 hx hZ (y := (⟨"com/example/paillasse/paillasse/message/DelimitersIndexOfPinLaw", "hit", "(IIIII)Z"⟩ : MethodName)) hown (hw _ (List.mem_of_getElem? (i := 2) rfl)) (hw _ (List.mem_of_getElem? (i := 3) rfl)) (hw _ (List.mem_of_getElem? (i := 4) rfl)) (hw _ (List.mem_of_getElem? (i := 5) rfl)) (by decide) e53 (rm1 l Z a0 hw [] p1 (3 : Int32) r53 z55 z57  h19 n0 Zs20 ) (by rw [hml]; rfl) [(.int p1), (.int (3 : Int32)), (.int r53), (.int z55), (.int z57)] [] rfl rfl (lenOf pd_1 rfl) 0 (Nat.le_of_eq rfl) (hb hby at_130) (by decide) (by decide) (by decide) (by decide) rfl ?_
      intro v58 T58 L58 X58 hQ58
      obtain ⟨r58, rfl, hr58, N58q, e58⟩ := hQ58
      have N58 := Fr.app N53 N58q
      show Go p e below s 16 128 (Q0 Z p1 p2 p3 p4 p5 h0 n0) T58 (mkF m 133 #[.val (.int p1), .val (.int p2), .val (.int p3), .val (.int p4), .val (.int p5), .val (.ref b1), .val (.int z22), .val (.int z23), .val (.int r53), .val (.int z55), .val (.int z57), .val (.int (-1 : Int32)), .unset] [(.int r58)])
      suffices Jhj61 : ∀ (z60 : Int32), ((r58 = (0 : Int32) ∧ z60 = (-1 : Int32)) ∨ (¬ (r58 = (0 : Int32)) ∧ z60 = (3 : Int32))) → Go p e below s 16 128 (Q0 Z p1 p2 p3 p4 p5 h0 n0) T58 (mkF m 139 #[.val (.int p1), .val (.int p2), .val (.int p3), .val (.int p4), .val (.int p5), .val (.ref b1), .val (.int z22), .val (.int z23), .val (.int r53), .val (.int z55), .val (.int z57), .val (.int z60), .unset] []) by
        by_cases hc133_58 : r58 = (0 : Int32)
        ·
          refine g_ifYes 139 X58 hx (hb hby at_133)  ((if0 _ _).trans (teq hc133_58).1) (by decide) (by decide) ?_
          exact Jhj61 (-1 : Int32) (Or.inl ⟨hc133_58, rfl⟩)
        ·
          refine g_ifNo 136 X58 hx (hb hby at_133)  ((if0 _ _).trans (feq hc133_58).1) rfl ?_
          refine g_iconst 137 X58 hx (hb hby at_136) rfl (z := (3 : Int32)) rfl ?_
          refine g_istore 139 X58 hx (hb hby at_137) rfl (Ls' := #[.val (.int p1), .val (.int p2), .val (.int p3), .val (.int p4), .val (.int p5), .val (.ref b1), .val (.int z22), .val (.int z23), .val (.int r53), .val (.int z55), .val (.int z57), .val (.int (3 : Int32)), .unset]) rfl ?_
          exact Jhj61 (3 : Int32) (Or.inr (⟨hc133_58, rfl⟩))
      intro z60 hj61
      refine g_iloadN 140 X58 hx (hb hby at_139) rfl (v := p1) rfl ?_
      refine g_iconst 141 X58 hx (hb hby at_140) rfl (z := (2 : Int32)) rfl ?_
      refine g_iload 143 X58 hx (hb hby at_141) rfl (v := r53) rfl ?_
      refine g_iload 145 X58 hx (hb hby at_143) rfl (v := z55) rfl ?_
      refine g_iload 147 X58 hx (hb hby at_145) rfl (v := z57) rfl ?_
      refine g_callS 150 X58 hx hZ (y := (⟨"com/example/paillasse/paillasse/message/DelimitersIndexOfPinLaw", "hit", "(IIIII)Z"⟩ : MethodName)) hown (hw _ (List.mem_of_getElem? (i := 2) rfl)) (hw _ (List.mem_of_getElem? (i := 3) rfl)) (hw _ (List.mem_of_getElem? (i := 4) rfl)) (hw _ (List.mem_of_getElem? (i := 5) rfl)) (by decide) e58 (rm1 l Z a0 hw [] p1 (2 : Int32) r53 z55 z57  h19 n0 Zs20 ) (by rw [hml]; rfl) [(.int p1), (.int (2 : Int32)), (.int r53), (.int z55), (.int z57)] [] rfl rfl (lenOf pd_1 rfl) 0 (Nat.le_of_eq rfl) (hb hby at_147) (by decide) (by decide) (by decide) (by decide) rfl ?_
      intro v62 T62 L62 X62 hQ62
      obtain ⟨r62, rfl, hr62, N62q, e62⟩ := hQ62
      have N62 := Fr.app N58 N62q
      show Go p e below s 16 128 (Q0 Z p1 p2 p3 p4 p5 h0 n0) T62 (mkF m 150 #[.val (.int p1), .val (.int p2), .val (.int p3), .val (.int p4), .val (.int p5), .val (.ref b1), .val (.int z22), .val (.int z23), .val (.int r53), .val (.int z55), .val (.int z57), .val (.int z60), .unset] [(.int r62)])
      suffices Jhj65 : ∀ (z64 : Int32), ((r62 = (0 : Int32) ∧ z64 = z60) ∨ (¬ (r62 = (0 : Int32)) ∧ z64 = (2 : Int32))) → Go p e below s 16 128 (Q0 Z p1 p2 p3 p4 p5 h0 n0) T62 (mkF m 156 #[.val (.int p1), .val (.int p2), .val (.int p3), .val (.int p4), .val (.int p5), .val (.ref b1), .val (.int z22), .val (.int z23), .val (.int r53), .val (.int z55), .val (.int z57), .val (.int z64), .unset] []) by
        by_cases hc150_62 : r62 = (0 : Int32)
        ·
          refine g_ifYes 156 X62 hx (hb hby at_150)  ((if0 _ _).trans (teq hc150_62).1) (by decide) (by decide) ?_
          exact Jhj65 z60 (Or.inl ⟨hc150_62, rfl⟩)
        ·
          refine g_ifNo 153 X62 hx (hb hby at_150)  ((if0 _ _).trans (feq hc150_62).1) rfl ?_
          refine g_iconst 154 X62 hx (hb hby at_153) rfl (z := (2 : Int32)) rfl ?_
          refine g_istore 156 X62 hx (hb hby at_154) rfl (Ls' := #[.val (.int p1), .val (.int p2), .val (.int p3), .val (.int p4), .val (.int p5), .val (.ref b1), .val (.int z22), .val (.int z23), .val (.int r53), .val (.int z55), .val (.int z57), .val (.int (2 : Int32)), .unset]) rfl ?_
          exact Jhj65 (2 : Int32) (Or.inr (⟨hc150_62, rfl⟩))
      intro z64 hj65
      refine g_iloadN 157 X62 hx (hb hby at_156) rfl (v := p1) rfl ?_
      refine g_iconst 158 X62 hx (hb hby at_157) rfl (z := (1 : Int32)) rfl ?_
      refine g_iload 160 X62 hx (hb hby at_158) rfl (v := r53) rfl ?_
      refine g_iload 162 X62 hx (hb hby at_160) rfl (v := z55) rfl ?_
      refine g_iload 164 X62 hx (hb hby at_162) rfl (v := z57) rfl ?_
      refine g_callS 167 X62 hx hZ (y := (⟨"com/example/paillasse/paillasse/message/DelimitersIndexOfPinLaw", "hit", "(IIIII)Z"⟩ : MethodName)) hown (hw _ (List.mem_of_getElem? (i := 2) rfl)) (hw _ (List.mem_of_getElem? (i := 3) rfl)) (hw _ (List.mem_of_getElem? (i := 4) rfl)) (hw _ (List.mem_of_getElem? (i := 5) rfl)) (by decide) e62 (rm1 l Z a0 hw [] p1 (1 : Int32) r53 z55 z57  h19 n0 Zs20 ) (by rw [hml]; rfl) [(.int p1), (.int (1 : Int32)), (.int r53), (.int z55), (.int z57)] [] rfl rfl (lenOf pd_1 rfl) 0 (Nat.le_of_eq rfl) (hb hby at_164) (by decide) (by decide) (by decide) (by decide) rfl ?_
      intro v66 T66 L66 X66 hQ66
      obtain ⟨r66, rfl, hr66, N66q, e66⟩ := hQ66
      have N66 := Fr.app N62 N66q
      show Go p e below s 16 128 (Q0 Z p1 p2 p3 p4 p5 h0 n0) T66 (mkF m 167 #[.val (.int p1), .val (.int p2), .val (.int p3), .val (.int p4), .val (.int p5), .val (.ref b1), .val (.int z22), .val (.int z23), .val (.int r53), .val (.int z55), .val (.int z57), .val (.int z64), .unset] [(.int r66)])
      suffices Jhj69 : ∀ (z68 : Int32), ((r66 = (0 : Int32) ∧ z68 = z64) ∨ (¬ (r66 = (0 : Int32)) ∧ z68 = (1 : Int32))) → Go p e below s 16 128 (Q0 Z p1 p2 p3 p4 p5 h0 n0) T66 (mkF m 173 #[.val (.int p1), .val (.int p2), .val (.int p3), .val (.int p4), .val (.int p5), .val (.ref b1), .val (.int z22), .val (.int z23), .val (.int r53), .val (.int z55), .val (.int z57), .val (.int z68), .unset] []) by
        by_cases hc167_66 : r66 = (0 : Int32)
        ·
          refine g_ifYes 173 X66 hx (hb hby at_167)  ((if0 _ _).trans (teq hc167_66).1) (by decide) (by decide) ?_
          exact Jhj69 z64 (Or.inl ⟨hc167_66, rfl⟩)
        ·
          refine g_ifNo 170 X66 hx (hb hby at_167)  ((if0 _ _).trans (feq hc167_66).1) rfl ?_
          refine g_iconst 171 X66 hx (hb hby at_170) rfl (z := (1 : Int32)) rfl ?_
          refine g_istore 173 X66 hx (hb hby at_171) rfl (Ls' := #[.val (.int p1), .val (.int p2), .val (.int p3), .val (.int p4), .val (.int p5), .val (.ref b1), .val (.int z22), .val (.int z23), .val (.int r53), .val (.int z55), .val (.int z57), .val (.int (1 : Int32)), .unset]) rfl ?_
          exact Jhj69 (1 : Int32) (Or.inr (⟨hc167_66, rfl⟩))
      intro z68 hj69
      refine g_iloadN 174 X66 hx (hb hby at_173) rfl (v := p1) rfl ?_
      refine g_iconst 175 X66 hx (hb hby at_174) rfl (z := (0 : Int32)) rfl ?_
      refine g_iload 177 X66 hx (hb hby at_175) rfl (v := r53) rfl ?_
      refine g_iload 179 X66 hx (hb hby at_177) rfl (v := z55) rfl ?_
      refine g_iload 181 X66 hx (hb hby at_179) rfl (v := z57) rfl ?_
      refine g_callS 184 X66 hx hZ (y := (⟨"com/example/paillasse/paillasse/message/DelimitersIndexOfPinLaw", "hit", "(IIIII)Z"⟩ : MethodName)) hown (hw _ (List.mem_of_getElem? (i := 2) rfl)) (hw _ (List.mem_of_getElem? (i := 3) rfl)) (hw _ (List.mem_of_getElem? (i := 4) rfl)) (hw _ (List.mem_of_getElem? (i := 5) rfl)) (by decide) e66 (rm1 l Z a0 hw [] p1 (0 : Int32) r53 z55 z57  h19 n0 Zs20 ) (by rw [hml]; rfl) [(.int p1), (.int (0 : Int32)), (.int r53), (.int z55), (.int z57)] [] rfl rfl (lenOf pd_1 rfl) 0 (Nat.le_of_eq rfl) (hb hby at_181) (by decide) (by decide) (by decide) (by decide) rfl ?_
      intro v70 T70 L70 X70 hQ70
      obtain ⟨r70, rfl, hr70, N70q, e70⟩ := hQ70
      have N70 := Fr.app N66 N70q
      show Go p e below s 16 128 (Q0 Z p1 p2 p3 p4 p5 h0 n0) T70 (mkF m 184 #[.val (.int p1), .val (.int p2), .val (.int p3), .val (.int p4), .val (.int p5), .val (.ref b1), .val (.int z22), .val (.int z23), .val (.int r53), .val (.int z55), .val (.int z57), .val (.int z68), .unset] [(.int r70)])
      suffices Jhj73 : ∀ (z72 : Int32), ((r70 = (0 : Int32) ∧ z72 = z68) ∨ (¬ (r70 = (0 : Int32)) ∧ z72 = (0 : Int32))) → Go p e below s 16 128 (Q0 Z p1 p2 p3 p4 p5 h0 n0) T70 (mkF m 190 #[.val (.int p1), .val (.int p2), .val (.int p3), .val (.int p4), .val (.int p5), .val (.ref b1), .val (.int z22), .val (.int z23), .val (.int r53), .val (.int z55), .val (.int z57), .val (.int z72), .unset] []) by
        by_cases hc184_70 : r70 = (0 : Int32)
        ·
          refine g_ifYes 190 X70 hx (hb hby at_184)  ((if0 _ _).trans (teq hc184_70).1) (by decide) (by decide) ?_
          exact Jhj73 z68 (Or.inl ⟨hc184_70, rfl⟩)
        ·
          refine g_ifNo 187 X70 hx (hb hby at_184)  ((if0 _ _).trans (feq hc184_70).1) rfl ?_
          refine g_iconst 188 X70 hx (hb hby at_187) rfl (z := (0 : Int32)) rfl ?_
          refine g_istore 190 X70 hx (hb hby at_188) rfl (Ls' := #[.val (.int p1), .val (.int p2), .val (.int p3), .val (.int p4), .val (.int p5), .val (.ref b1), .val (.int z22), .val (.int z23), .val (.int r53), .val (.int z55), .val (.int z57), .val (.int (0 : Int32)), .unset]) rfl ?_
          exact Jhj73 (0 : Int32) (Or.inr (⟨hc184_70, rfl⟩))
      intro z72 hj73
      refine g_aload 192 X70 hx (hb hby at_190) rfl (v := (.ref b1)) rfl rfl ?_
      refine g_iload 194 X70 hx (hb hby at_192) rfl (v := r53) rfl ?_
      refine g_iload 196 X70 hx (hb hby at_194) rfl (v := z55) rfl ?_
      refine g_iload 198 X70 hx (hb hby at_196) rfl (v := z57) rfl ?_
      have hq198_hf_74 : 0 ≤ z55.toInt := hF.1
      have hq198_ht_75 : z57.toInt ≤ 4 := hT.2
      have hq198_hl_76 : [z3.toInt8.toInt32, z8.toInt8.toInt32, z13.toInt8.toInt32, z18.toInt8.toInt32].length = 4 := rfl
      refine g_callS 201 X70 hx hZ (y := (⟨"com/example/paillasse/paillasse/message/Delimiters", "indexOf", "([BIII)I"⟩ : MethodName)) hown (hw _ (List.mem_of_getElem? (i := 6) rfl)) (hw _ (List.mem_of_getElem? (i := 7) rfl)) (hw _ (List.mem_of_getElem? (i := 8) rfl)) (hw _ (List.mem_of_getElem? (i := 9) rfl)) (by decide) e70 (rm2 l Z a0 hw [] b1 r53 z55 z57 [z3.toInt8.toInt32, z8.toInt8.toInt32, z13.toInt8.toInt32, z18.toInt8.toInt32] h19 n0 Zs20 A19' hq198_hf_74 hq198_ht_75 hq198_hl_76) (by rw [hml]; rfl) [(.ref b1), (.int r53), (.int z55), (.int z57)] [] rfl rfl (lenOf pd_2 rfl) 0 (Nat.le_of_eq rfl) (hb hby at_198) (by decide) (by decide) (by decide) (by decide) rfl ?_
      intro v74 T74 L74 X74 hQ74
      obtain ⟨r74, rfl, hr74, N74q, e74⟩ := hQ74
      have N74 := Fr.app N70 N74q
      show Go p e below s 16 128 (Q0 Z p1 p2 p3 p4 p5 h0 n0) T74 (mkF m 201 #[.val (.int p1), .val (.int p2), .val (.int p3), .val (.int p4), .val (.int p5), .val (.ref b1), .val (.int z22), .val (.int z23), .val (.int r53), .val (.int z55), .val (.int z57), .val (.int z72), .unset] [(.int r74)])
      refine g_istore 203 X74 hx (hb hby at_201) rfl (Ls' := #[.val (.int p1), .val (.int p2), .val (.int p3), .val (.int p4), .val (.int p5), .val (.ref b1), .val (.int z22), .val (.int z23), .val (.int r53), .val (.int z55), .val (.int z57), .val (.int z72), .val (.int r74)]) rfl ?_
      refine g_iload 205 X74 hx (hb hby at_203) rfl (v := r74) rfl ?_
      refine g_iload 207 X74 hx (hb hby at_205) rfl (v := z72) rfl ?_
      suffices Jhj80 : ∀ (z79 : Int32), ((r74 = z72 ∧ z79 = (1 : Int32)) ∨ (¬ (r74 = z72) ∧ z79 = (0 : Int32))) → Go p e below s 16 128 (Q0 Z p1 p2 p3 p4 p5 h0 n0) T74 (mkF m 215 #[.val (.int p1), .val (.int p2), .val (.int p3), .val (.int p4), .val (.int p5), .val (.ref b1), .val (.int z22), .val (.int z23), .val (.int r53), .val (.int z55), .val (.int z57), .val (.int z72), .val (.int r74)] [(.int z79)]) by
        by_cases hc207_77 : r74 = z72
        ·
          refine g_icmpNo 210 X74 hx (hb hby at_207)  (teq hc207_77).2 rfl ?_
          refine g_iconst 211 X74 hx (hb hby at_210) rfl (z := (1 : Int32)) rfl ?_
          refine g_goto 215 X74 hx (hb hby at_211) (by decide) (by decide) ?_
          exact Jhj80 (1 : Int32) (Or.inl ⟨hc207_77, rfl⟩)
        ·
          refine g_icmpYes 214 X74 hx (hb hby at_207)  (feq hc207_77).2 (by decide) (by decide) ?_
          refine g_iconst 215 X74 hx (hb hby at_214) rfl (z := (0 : Int32)) rfl ?_
          exact Jhj80 (0 : Int32) (Or.inr (⟨hc207_77, rfl⟩))
      intro z79 hj80
      have hl1 : z79 = 1 := leaf_1 p1 p2 p3 p4 p5 z3 z7 z8 z12 z13 z17 z18 z22 z23 r53 z55 z57 r58 z60 r62 z64 r66 z68 r70 z72 r74 z79 hz3 hz7 hz8 hz12 hz13 hz17 hz18 hF hT hr58 hj61 hr62 hj65 hr66 hj69 hr70 hj73 hr74 hj80
      subst hl1
      exact g_retN X74 hx (t := .boolean) Bd.returns hlk (by simp) rfl (hb hby at_215) (by decide) (by decide) ⟨rfl, N74⟩
    ·
      refine g_icmpYes 76 X19 hx (hb hby at_62)  (feq hc62_51).2 (by decide) (by decide) ?_
      refine g_iload 78 X19 hx (hb hby at_76) rfl (v := z23) rfl ?_
      refine g_iconst 79 X19 hx (hb hby at_78) rfl (z := (2 : Int32)) rfl ?_
      suffices Jhj83 : ∀ (z82 : Int32), ((z23 = (2 : Int32) ∧ z82 = (p2 &&& (511 : Int32))) ∨ (¬ (z23 = (2 : Int32)) ∧ z82 = (((p1.toUInt32 >>> (((8 : Int32) * z22) &&& 31).toUInt32).toInt32).toInt8.toInt32))) → Go p e below s 16 128 (Q0 Z p1 p2 p3 p4 p5 h0 n0) T19 (mkF m 102 #[.val (.int p1), .val (.int p2), .val (.int p3), .val (.int p4), .val (.int p5), .val (.ref b1), .val (.int z22), .val (.int z23), .val (.int z82), .unset, .unset, .unset, .unset] []) by
        by_cases hc79_80 : z23 = (2 : Int32)
        ·
          refine g_icmpNo 82 X19 hx (hb hby at_79)  (teq hc79_80).2 rfl ?_
          refine g_iloadN 83 X19 hx (hb hby at_82) rfl (v := p2) rfl ?_
          refine g_sipush 86 X19 hx (hb hby at_83) rfl (z := (511 : Int32)) rfl ?_
          refine g_iand 87 X19 hx (hb hby at_86) rfl (z := (p2 &&& (511 : Int32))) rfl ?_
          refine g_istore 89 X19 hx (hb hby at_87) rfl (Ls' := #[.val (.int p1), .val (.int p2), .val (.int p3), .val (.int p4), .val (.int p5), .val (.ref b1), .val (.int z22), .val (.int z23), .val (.int (p2 &&& (511 : Int32))), .unset, .unset, .unset, .unset]) rfl ?_
          refine g_goto 102 X19 hx (hb hby at_89) (by decide) (by decide) ?_
          exact Jhj83 (p2 &&& (511 : Int32)) (Or.inl ⟨hc79_80, rfl⟩)
        ·
          refine g_icmpYes 92 X19 hx (hb hby at_79)  (feq hc79_80).2 (by decide) (by decide) ?_
          refine g_iloadN 93 X19 hx (hb hby at_92) rfl (v := p1) rfl ?_
          refine g_bipush 95 X19 hx (hb hby at_93) rfl (z := (8 : Int32)) rfl ?_
          refine g_iload 97 X19 hx (hb hby at_95) rfl (v := z22) rfl ?_
          refine g_imul 98 X19 hx (hb hby at_97) rfl (z := ((8 : Int32) * z22)) rfl ?_
          refine g_iushr 99 X19 hx (hb hby at_98) rfl (z := ((p1.toUInt32 >>> (((8 : Int32) * z22) &&& 31).toUInt32).toInt32)) rfl ?_
          refine g_i2b 100 X19 hx (hb hby at_99) rfl (z := (((p1.toUInt32 >>> (((8 : Int32) * z22) &&& 31).toUInt32).toInt32).toInt8.toInt32)) rfl ?_
          refine g_istore 102 X19 hx (hb hby at_100) rfl (Ls' := #[.val (.int p1), .val (.int p2), .val (.int p3), .val (.int p4), .val (.int p5), .val (.ref b1), .val (.int z22), .val (.int z23), .val (.int (((p1.toUInt32 >>> (((8 : Int32) * z22) &&& 31).toUInt32).toInt32).toInt8.toInt32)), .unset, .unset, .unset, .unset]) rfl ?_
          exact Jhj83 (((p1.toUInt32 >>> (((8 : Int32) * z22) &&& 31).toUInt32).toInt32).toInt8.toInt32) (Or.inr (⟨hc79_80, rfl⟩))
      intro z82 hj83
      refine g_iloadN 103 X19 hx (hb hby at_102) rfl (v := p4) rfl ?_
      refine g_ldc 105 X19 hx hZ hown (hw _ (List.mem_of_getElem? (i := 1) rfl)) (hb hby at_103) rfl ?_
      obtain ⟨z84, hz84⟩ : ∃ z : Int32, p4 &&& (2147483647 : Int32) = z := ⟨_, rfl⟩
      refine g_iand 106 X19 hx (hb hby at_105) rfl (z := z84) hz84 ?_
      refine g_iconst 107 X19 hx (hb hby at_106) rfl (z := (5 : Int32)) rfl ?_
      obtain ⟨z85, hz85⟩ : ∃ z : Int32, z84 % (5 : Int32) = z := ⟨_, rfl⟩
      refine g_irem 108 X19 hx (hb hby at_107) rfl (by decide) (z := z85) hz85 ?_
      refine g_istore 110 X19 hx (hb hby at_108) rfl (Ls' := #[.val (.int p1), .val (.int p2), .val (.int p3), .val (.int p4), .val (.int p5), .val (.ref b1), .val (.int z22), .val (.int z23), .val (.int z82), .val (.int z85), .unset, .unset, .unset]) rfl ?_
      refine g_iload 112 X19 hx (hb hby at_110) rfl (v := p5) rfl ?_
      refine g_ldc 114 X19 hx hZ hown (hw _ (List.mem_of_getElem? (i := 1) rfl)) (hb hby at_112) rfl ?_
      obtain ⟨z86, hz86⟩ : ∃ z : Int32, p5 &&& (2147483647 : Int32) = z := ⟨_, rfl⟩
      refine g_iand 115 X19 hx (hb hby at_114) rfl (z := z86) hz86 ?_
      refine g_iconst 116 X19 hx (hb hby at_115) rfl (z := (5 : Int32)) rfl ?_
      obtain ⟨z87, hz87⟩ : ∃ z : Int32, z86 % (5 : Int32) = z := ⟨_, rfl⟩
      refine g_irem 117 X19 hx (hb hby at_116) rfl (by decide) (z := z87) hz87 ?_
      refine g_istore 119 X19 hx (hb hby at_117) rfl (Ls' := #[.val (.int p1), .val (.int p2), .val (.int p3), .val (.int p4), .val (.int p5), .val (.ref b1), .val (.int z22), .val (.int z23), .val (.int z82), .val (.int z85), .val (.int z87), .unset, .unset]) rfl ?_
      have hF : 0 ≤ z85.toInt ∧ z85.toInt ≤ 4 := (sub0_4 p4 z84 z85 hz84 hz85)
      have hT : 0 ≤ z87.toInt ∧ z87.toInt ≤ 4 := (sub0_5 p5 z86 z87 hz86 hz87)
      refine g_iconst 120 X19 hx (hb hby at_119) rfl (z := (-1 : Int32)) rfl ?_
      refine g_istore 122 X19 hx (hb hby at_120) rfl (Ls' := #[.val (.int p1), .val (.int p2), .val (.int p3), .val (.int p4), .val (.int p5), .val (.ref b1), .val (.int z22), .val (.int z23), .val (.int z82), .val (.int z85), .val (.int z87), .val (.int (-1 : Int32)), .unset]) rfl ?_
      refine g_iloadN 123 X19 hx (hb hby at_122) rfl (v := p1) rfl ?_
      refine g_iconst 124 X19 hx (hb hby at_123) rfl (z := (3 : Int32)) rfl ?_
      refine g_iload 126 X19 hx (hb hby at_124) rfl (v := z82) rfl ?_
      refine g_iload 128 X19 hx (hb hby at_126) rfl (v := z85) rfl ?_
      refine g_iload 130 X19 hx (hb hby at_128) rfl (v := z87) rfl ?_
      refine g_callS 133 X19 hx hZ (y := (⟨"com/example/paillasse/paillasse/message/DelimitersIndexOfPinLaw", "hit", "(IIIII)Z"⟩ : MethodName)) hown (hw _ (List.mem_of_getElem? (i := 2) rfl)) (hw _ (List.mem_of_getElem? (i := 3) rfl)) (hw _ (List.mem_of_getElem? (i := 4) rfl)) (hw _ (List.mem_of_getElem? (i := 5) rfl)) (by decide) e19 (rm1 l Z a0 hw [] p1 (3 : Int32) z82 z85 z87  h19 n0 Zs20 ) (by rw [hml]; rfl) [(.int p1), (.int (3 : Int32)), (.int z82), (.int z85), (.int z87)] [] rfl rfl (lenOf pd_1 rfl) 0 (Nat.le_of_eq rfl) (hb hby at_130) (by decide) (by decide) (by decide) (by decide) rfl ?_
      intro v88 T88 L88 X88 hQ88
      obtain ⟨r88, rfl, hr88, N88q, e88⟩ := hQ88
      have N88 := Fr.app N21 N88q
      show Go p e below s 16 128 (Q0 Z p1 p2 p3 p4 p5 h0 n0) T88 (mkF m 133 #[.val (.int p1), .val (.int p2), .val (.int p3), .val (.int p4), .val (.int p5), .val (.ref b1), .val (.int z22), .val (.int z23), .val (.int z82), .val (.int z85), .val (.int z87), .val (.int (-1 : Int32)), .unset] [(.int r88)])
      suffices Jhj91 : ∀ (z90 : Int32), ((r88 = (0 : Int32) ∧ z90 = (-1 : Int32)) ∨ (¬ (r88 = (0 : Int32)) ∧ z90 = (3 : Int32))) → Go p e below s 16 128 (Q0 Z p1 p2 p3 p4 p5 h0 n0) T88 (mkF m 139 #[.val (.int p1), .val (.int p2), .val (.int p3), .val (.int p4), .val (.int p5), .val (.ref b1), .val (.int z22), .val (.int z23), .val (.int z82), .val (.int z85), .val (.int z87), .val (.int z90), .unset] []) by
        by_cases hc133_88 : r88 = (0 : Int32)
        ·
          refine g_ifYes 139 X88 hx (hb hby at_133)  ((if0 _ _).trans (teq hc133_88).1) (by decide) (by decide) ?_
          exact Jhj91 (-1 : Int32) (Or.inl ⟨hc133_88, rfl⟩)
        ·
          refine g_ifNo 136 X88 hx (hb hby at_133)  ((if0 _ _).trans (feq hc133_88).1) rfl ?_
          refine g_iconst 137 X88 hx (hb hby at_136) rfl (z := (3 : Int32)) rfl ?_
          refine g_istore 139 X88 hx (hb hby at_137) rfl (Ls' := #[.val (.int p1), .val (.int p2), .val (.int p3), .val (.int p4), .val (.int p5), .val (.ref b1), .val (.int z22), .val (.int z23), .val (.int z82), .val (.int z85), .val (.int z87), .val (.int (3 : Int32)), .unset]) rfl ?_
          exact Jhj91 (3 : Int32) (Or.inr (⟨hc133_88, rfl⟩))
      intro z90 hj91
      refine g_iloadN 140 X88 hx (hb hby at_139) rfl (v := p1) rfl ?_
      refine g_iconst 141 X88 hx (hb hby at_140) rfl (z := (2 : Int32)) rfl ?_
      refine g_iload 143 X88 hx (hb hby at_141) rfl (v := z82) rfl ?_
      refine g_iload 145 X88 hx (hb hby at_143) rfl (v := z85) rfl ?_
      refine g_iload 147 X88 hx (hb hby at_145) rfl (v := z87) rfl ?_
      refine g_callS 150 X88 hx hZ (y := (⟨"com/example/paillasse/paillasse/message/DelimitersIndexOfPinLaw", "hit", "(IIIII)Z"⟩ : MethodName)) hown (hw _ (List.mem_of_getElem? (i := 2) rfl)) (hw _ (List.mem_of_getElem? (i := 3) rfl)) (hw _ (List.mem_of_getElem? (i := 4) rfl)) (hw _ (List.mem_of_getElem? (i := 5) rfl)) (by decide) e88 (rm1 l Z a0 hw [] p1 (2 : Int32) z82 z85 z87  h19 n0 Zs20 ) (by rw [hml]; rfl) [(.int p1), (.int (2 : Int32)), (.int z82), (.int z85), (.int z87)] [] rfl rfl (lenOf pd_1 rfl) 0 (Nat.le_of_eq rfl) (hb hby at_147) (by decide) (by decide) (by decide) (by decide) rfl ?_
      intro v92 T92 L92 X92 hQ92
      obtain ⟨r92, rfl, hr92, N92q, e92⟩ := hQ92
      have N92 := Fr.app N88 N92q
      show Go p e below s 16 128 (Q0 Z p1 p2 p3 p4 p5 h0 n0) T92 (mkF m 150 #[.val (.int p1), .val (.int p2), .val (.int p3), .val (.int p4), .val (.int p5), .val (.ref b1), .val (.int z22), .val (.int z23), .val (.int z82), .val (.int z85), .val (.int z87), .val (.int z90), .unset] [(.int r92)])
      suffices Jhj95 : ∀ (z94 : Int32), ((r92 = (0 : Int32) ∧ z94 = z90) ∨ (¬ (r92 = (0 : Int32)) ∧ z94 = (2 : Int32))) → Go p e below s 16 128 (Q0 Z p1 p2 p3 p4 p5 h0 n0) T92 (mkF m 156 #[.val (.int p1), .val (.int p2), .val (.int p3), .val (.int p4), .val (.int p5), .val (.ref b1), .val (.int z22), .val (.int z23), .val (.int z82), .val (.int z85), .val (.int z87), .val (.int z94), .unset] []) by
        by_cases hc150_92 : r92 = (0 : Int32)
        ·
          refine g_ifYes 156 X92 hx (hb hby at_150)  ((if0 _ _).trans (teq hc150_92).1) (by decide) (by decide) ?_
          exact Jhj95 z90 (Or.inl ⟨hc150_92, rfl⟩)
        ·
          refine g_ifNo 153 X92 hx (hb hby at_150)  ((if0 _ _).trans (feq hc150_92).1) rfl ?_
          refine g_iconst 154 X92 hx (hb hby at_153) rfl (z := (2 : Int32)) rfl ?_
          refine g_istore 156 X92 hx (hb hby at_154) rfl (Ls' := #[.val (.int p1), .val (.int p2), .val (.int p3), .val (.int p4), .val (.int p5), .val (.ref b1), .val (.int z22), .val (.int z23), .val (.int z82), .val (.int z85), .val (.int z87), .val (.int (2 : Int32)), .unset]) rfl ?_
          exact Jhj95 (2 : Int32) (Or.inr (⟨hc150_92, rfl⟩))
      intro z94 hj95
      refine g_iloadN 157 X92 hx (hb hby at_156) rfl (v := p1) rfl ?_
      refine g_iconst 158 X92 hx (hb hby at_157) rfl (z := (1 : Int32)) rfl ?_
      refine g_iload 160 X92 hx (hb hby at_158) rfl (v := z82) rfl ?_
      refine g_iload 162 X92 hx (hb hby at_160) rfl (v := z85) rfl ?_
      refine g_iload 164 X92 hx (hb hby at_162) rfl (v := z87) rfl ?_
      refine g_callS 167 X92 hx hZ (y := (⟨"com/example/paillasse/paillasse/message/DelimitersIndexOfPinLaw", "hit", "(IIIII)Z"⟩ : MethodName)) hown (hw _ (List.mem_of_getElem? (i := 2) rfl)) (hw _ (List.mem_of_getElem? (i := 3) rfl)) (hw _ (List.mem_of_getElem? (i := 4) rfl)) (hw _ (List.mem_of_getElem? (i := 5) rfl)) (by decide) e92 (rm1 l Z a0 hw [] p1 (1 : Int32) z82 z85 z87  h19 n0 Zs20 ) (by rw [hml]; rfl) [(.int p1), (.int (1 : Int32)), (.int z82), (.int z85), (.int z87)] [] rfl rfl (lenOf pd_1 rfl) 0 (Nat.le_of_eq rfl) (hb hby at_164) (by decide) (by decide) (by decide) (by decide) rfl ?_
      intro v96 T96 L96 X96 hQ96
      obtain ⟨r96, rfl, hr96, N96q, e96⟩ := hQ96
      have N96 := Fr.app N92 N96q
      show Go p e below s 16 128 (Q0 Z p1 p2 p3 p4 p5 h0 n0) T96 (mkF m 167 #[.val (.int p1), .val (.int p2), .val (.int p3), .val (.int p4), .val (.int p5), .val (.ref b1), .val (.int z22), .val (.int z23), .val (.int z82), .val (.int z85), .val (.int z87), .val (.int z94), .unset] [(.int r96)])
      suffices Jhj99 : ∀ (z98 : Int32), ((r96 = (0 : Int32) ∧ z98 = z94) ∨ (¬ (r96 = (0 : Int32)) ∧ z98 = (1 : Int32))) → Go p e below s 16 128 (Q0 Z p1 p2 p3 p4 p5 h0 n0) T96 (mkF m 173 #[.val (.int p1), .val (.int p2), .val (.int p3), .val (.int p4), .val (.int p5), .val (.ref b1), .val (.int z22), .val (.int z23), .val (.int z82), .val (.int z85), .val (.int z87), .val (.int z98), .unset] []) by
        by_cases hc167_96 : r96 = (0 : Int32)
        ·
          refine g_ifYes 173 X96 hx (hb hby at_167)  ((if0 _ _).trans (teq hc167_96).1) (by decide) (by decide) ?_
          exact Jhj99 z94 (Or.inl ⟨hc167_96, rfl⟩)
        ·
          refine g_ifNo 170 X96 hx (hb hby at_167)  ((if0 _ _).trans (feq hc167_96).1) rfl ?_
          refine g_iconst 171 X96 hx (hb hby at_170) rfl (z := (1 : Int32)) rfl ?_
          refine g_istore 173 X96 hx (hb hby at_171) rfl (Ls' := #[.val (.int p1), .val (.int p2), .val (.int p3), .val (.int p4), .val (.int p5), .val (.ref b1), .val (.int z22), .val (.int z23), .val (.int z82), .val (.int z85), .val (.int z87), .val (.int (1 : Int32)), .unset]) rfl ?_
          exact Jhj99 (1 : Int32) (Or.inr (⟨hc167_96, rfl⟩))
      intro z98 hj99
      refine g_iloadN 174 X96 hx (hb hby at_173) rfl (v := p1) rfl ?_
      refine g_iconst 175 X96 hx (hb hby at_174) rfl (z := (0 : Int32)) rfl ?_
      refine g_iload 177 X96 hx (hb hby at_175) rfl (v := z82) rfl ?_
      refine g_iload 179 X96 hx (hb hby at_177) rfl (v := z85) rfl ?_
      refine g_iload 181 X96 hx (hb hby at_179) rfl (v := z87) rfl ?_
      refine g_callS 184 X96 hx hZ (y := (⟨"com/example/paillasse/paillasse/message/DelimitersIndexOfPinLaw", "hit", "(IIIII)Z"⟩ : MethodName)) hown (hw _ (List.mem_of_getElem? (i := 2) rfl)) (hw _ (List.mem_of_getElem? (i := 3) rfl)) (hw _ (List.mem_of_getElem? (i := 4) rfl)) (hw _ (List.mem_of_getElem? (i := 5) rfl)) (by decide) e96 (rm1 l Z a0 hw [] p1 (0 : Int32) z82 z85 z87  h19 n0 Zs20 ) (by rw [hml]; rfl) [(.int p1), (.int (0 : Int32)), (.int z82), (.int z85), (.int z87)] [] rfl rfl (lenOf pd_1 rfl) 0 (Nat.le_of_eq rfl) (hb hby at_181) (by decide) (by decide) (by decide) (by decide) rfl ?_
      intro v100 T100 L100 X100 hQ100
      obtain ⟨r100, rfl, hr100, N100q, e100⟩ := hQ100
      have N100 := Fr.app N96 N100q
      show Go p e below s 16 128 (Q0 Z p1 p2 p3 p4 p5 h0 n0) T100 (mkF m 184 #[.val (.int p1), .val (.int p2), .val (.int p3), .val (.int p4), .val (.int p5), .val (.ref b1), .val (.int z22), .val (.int z23), .val (.int z82), .val (.int z85), .val (.int z87), .val (.int z98), .unset] [(.int r100)])
      suffices Jhj103 : ∀ (z102 : Int32), ((r100 = (0 : Int32) ∧ z102 = z98) ∨ (¬ (r100 = (0 : Int32)) ∧ z102 = (0 : Int32))) → Go p e below s 16 128 (Q0 Z p1 p2 p3 p4 p5 h0 n0) T100 (mkF m 190 #[.val (.int p1), .val (.int p2), .val (.int p3), .val (.int p4), .val (.int p5), .val (.ref b1), .val (.int z22), .val (.int z23), .val (.int z82), .val (.int z85), .val (.int z87), .val (.int z102), .unset] []) by
        by_cases hc184_100 : r100 = (0 : Int32)
        ·
          refine g_ifYes 190 X100 hx (hb hby at_184)  ((if0 _ _).trans (teq hc184_100).1) (by decide) (by decide) ?_
          exact Jhj103 z98 (Or.inl ⟨hc184_100, rfl⟩)
        ·
          refine g_ifNo 187 X100 hx (hb hby at_184)  ((if0 _ _).trans (feq hc184_100).1) rfl ?_
          refine g_iconst 188 X100 hx (hb hby at_187) rfl (z := (0 : Int32)) rfl ?_
          refine g_istore 190 X100 hx (hb hby at_188) rfl (Ls' := #[.val (.int p1), .val (.int p2), .val (.int p3), .val (.int p4), .val (.int p5), .val (.ref b1), .val (.int z22), .val (.int z23), .val (.int z82), .val (.int z85), .val (.int z87), .val (.int (0 : Int32)), .unset]) rfl ?_
          exact Jhj103 (0 : Int32) (Or.inr (⟨hc184_100, rfl⟩))
      intro z102 hj103
      refine g_aload 192 X100 hx (hb hby at_190) rfl (v := (.ref b1)) rfl rfl ?_
      refine g_iload 194 X100 hx (hb hby at_192) rfl (v := z82) rfl ?_
      refine g_iload 196 X100 hx (hb hby at_194) rfl (v := z85) rfl ?_
      refine g_iload 198 X100 hx (hb hby at_196) rfl (v := z87) rfl ?_
      have hq198_hf_104 : 0 ≤ z85.toInt := hF.1
      have hq198_ht_105 : z87.toInt ≤ 4 := hT.2
      have hq198_hl_106 : [z3.toInt8.toInt32, z8.toInt8.toInt32, z13.toInt8.toInt32, z18.toInt8.toInt32].length = 4 := rfl
      refine g_callS 201 X100 hx hZ (y := (⟨"com/example/paillasse/paillasse/message/Delimiters", "indexOf", "([BIII)I"⟩ : MethodName)) hown (hw _ (List.mem_of_getElem? (i := 6) rfl)) (hw _ (List.mem_of_getElem? (i := 7) rfl)) (hw _ (List.mem_of_getElem? (i := 8) rfl)) (hw _ (List.mem_of_getElem? (i := 9) rfl)) (by decide) e100 (rm2 l Z a0 hw [] b1 z82 z85 z87 [z3.toInt8.toInt32, z8.toInt8.toInt32, z13.toInt8.toInt32, z18.toInt8.toInt32] h19 n0 Zs20 A19' hq198_hf_104 hq198_ht_105 hq198_hl_106) (by rw [hml]; rfl) [(.ref b1), (.int z82), (.int z85), (.int z87)] [] rfl rfl (lenOf pd_2 rfl) 0 (Nat.le_of_eq rfl) (hb hby at_198) (by decide) (by decide) (by decide) (by decide) rfl ?_
      intro v104 T104 L104 X104 hQ104
      obtain ⟨r104, rfl, hr104, N104q, e104⟩ := hQ104
      have N104 := Fr.app N100 N104q
      show Go p e below s 16 128 (Q0 Z p1 p2 p3 p4 p5 h0 n0) T104 (mkF m 201 #[.val (.int p1), .val (.int p2), .val (.int p3), .val (.int p4), .val (.int p5), .val (.ref b1), .val (.int z22), .val (.int z23), .val (.int z82), .val (.int z85), .val (.int z87), .val (.int z102), .unset] [(.int r104)])
      refine g_istore 203 X104 hx (hb hby at_201) rfl (Ls' := #[.val (.int p1), .val (.int p2), .val (.int p3), .val (.int p4), .val (.int p5), .val (.ref b1), .val (.int z22), .val (.int z23), .val (.int z82), .val (.int z85), .val (.int z87), .val (.int z102), .val (.int r104)]) rfl ?_
      refine g_iload 205 X104 hx (hb hby at_203) rfl (v := r104) rfl ?_
      refine g_iload 207 X104 hx (hb hby at_205) rfl (v := z102) rfl ?_
      suffices Jhj110 : ∀ (z109 : Int32), ((r104 = z102 ∧ z109 = (1 : Int32)) ∨ (¬ (r104 = z102) ∧ z109 = (0 : Int32))) → Go p e below s 16 128 (Q0 Z p1 p2 p3 p4 p5 h0 n0) T104 (mkF m 215 #[.val (.int p1), .val (.int p2), .val (.int p3), .val (.int p4), .val (.int p5), .val (.ref b1), .val (.int z22), .val (.int z23), .val (.int z82), .val (.int z85), .val (.int z87), .val (.int z102), .val (.int r104)] [(.int z109)]) by
        by_cases hc207_107 : r104 = z102
        ·
          refine g_icmpNo 210 X104 hx (hb hby at_207)  (teq hc207_107).2 rfl ?_
          refine g_iconst 211 X104 hx (hb hby at_210) rfl (z := (1 : Int32)) rfl ?_
          refine g_goto 215 X104 hx (hb hby at_211) (by decide) (by decide) ?_
          exact Jhj110 (1 : Int32) (Or.inl ⟨hc207_107, rfl⟩)
        ·
          refine g_icmpYes 214 X104 hx (hb hby at_207)  (feq hc207_107).2 (by decide) (by decide) ?_
          refine g_iconst 215 X104 hx (hb hby at_214) rfl (z := (0 : Int32)) rfl ?_
          exact Jhj110 (0 : Int32) (Or.inr (⟨hc207_107, rfl⟩))
      intro z109 hj110
      have hl2 : z109 = 1 := leaf_2 p1 p2 p3 p4 p5 z3 z7 z8 z12 z13 z17 z18 z22 z23 z82 z85 z87 r88 z90 r92 z94 r96 z98 r100 z102 r104 z109 hz3 hz7 hz8 hz12 hz13 hz17 hz18 hF hT hr88 hj91 hr92 hj95 hr96 hj99 hr100 hj103 hr104 hj110
      subst hl2
      exact g_retN X104 hx (t := .boolean) Bd.returns hlk (by simp) rfl (hb hby at_215) (by decide) (by decide) ⟨rfl, N104⟩
set_option maxRecDepth 65536 in
set_option maxHeartbeats 40000000 in
theorem comes_1 {Post : Tables → Env → Array Value → State → Outcome → State → Prop} (hpost : ∀ tb e args s v u, (limb_1_1.after args s (.returned v) u = true ∧ limb_1_2.after args s (.returned v) u = true ∧ True) → FrameEnd s (.returned v) u (Jvm.fieldLocs frame_1_writes args s ++ Jvm.arrayLocs frame_1_arrays args s ++ Jvm.staticLocs frame_1_statics s) 16 128 → Post tb e args s (.returned v) u) :
    ArmFor flags0 classFile x code maxLocals ret World_1 tables_1 room_1 Calls_1 rest_1 Pre_1 Post := by
  intro l hfl _ _ p e ha hc hk s m args below hf hA hF happ hP
  obtain ⟨hcalls, hrest, hpre⟩ := hP
  obtain ⟨-, -, -, hnamed, -, -, -, hat⟩ := (Spec.applies_iff hf).mp happ
  obtain ⟨hg, hn⟩ := and_e (Cond.before_iff.mp (show (Jvm.Cond.and given_1 narrow_1).before args s = true from hpre))
  obtain ⟨hcount, r0⟩ := and_e hg
  obtain ⟨ga0, r1⟩ := and_e r0
  obtain ⟨ga1, r2⟩ := and_e r1
  obtain ⟨ga2, r3⟩ := and_e r2
  obtain ⟨ga3, r4⟩ := and_e r3
  obtain ⟨w0, w1, w2, w3, w4, rfl⟩ : ∃ w0 w1 w2 w3 w4 : Value, args = #[w0, w1, w2, w3, w4] := by
    have hs : args.size = 5 := by simpa [Cond.value, given_1] using hcount
    obtain ⟨L⟩ := args
    match L, hs with
    | [w0, w1, w2, w3, w4], _ => exact ⟨w0, w1, w2, w3, w4, rfl⟩
  have hw := fun d (hd : d ∈ tables_1) => atoms_spec (ws := Jvm.Cond.code x code maxLocals ret :: tables_1) hat d (List.mem_cons_of_mem _ hd)
  obtain ⟨i0, ei0⟩ := is_v ga0
  obtain rfl : w0 = (.int i0) := Option.some.inj ei0
  obtain ⟨i1, ei1⟩ := is_v ga1
  obtain rfl : w1 = (.int i1) := Option.some.inj ei1
  obtain ⟨i2, ei2⟩ := is_v ga2
  obtain rfl : w2 = (.int i2) := Option.some.inj ei2
  obtain ⟨i3, ei3⟩ := is_v ga3
  obtain rfl : w3 = (.int i3) := Option.some.inj ei3
  obtain ⟨i4, ei4⟩ := is_v r4
  obtain rfl : w4 = (.int i4) := Option.some.inj ei4
  obtain ⟨n, o, h1, h2, h3, _, L, rfl, ⟨rfl, N⟩, hq⟩ := rm0 l s _ hw tables_1 i0 i1 i2 i3 i4 s.heap s.heap.size (Nat.le_refl _)  p e ha hc hk s m _ below hf ((Spec.applies_iff_loose hf).mp happ).1 ⟨rfl, State.Warmed39.refl s, rfl⟩ trivial
  exact ⟨n, _, h1, h2, h3, hpost _ _ _ _ _ _ ⟨Cond.after_iff.mpr rfl, Cond.after_iff.mpr (eq_i res_at (Term.int_eval (1)) rfl), trivial⟩ ⟨hq.1, hq.2.1, (hq.2.2.sift fun y hy => Or.inr (N y hy)).mono (by decide) (by decide)⟩⟩
theorem main_1_1 : Claimed_1_1 := comes_1 fun _ _ _ _ _ _ h hF => ⟨h.1, hF⟩
theorem main_1_2 : Claimed_1_2 := comes_1 fun _ _ _ _ _ _ h hF => ⟨h.2.1, hF⟩
end Jvm.Pilot.@@N@@
namespace Jvm.Pilot.@@N@@
open Jvm Jvm.ClassFile Sem Op Lib Jvm.Free Jvm.Stand Jvm.Pilot.@@N@@.Jvm.D
/-! MADE BY PROGRAM (witnessworld.py) out of the Statement's table words and the real class files: 10 classes; the members and pool entries that the words name. The judged class is class 1, her method 3. -/
namespace start1
open Jvm.ClassFile
def u (s : String) : CpInfo := .utf8 (stringToUtf16 s)
/-- a pool by its gaps: so many unusable entries, then the entry; so many at the end -/
def gap : Nat → List CpInfo → List CpInfo
  | 0, r => r
  | n + 1, r => .unusable :: gap n r
def poolList (es : List (Nat × CpInfo)) (last : Nat) : List CpInfo := es.foldr (fun e r => gap e.1 (e.2 :: r)) (gap last [])
def pool (es : List (Nat × CpInfo)) (last : Nat) : Array CpInfo := ⟨poolList es last⟩
def fileOf (pool : Array CpInfo) (this : Nat) (attrs : Array Attribute := #[]) (ms : Array MethodInfo := #[]) (fl : Nat := 33) (sup : Nat := 0) (ifs : Array Nat := #[]) (fds : Array FieldInfo := #[]) : ClassFile where
  minorVersion := 0
  majorVersion := 65
  constantPool := pool
  accessFlags := fl
  thisClass := this
  superClass := sup
  interfaces := ifs
  fields := fds
  methods := ms
  attributes := attrs
def plain (name : String) (sup : Option ClassId) : Class where
  name := name
  kind := .ordinary
  loader := none
  accessFlags := 33
  super := sup
  interfaces := #[]
  cf := none
  fields := #[]
  methods := #[]
  instanceTypes := #[]
  staticTypes := #[]
  resolved := #[]
  callSites := []
  init := .initialized
  statics := none
  mirror := none

def pool0 : Array CpInfo := pool [(5, u "<init>"), (0, u "()V"), (1, .class_ 10), (1, u "java/lang/Object")] 113

def k0m0 : Method := { name := "<init>", desc := "()V", sig := { parameters := [], returnType := none }, accessFlags := 1, code := none }
/-- java/lang/Object -/
def k0 : Class := { plain "java/lang/Object" none with
  accessFlags := 33
  interfaces := #[]
  cf := some (fileOf pool0 8 #[] #[{ accessFlags := 1, nameIndex := 5, descriptorIndex := 6, attributes := #[] }] 33 0 #[] #[])
  fields := #[]
  methods := #[k0m0]
  instanceTypes := #[]
  staticTypes := #[]
  resolved := Array.replicate 124 none
  statics := none }

def pool1 : Array CpInfo := pool [(2, .class_ 4), (1, u "java/lang/Object"), (0, u "<init>"), (0, u "()V"), (0, .methodref 8 9), (0, .class_ 10), (0, .nameAndType 11 12), (0, u "com/example/paillasse/paillasse/message/DelimitersIndexOfPinLaw"), (0, u "unsignedAt"), (0, u "(II)I"), (0, .integer 2147483647), (0, .methodref 8 15), (0, .nameAndType 16 17), (0, u "hit"), (0, u "(IIIII)Z"), (0, .methodref 19 20), (0, .class_ 21), (0, .nameAndType 22 23), (0, u "com/example/paillasse/paillasse/message/Delimiters"), (0, u "indexOf"), (0, u "([BIII)I"), (3, u "law")] 4

def k1m0 : Method := { name := "<init>", desc := "()V", sig := { parameters := [], returnType := none }, accessFlags := 1, code := none }
def k1c1 : Code := { maxStack := 3, maxLocals := 2, code := method_2_code, exceptionTable := #[], attributes := #[] }
def k1m1 : Method := { name := "unsignedAt", desc := "(II)I", sig := { parameters := [.int, .int], returnType := some .int }, accessFlags := 10, code := some k1c1 }
def k1c2 : Code := { maxStack := 2, maxLocals := 5, code := method_3_code, exceptionTable := #[], attributes := #[] }
def k1m2 : Method := { name := "hit", desc := "(IIIII)Z", sig := { parameters := [.int, .int, .int, .int, .int], returnType := some .boolean }, accessFlags := 10, code := some k1c2 }
def k1c3 : Code := { maxStack := 5, maxLocals := 13, code := code, exceptionTable := #[], attributes := #[] }
def k1m3 : Method := { name := "law", desc := "(IIIII)Z", sig := { parameters := [.int, .int, .int, .int, .int], returnType := some .boolean }, accessFlags := 9, code := some k1c3 }
/-- com/example/paillasse/paillasse/message/DelimitersIndexOfPinLaw -/
def k1 : Class := { plain "com/example/paillasse/paillasse/message/DelimitersIndexOfPinLaw" (some 0) with
  accessFlags := 49
  interfaces := #[]
  cf := some (fileOf pool1 8 #[] #[{ accessFlags := 1, nameIndex := 5, descriptorIndex := 6, attributes := #[] }, { accessFlags := 10, nameIndex := 11, descriptorIndex := 12, attributes := #[] }, { accessFlags := 10, nameIndex := 16, descriptorIndex := 17, attributes := #[] }, { accessFlags := 9, nameIndex := 27, descriptorIndex := 17, attributes := #[] }] 49 2 #[] #[])
  fields := #[]
  methods := #[k1m0, k1m1, k1m2, k1m3]
  instanceTypes := #[]
  staticTypes := #[]
  resolved := Array.replicate 32 none
  statics := none }

def pool2 : Array CpInfo := pool [(2, .class_ 4), (1, u "java/lang/Object"), (0, u "<init>"), (0, u "()V"), (0, .class_ 8), (0, u "java/lang/Record")] 13

def k2m0 : Method := { name := "<init>", desc := "()V", sig := { parameters := [], returnType := none }, accessFlags := 4, code := none }
/-- java/lang/Record -/
def k2 : Class := { plain "java/lang/Record" (some 0) with
  accessFlags := 1057
  interfaces := #[]
  cf := some (fileOf pool2 7 #[] #[{ accessFlags := 4, nameIndex := 5, descriptorIndex := 6, attributes := #[] }] 1057 2 #[] #[])
  fields := #[]
  methods := #[k2m0]
  instanceTypes := #[]
  staticTypes := #[]
  resolved := Array.replicate 22 none
  statics := none }

def pool3 : Array CpInfo := pool [(2, .class_ 4), (1, u "java/lang/Record"), (3, .class_ 10), (1, u "com/example/paillasse/paillasse/message/Delimiters"), (0, u "field"), (0, u "I"), (2, u "repetition"), (2, u "component"), (2, u "subComponent"), (2, u "escape"), (75, u "STANDARD"), (0, u "Lcom/example/paillasse/paillasse/message/Delimiters;"), (0, u "NONE"), (2, u "LEVELS"), (1, u "CR"), (1, u "LF"), (1, u "MAX_ENCODING_CHARACTERS"), (13, u "indexOf"), (0, u "([BIII)I")] 44

def k3c0 : Code := { maxStack := 2, maxLocals := 5, code := prog_80_method_5_code, exceptionTable := #[], attributes := #[] }
def k3m0 : Method := { name := "indexOf", desc := "([BIII)I", sig := { parameters := [(.array .byte), .int, .int, .int], returnType := some .int }, accessFlags := 8, code := some k3c0 }
/-- com/example/paillasse/paillasse/message/Delimiters -/
def k3 : Class := { plain "com/example/paillasse/paillasse/message/Delimiters" (some 2) with
  accessFlags := 48
  interfaces := #[]
  cf := some (fileOf pool3 8 #[] #[{ accessFlags := 8, nameIndex := 125, descriptorIndex := 126, attributes := #[] }] 48 2 #[] #[{ accessFlags := 18, nameIndex := 11, descriptorIndex := 12, attributes := #[] }, { accessFlags := 18, nameIndex := 15, descriptorIndex := 12, attributes := #[] }, { accessFlags := 18, nameIndex := 18, descriptorIndex := 12, attributes := #[] }, { accessFlags := 18, nameIndex := 21, descriptorIndex := 12, attributes := #[] }, { accessFlags := 18, nameIndex := 24, descriptorIndex := 12, attributes := #[] }, { accessFlags := 24, nameIndex := 102, descriptorIndex := 12, attributes := #[] }, { accessFlags := 24, nameIndex := 105, descriptorIndex := 12, attributes := #[] }, { accessFlags := 24, nameIndex := 100, descriptorIndex := 101, attributes := #[] }, { accessFlags := 26, nameIndex := 107, descriptorIndex := 12, attributes := #[] }, { accessFlags := 26, nameIndex := 109, descriptorIndex := 12, attributes := #[] }, { accessFlags := 26, nameIndex := 111, descriptorIndex := 12, attributes := #[] }])
  fields := #[{ name := "field", type := .int, accessFlags := 18, slot := 0, constantValue := 0 }, { name := "repetition", type := .int, accessFlags := 18, slot := 1, constantValue := 0 }, { name := "component", type := .int, accessFlags := 18, slot := 2, constantValue := 0 }, { name := "subComponent", type := .int, accessFlags := 18, slot := 3, constantValue := 0 }, { name := "escape", type := .int, accessFlags := 18, slot := 4, constantValue := 0 }, { name := "NONE", type := .int, accessFlags := 24, slot := 0, constantValue := 0 }, { name := "LEVELS", type := .int, accessFlags := 24, slot := 1, constantValue := 0 }, { name := "STANDARD", type := (.object "com/example/paillasse/paillasse/message/Delimiters"), accessFlags := 24, slot := 2, constantValue := 0 }, { name := "CR", type := .int, accessFlags := 26, slot := 3, constantValue := 0 }, { name := "LF", type := .int, accessFlags := 26, slot := 4, constantValue := 0 }, { name := "MAX_ENCODING_CHARACTERS", type := .int, accessFlags := 26, slot := 5, constantValue := 0 }]
  methods := #[k3m0]
  instanceTypes := #[.int, .int, .int, .int, .int]
  staticTypes := #[.int, .int, (.object "com/example/paillasse/paillasse/message/Delimiters"), .int, .int, .int]
  resolved := Array.replicate 171 none
  statics := none }

def pool4 : Array CpInfo := pool [(1, u "java/lang/Cloneable"), (0, .class_ 1), (0, u "java/lang/Object"), (0, .class_ 3)] 3

/-- java/lang/Cloneable -/
def k4 : Class := { plain "java/lang/Cloneable" (some 0) with
  accessFlags := 1537
  interfaces := #[]
  cf := some (fileOf pool4 2 #[] #[] 1537 4 #[] #[])
  fields := #[]
  methods := #[]
  instanceTypes := #[]
  staticTypes := #[]
  resolved := Array.replicate 8 none
  statics := none }

def pool5 : Array CpInfo := pool [(1, u "java/io/Serializable"), (0, .class_ 1), (0, u "java/lang/Object"), (0, .class_ 3)] 3

/-- java/io/Serializable -/
def k5 : Class := { plain "java/io/Serializable" (some 0) with
  accessFlags := 1537
  interfaces := #[]
  cf := some (fileOf pool5 2 #[] #[] 1537 4 #[] #[])
  fields := #[]
  methods := #[]
  instanceTypes := #[]
  staticTypes := #[]
  resolved := Array.replicate 8 none
  statics := none }

/-- the primitive byte -/
def k6 : Class := { plain "byte" none with kind := .primitive 'B', accessFlags := 0x411 }
/-- [B -/
def k7 : Class := { plain "[B" (some 0) with kind := .array 6 .byte, interfaces := #[4, 5], accessFlags := 1041 }

/-- the primitive int -/
def k8 : Class := { plain "int" none with kind := .primitive 'I', accessFlags := 0x411 }
/-- [I -/
def k9 : Class := { plain "[I" (some 0) with kind := .array 8 .int, interfaces := #[4, 5], accessFlags := 1041 }

def heap : Heap := #[]
def classes : Array Class := #[k0, k1, k2, k3, k4, k5, k6, k7, k8, k9]
def interned : List (Array UInt16 × Addr) := []
def slotsUsed : Nat := 0
def theMethod : MethodId := ⟨1, 3⟩
def args0 : Array Value := #[.int 5, .int 7, .int 9, .int 1, .int 3]
def aboutOver (below : List Frame) : State where
  vm := { classes := classes, interned := interned.toArray }
  heap := heap
  slotsUsed := slotsUsed
  threads := #[{ frames := .invoking theMethod args0 :: below }]
def below0 : List Frame := [.native { method := ⟨0, 0⟩, args := #[] }]
def about1 : State := aboutOver below0
def p0 : Program := .bare "" "" ""
def e0 : Env := launch0.env 0 0 0
theorem w_frames : about1.frames = Frame.invoking theMethod args0 :: below0 := rfl
set_option maxRecDepth 65536 in
theorem w_args : argsFit about1.vm theMethod args0 = true := by decide +kernel
set_option maxRecDepth 65536 in
theorem w_heap : heapFits about1 = true := by decide +kernel
set_option maxRecDepth 65536 in
theorem w_runnable : about1.curStatus? = some .runnable := by decide +kernel
set_option maxRecDepth 65536 in
theorem w_alone : about1.alone = true := by decide +kernel
set_option maxRecDepth 65536 in
theorem w_named : about1.methodNamed? x = some theMethod := by decide +kernel
set_option maxRecDepth 65536 in
theorem w_hears : about1.hears theMethod below0 = true := by decide +kernel
set_option maxRecDepth 65536 in
theorem w_ripe : about1.ripe theMethod args0 below0 = true := by decide +kernel
theorem w_running : about1.status = .running := rfl
set_option maxRecDepth 65536 in
theorem w_room : about1.hasRoom e0.platform room_1 = true :=
  launch0.hasRoom_least _ room_1 (by decide +kernel) (by decide +kernel) (by decide +kernel) (by decide +kernel) (by decide +kernel) (by decide +kernel)
theorem allAtoms_all (ts : List Jvm.Cond) (a : Array Jvm.Value) (st : Jvm.State) : (allAtoms ts).before a st = ts.all (fun c => c.before a st) := by
  induction ts with
  | nil => rfl
  | cons c t ih =>
    show (Jvm.Cond.and c (allAtoms t)).before a st = _
    rw [Jvm.Cond.before_and, ih, List.all_cons]
def words1 : List Jvm.Cond := Jvm.Cond.code x code maxLocals ret :: tables_1
/-- a 'code' word, met by the world's own term for the bytes: nothing is compared byte by byte -/
theorem code_word {y : MethodName} {bytes : ByteArray} {mx : Nat} {rt : Option FieldType} {a : Array Value} {s : State} {m : MethodId} {meth : Method} {c : Code} (h1 : s.methodNamed? y = some m) (h2 : s.vm.method? m = some meth) (h3 : meth.code = some c) (h4 : c.code = bytes)
    (h5 : (c.maxLocals == mx && c.exceptionTable.isEmpty && decide (c.maxStack ≤ mostOperands) && decide (meth.sig.returnType = rt) && !meth.locks && decide (parseMethodDescriptor y.desc = some meth.sig)) = true) : (Jvm.Cond.code y bytes mx rt).before a s = true := by
  simp only [Bool.and_eq_true, beq_iff_eq, Bool.not_eq_true', decide_eq_true_eq] at h5
  obtain ⟨⟨⟨⟨⟨g1, g2⟩, g3⟩, g4⟩, g5⟩, g6⟩ := h5
  simp [Cond.before, Cond.holds, Cond.value, h1, h2, h3, h4, g1, g2, g3, g4, g5, g6]
def isCode : Jvm.Cond → Bool
  | .code _ _ _ _ => true
  | _ => false
theorem all_split {L : List Jvm.Cond} {P : Jvm.Cond → Bool} (h1 : L.all (fun c => isCode c || P c) = true) (h2 : ∀ c ∈ L.filter isCode, P c = true) : L.all P = true := by
  refine List.all_eq_true.mpr fun c hc => ?_
  have h := List.all_eq_true.mp h1 c hc
  rcases Bool.eq_false_or_eq_true (isCode c) with hi | hi
  · exact h2 c (List.mem_filter.mpr ⟨hc, hi⟩)
  · simpa [hi] using h
set_option maxRecDepth 65536 in
theorem w_c0 : (Jvm.Cond.code x code maxLocals ret).before args0 about1 = true := code_word (m := ⟨1, 3⟩) (meth := k1m3) (c := k1c3) (by decide +kernel) rfl rfl rfl (by decide +kernel)
set_option maxRecDepth 65536 in
theorem w_c1 : (Jvm.Cond.code ({ cls := "com/example/paillasse/paillasse/message/DelimitersIndexOfPinLaw", name := "hit", desc := "(IIIII)Z" } : Jvm.MethodName) method_3_code (5 : Nat) (Option.some Jvm.ClassFile.FieldType.boolean)).before args0 about1 = true := code_word (m := ⟨1, 2⟩) (meth := k1m2) (c := k1c2) (by decide +kernel) rfl rfl rfl (by decide +kernel)
set_option maxRecDepth 65536 in
theorem w_c2 : (Jvm.Cond.code ({ cls := "com/example/paillasse/paillasse/message/Delimiters", name := "indexOf", desc := "([BIII)I" } : Jvm.MethodName) prog_80_method_5_code (5 : Nat) (Option.some Jvm.ClassFile.FieldType.int)).before args0 about1 = true := code_word (m := ⟨3, 0⟩) (meth := k3m0) (c := k3c0) (by decide +kernel) rfl rfl rfl (by decide +kernel)
set_option maxRecDepth 65536 in
theorem w_c3 : (Jvm.Cond.code ({ cls := "com/example/paillasse/paillasse/message/DelimitersIndexOfPinLaw", name := "unsignedAt", desc := "(II)I" } : Jvm.MethodName) method_2_code (2 : Nat) (Option.some Jvm.ClassFile.FieldType.int)).before args0 about1 = true := code_word (m := ⟨1, 1⟩) (meth := k1m1) (c := k1c1) (by decide +kernel) rfl rfl rfl (by decide +kernel)
def codes1 : List Jvm.Cond := [Jvm.Cond.code x code maxLocals ret, Jvm.Cond.code ({ cls := "com/example/paillasse/paillasse/message/DelimitersIndexOfPinLaw", name := "hit", desc := "(IIIII)Z" } : Jvm.MethodName) method_3_code (5 : Nat) (Option.some Jvm.ClassFile.FieldType.boolean), Jvm.Cond.code ({ cls := "com/example/paillasse/paillasse/message/Delimiters", name := "indexOf", desc := "([BIII)I" } : Jvm.MethodName) prog_80_method_5_code (5 : Nat) (Option.some Jvm.ClassFile.FieldType.int), Jvm.Cond.code ({ cls := "com/example/paillasse/paillasse/message/DelimitersIndexOfPinLaw", name := "unsignedAt", desc := "(II)I" } : Jvm.MethodName) method_2_code (2 : Nat) (Option.some Jvm.ClassFile.FieldType.int)]
set_option maxRecDepth 65536 in
theorem codes_eq : words1.filter isCode = codes1 := rfl
theorem w_codes : ∀ c ∈ words1.filter isCode, c.before args0 about1 = true := by
  rw [codes_eq]
  intro c hc
  simp only [codes1, List.mem_cons, List.not_mem_nil, or_false] at hc
  rcases hc with rfl | rfl | rfl | rfl
  · exact w_c0
  · exact w_c1
  · exact w_c2
  · exact w_c3
set_option maxRecDepth 65536 in
theorem w_t1 : words1.all (fun c => isCode c || c.before args0 about1) = true := by decide +kernel
theorem w_tables : (allAtoms (Jvm.Cond.code x code maxLocals ret :: tables_1)).before args0 about1 = true := by
  rw [allAtoms_all]
  show words1.all (fun c => c.before args0 about1) = true
  refine all_split ?_ w_codes
  rw [w_t1]
set_option maxRecDepth 65536 in
theorem w_case : (Jvm.Cond.and given_1 narrow_1).before args0 about1 = true := by decide +kernel
theorem w_applies : (headSpec (Jvm.Cond.code x code maxLocals ret :: tables_1) room_1).applies x e0.platform about1 = true :=
  (Spec.applies_iff w_frames).mpr ⟨w_running, w_runnable, w_alone, w_named, w_hears, w_ripe, w_room, w_tables⟩
theorem atStart : AtStart classFile x code maxLocals ret World_1 tables_1 room_1 Calls_1 rest_1 Pre_1 launch0 p0 e0 about1 theMethod args0 below0 :=
  ⟨lists_1, trivial, launch0.admits_env _ _ _, launch0.least_env, fairChoices_fair.cas, fairChoices_fair.clock, w_frames, w_args, w_heap, w_applies, trivial, trivial, w_case⟩
end start1
theorem witness_1 : WitnessClaimed_1 := ⟨start1.p0, start1.e0, start1.about1, start1.theMethod, start1.args0, start1.below0, start1.atStart⟩
end Jvm.Pilot.@@N@@
