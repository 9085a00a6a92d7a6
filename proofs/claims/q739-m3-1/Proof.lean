import JvmDerived
import JvmDerived.Pilot.@@N@@Statement
import JvmDerived.Pilot.@@N@@Code
set_option linter.unusedVariables false
set_option linter.unusedSimpArgs false
namespace Jvm.Pilot.@@N@@
open Jvm Jvm.ClassFile Sem Op Lib Jvm.Free Jvm.Stand Jvm.LawKit Jvm.RoadKit Bundle Jvm.Pilot.@@N@@.Jvm.D
section OwnKit
/-- the run goes on from here to the method's end; what it leaves is Q -/
def Go (p : Program) (e : Env) (below : List Frame) (s : State) (k n : Nat) (Q : Option Value → Heap → List Loc → Prop) (T : State) (g : JFrame) : Prop :=
  ∃ s₂ o, Steps p.tables e below (T.setTop g) s₂ ∧ s₂.status = .running ∧ Ended s₂ below o ∧ ∃ v L, o = .returned v ∧ Q v s₂.heap L ∧ FrameEnd s o s₂ L k n
variable {p : Program} {l : Launch} {e : Env} {R : Room} {s : State} {m : MethodId} {args : Array Value} {below : List Frame} {meth : Method} {c : Code} {T : State} {locs : List Loc} {cells slots : Nat} {k n : Nat} {Q : Option Value → Heap → List Loc → Prop} {pc : Nat} {Ls : Array Slot} {st : List Value} {Z : State} {a0 : Array Value} {h h' : Heap}
theorem Go.via {T' : State} {g g' : JFrame} (q : ∀ t, Steps p.tables e below (T'.setTop g') t → Steps p.tables e below (T.setTop g) t) (H : Go p e below s k n Q T' g') : Go p e below s k n Q T g := by
  obtain ⟨s₂, o, h1, r⟩ := H
  exact ⟨s₂, o, q _ h1, r⟩
theorem tltL {x y : Int64} (q : x < y) : ifCond.holds .lt (lcmpW x y) = true ∧ ifCond.holds .ge (lcmpW x y) = false ∧ ifCond.holds .gt (lcmpW y x) = true ∧ ifCond.holds .le (lcmpW y x) = false := by
  simp only [if0]
  exact ⟨(tlt ((lw_lt x y).mpr q)).1, (tlt ((lw_lt x y).mpr q)).2.1, (tlt ((lw_gt y x).mpr q)).2.2.1, (tlt ((lw_gt y x).mpr q)).2.2.2⟩
theorem fltL {x y : Int64} (q : ¬ x < y) : ifCond.holds .lt (lcmpW x y) = false ∧ ifCond.holds .ge (lcmpW x y) = true ∧ ifCond.holds .gt (lcmpW y x) = false ∧ ifCond.holds .le (lcmpW y x) = true := by
  simp only [if0]
  exact ⟨(flt (mt (lw_lt x y).mp q)).1, (flt (mt (lw_lt x y).mp q)).2.1, (flt (mt (lw_gt y x).mp q)).2.2.1, (flt (mt (lw_gt y x).mp q)).2.2.2⟩
theorem teqL {x y : Int64} (q : x = y) : ifCond.holds .eq (lcmpW x y) = true ∧ ifCond.holds .ne (lcmpW x y) = false := by
  simp only [if0]
  exact ⟨(teq ((lw_eq x y).mpr q)).1, (teq ((lw_eq x y).mpr q)).2⟩
theorem feqL {x y : Int64} (q : ¬ x = y) : ifCond.holds .eq (lcmpW x y) = false ∧ ifCond.holds .ne (lcmpW x y) = true := by
  simp only [if0]
  exact ⟨(feq (mt (lw_eq x y).mp q)).1, (feq (mt (lw_eq x y).mp q)).2⟩
theorem tlt0 {x y : Int32} (q : x < y) : (y = 0 → ifCond.holds .lt x = true ∧ ifCond.holds .ge x = false) ∧ (x = 0 → ifCond.holds .gt y = true ∧ ifCond.holds .le y = false) := by
  refine ⟨fun r => ?_, fun r => ?_⟩ <;> subst r <;> simp only [if0]
  · exact ⟨(tlt q).1, (tlt q).2.1⟩
  · exact ⟨(tlt q).2.2.1, (tlt q).2.2.2⟩
theorem g_iloadN (pc' : Nat) (X : Stand p l e R s m args below meth c T locs cells slots) (hx : p.tables.exec = Jvm.exec) {i : Fin 4} {v : Int32} (hd : decode c.code pc = .ok (.iload_n i, 1)) (hp : pc + 1 = pc') (hl : Ls[i.val]? = some (.val (.int v))) (H : Go p e below s k n Q T (mkF m pc' Ls (.int v :: st))) : Go p e below s k n Q T (mkF m pc Ls st) := by
  subst hp
  exact H.via fun t q => XS.iloadN X.here hx rfl hd hl q
theorem g_iload (pc' : Nat) (X : Stand p l e R s m args below meth c T locs cells slots) (hx : p.tables.exec = Jvm.exec) {i : Nat} {v : Int32} (hd : decode c.code pc = .ok (.iload i, 2)) (hp : pc + 2 = pc') (hl : Ls[i]? = some (.val (.int v))) (H : Go p e below s k n Q T (mkF m pc' Ls (.int v :: st))) : Go p e below s k n Q T (mkF m pc Ls st) := by
  subst hp
  exact H.via fun t q => XS.iload X.here hx rfl hd hl q
theorem g_istoreN (pc' : Nat) (X : Stand p l e R s m args below meth c T locs cells slots) (hx : p.tables.exec = Jvm.exec) {i : Fin 4} {v : Int32} {Ls' : Array Slot} (hd : decode c.code pc = .ok (.istore_n i, 1)) (hp : pc + 1 = pc') (hl : storeLocals Ls i.val (.int v) = some Ls') (H : Go p e below s k n Q T (mkF m pc' Ls' st)) : Go p e below s k n Q T (mkF m pc Ls (.int v :: st)) := by
  subst hp
  exact H.via fun t q => XS.istoreN X.here hx rfl hd rfl hl q
theorem g_istore (pc' : Nat) (X : Stand p l e R s m args below meth c T locs cells slots) (hx : p.tables.exec = Jvm.exec) {i : Nat} {v : Int32} {Ls' : Array Slot} (hd : decode c.code pc = .ok (.istore i, 2)) (hp : pc + 2 = pc') (hl : storeLocals Ls i (.int v) = some Ls') (H : Go p e below s k n Q T (mkF m pc' Ls' st)) : Go p e below s k n Q T (mkF m pc Ls (.int v :: st)) := by
  subst hp
  exact H.via fun t q => XS.istore X.here hx rfl hd rfl hl q
theorem g_lloadN (pc' : Nat) (X : Stand p l e R s m args below meth c T locs cells slots) (hx : p.tables.exec = Jvm.exec) {i : Fin 4} {v : Int64} (hd : decode c.code pc = .ok (.lload_n i, 1)) (hp : pc + 1 = pc') (hl : Ls[i.val]? = some (.val (.long v))) (H : Go p e below s k n Q T (mkF m pc' Ls (.long v :: st))) : Go p e below s k n Q T (mkF m pc Ls st) := by
  subst hp
  exact H.via fun t q => XS.lloadN X.here hx rfl hd hl q
theorem g_lload (pc' : Nat) (X : Stand p l e R s m args below meth c T locs cells slots) (hx : p.tables.exec = Jvm.exec) {i : Nat} {v : Int64} (hd : decode c.code pc = .ok (.lload i, 2)) (hp : pc + 2 = pc') (hl : Ls[i]? = some (.val (.long v))) (H : Go p e below s k n Q T (mkF m pc' Ls (.long v :: st))) : Go p e below s k n Q T (mkF m pc Ls st) := by
  subst hp
  exact H.via fun t q => XS.lload X.here hx rfl hd hl q
theorem g_lstoreN (pc' : Nat) (X : Stand p l e R s m args below meth c T locs cells slots) (hx : p.tables.exec = Jvm.exec) {i : Fin 4} {v : Int64} {Ls' : Array Slot} (hd : decode c.code pc = .ok (.lstore_n i, 1)) (hp : pc + 1 = pc') (hl : storeLocals Ls i.val (.long v) = some Ls') (H : Go p e below s k n Q T (mkF m pc' Ls' st)) : Go p e below s k n Q T (mkF m pc Ls (.long v :: st)) := by
  subst hp
  exact H.via fun t q => XS.lstoreN X.here hx rfl hd rfl hl q
theorem g_lstore (pc' : Nat) (X : Stand p l e R s m args below meth c T locs cells slots) (hx : p.tables.exec = Jvm.exec) {i : Nat} {v : Int64} {Ls' : Array Slot} (hd : decode c.code pc = .ok (.lstore i, 2)) (hp : pc + 2 = pc') (hl : storeLocals Ls i (.long v) = some Ls') (H : Go p e below s k n Q T (mkF m pc' Ls' st)) : Go p e below s k n Q T (mkF m pc Ls (.long v :: st)) := by
  subst hp
  exact H.via fun t q => XS.lstore X.here hx rfl hd rfl hl q
theorem g_aloadN (pc' : Nat) (X : Stand p l e R s m args below meth c T locs cells slots) (hx : p.tables.exec = Jvm.exec) {i : Fin 4} {v : Value} (hd : decode c.code pc = .ok (.aload_n i, 1)) (hp : pc + 1 = pc') (hl : Ls[i.val]? = some (.val v)) (hv : v.isRef = true) (H : Go p e below s k n Q T (mkF m pc' Ls (v :: st))) : Go p e below s k n Q T (mkF m pc Ls st) := by
  subst hp
  exact H.via fun t q => XS.aloadN X.here hx rfl hd hl hv q
theorem g_aload (pc' : Nat) (X : Stand p l e R s m args below meth c T locs cells slots) (hx : p.tables.exec = Jvm.exec) {i : Nat} {v : Value} (hd : decode c.code pc = .ok (.aload i, 2)) (hp : pc + 2 = pc') (hl : Ls[i]? = some (.val v)) (hv : v.isRef = true) (H : Go p e below s k n Q T (mkF m pc' Ls (v :: st))) : Go p e below s k n Q T (mkF m pc Ls st) := by
  subst hp
  exact H.via fun t q => XS.aload X.here hx rfl hd hl hv q
theorem g_astoreN (pc' : Nat) (X : Stand p l e R s m args below meth c T locs cells slots) (hx : p.tables.exec = Jvm.exec) {i : Fin 4} {v : Value} {Ls' : Array Slot} (hd : decode c.code pc = .ok (.astore_n i, 1)) (hp : pc + 1 = pc') (hv : v.isRef = true) (hl : storeLocals Ls i.val v = some Ls') (H : Go p e below s k n Q T (mkF m pc' Ls' st)) : Go p e below s k n Q T (mkF m pc Ls (v :: st)) := by
  subst hp
  exact H.via fun t q => XS.astoreN X.here hx rfl hd rfl hv hl q
theorem g_astore (pc' : Nat) (X : Stand p l e R s m args below meth c T locs cells slots) (hx : p.tables.exec = Jvm.exec) {i : Nat} {v : Value} {Ls' : Array Slot} (hd : decode c.code pc = .ok (.astore i, 2)) (hp : pc + 2 = pc') (hv : v.isRef = true) (hl : storeLocals Ls i v = some Ls') (H : Go p e below s k n Q T (mkF m pc' Ls' st)) : Go p e below s k n Q T (mkF m pc Ls (v :: st)) := by
  subst hp
  exact H.via fun t q => XS.astore X.here hx rfl hd rfl hv hl q
theorem g_iconst (pc' : Nat) (X : Stand p l e R s m args below meth c T locs cells slots) (hx : p.tables.exec = Jvm.exec) {i : Int} {z : Int32} (hd : decode c.code pc = .ok (.iconst i, 1)) (hp : pc + 1 = pc') (hz : Int32.ofInt i = z) (H : Go p e below s k n Q T (mkF m pc' Ls (.int z :: st))) : Go p e below s k n Q T (mkF m pc Ls st) := by
  subst hp hz
  exact H.via fun t q => XS.iconst X.here hx rfl hd q
theorem g_bipush (pc' : Nat) (X : Stand p l e R s m args below meth c T locs cells slots) (hx : p.tables.exec = Jvm.exec) {i : Int} {z : Int32} (hd : decode c.code pc = .ok (.bipush i, 2)) (hp : pc + 2 = pc') (hz : (Int8.ofInt i).toInt32 = z) (H : Go p e below s k n Q T (mkF m pc' Ls (.int z :: st))) : Go p e below s k n Q T (mkF m pc Ls st) := by
  subst hp hz
  exact H.via fun t q => XS.bipush X.here hx rfl hd q
theorem g_sipush (pc' : Nat) (X : Stand p l e R s m args below meth c T locs cells slots) (hx : p.tables.exec = Jvm.exec) {i : Int} {z : Int32} (hd : decode c.code pc = .ok (.sipush i, 3)) (hp : pc + 3 = pc') (hz : (Int16.ofInt i).toInt32 = z) (H : Go p e below s k n Q T (mkF m pc' Ls (.int z :: st))) : Go p e below s k n Q T (mkF m pc Ls st) := by
  subst hp hz
  exact H.via fun t q => XS.sipush X.here hx rfl hd q
theorem g_lconst (pc' : Nat) (X : Stand p l e R s m args below meth c T locs cells slots) (hx : p.tables.exec = Jvm.exec) {i : Fin 2} {z : Int64} (hd : decode c.code pc = .ok (.lconst i, 1)) (hp : pc + 1 = pc') (hz : Int64.ofNat i.val = z) (H : Go p e below s k n Q T (mkF m pc' Ls (.long z :: st))) : Go p e below s k n Q T (mkF m pc Ls st) := by
  subst hp hz
  exact H.via fun t q => XS.lconst X.here hx rfl hd q
theorem g_aconst_null (pc' : Nat) (X : Stand p l e R s m args below meth c T locs cells slots) (hx : p.tables.exec = Jvm.exec) (hd : decode c.code pc = .ok (.aconst_null, 1)) (hp : pc + 1 = pc')  (H : Go p e below s k n Q T (mkF m pc' Ls (.null :: st))) : Go p e below s k n Q T (mkF m pc Ls st) := by
  subst hp
  exact H.via fun t q => XS.aconstNull X.here hx rfl hd q
theorem g_iadd (pc' : Nat) (X : Stand p l e R s m args below meth c T locs cells slots) (hx : p.tables.exec = Jvm.exec) {x y z : Int32} (hd : decode c.code pc = .ok (.iadd, 1)) (hp : pc + 1 = pc') (hz : x + y = z) (H : Go p e below s k n Q T (mkF m pc' Ls (.int z :: st))) : Go p e below s k n Q T (mkF m pc Ls (.int y :: .int x :: st)) := by
  subst hp hz
  exact H.via fun t q => XS.iadd X.here hx rfl hd rfl q
theorem g_isub (pc' : Nat) (X : Stand p l e R s m args below meth c T locs cells slots) (hx : p.tables.exec = Jvm.exec) {x y z : Int32} (hd : decode c.code pc = .ok (.isub, 1)) (hp : pc + 1 = pc') (hz : x - y = z) (H : Go p e below s k n Q T (mkF m pc' Ls (.int z :: st))) : Go p e below s k n Q T (mkF m pc Ls (.int y :: .int x :: st)) := by
  subst hp hz
  exact H.via fun t q => XS.isub X.here hx rfl hd rfl q
theorem g_imul (pc' : Nat) (X : Stand p l e R s m args below meth c T locs cells slots) (hx : p.tables.exec = Jvm.exec) {x y z : Int32} (hd : decode c.code pc = .ok (.imul, 1)) (hp : pc + 1 = pc') (hz : x * y = z) (H : Go p e below s k n Q T (mkF m pc' Ls (.int z :: st))) : Go p e below s k n Q T (mkF m pc Ls (.int y :: .int x :: st)) := by
  subst hp hz
  exact H.via fun t q => XS.imul X.here hx rfl hd rfl q
theorem g_iand (pc' : Nat) (X : Stand p l e R s m args below meth c T locs cells slots) (hx : p.tables.exec = Jvm.exec) {x y z : Int32} (hd : decode c.code pc = .ok (.iand, 1)) (hp : pc + 1 = pc') (hz : x &&& y = z) (H : Go p e below s k n Q T (mkF m pc' Ls (.int z :: st))) : Go p e below s k n Q T (mkF m pc Ls (.int y :: .int x :: st)) := by
  subst hp hz
  exact H.via fun t q => XS.iand X.here hx rfl hd rfl q
theorem g_ior (pc' : Nat) (X : Stand p l e R s m args below meth c T locs cells slots) (hx : p.tables.exec = Jvm.exec) {x y z : Int32} (hd : decode c.code pc = .ok (.ior, 1)) (hp : pc + 1 = pc') (hz : x ||| y = z) (H : Go p e below s k n Q T (mkF m pc' Ls (.int z :: st))) : Go p e below s k n Q T (mkF m pc Ls (.int y :: .int x :: st)) := by
  subst hp hz
  exact H.via fun t q => XS.ior X.here hx rfl hd rfl q
theorem g_ixor (pc' : Nat) (X : Stand p l e R s m args below meth c T locs cells slots) (hx : p.tables.exec = Jvm.exec) {x y z : Int32} (hd : decode c.code pc = .ok (.ixor, 1)) (hp : pc + 1 = pc') (hz : x ^^^ y = z) (H : Go p e below s k n Q T (mkF m pc' Ls (.int z :: st))) : Go p e below s k n Q T (mkF m pc Ls (.int y :: .int x :: st)) := by
  subst hp hz
  exact H.via fun t q => XS.ixor X.here hx rfl hd rfl q
theorem g_ladd (pc' : Nat) (X : Stand p l e R s m args below meth c T locs cells slots) (hx : p.tables.exec = Jvm.exec) {x y z : Int64} (hd : decode c.code pc = .ok (.ladd, 1)) (hp : pc + 1 = pc') (hz : x + y = z) (H : Go p e below s k n Q T (mkF m pc' Ls (.long z :: st))) : Go p e below s k n Q T (mkF m pc Ls (.long y :: .long x :: st)) := by
  subst hp hz
  exact H.via fun t q => XS.ladd X.here hx rfl hd rfl q
theorem g_lsub (pc' : Nat) (X : Stand p l e R s m args below meth c T locs cells slots) (hx : p.tables.exec = Jvm.exec) {x y z : Int64} (hd : decode c.code pc = .ok (.lsub, 1)) (hp : pc + 1 = pc') (hz : x - y = z) (H : Go p e below s k n Q T (mkF m pc' Ls (.long z :: st))) : Go p e below s k n Q T (mkF m pc Ls (.long y :: .long x :: st)) := by
  subst hp hz
  exact H.via fun t q => XS.lsub X.here hx rfl hd rfl q
theorem g_lmul (pc' : Nat) (X : Stand p l e R s m args below meth c T locs cells slots) (hx : p.tables.exec = Jvm.exec) {x y z : Int64} (hd : decode c.code pc = .ok (.lmul, 1)) (hp : pc + 1 = pc') (hz : x * y = z) (H : Go p e below s k n Q T (mkF m pc' Ls (.long z :: st))) : Go p e below s k n Q T (mkF m pc Ls (.long y :: .long x :: st)) := by
  subst hp hz
  exact H.via fun t q => XS.lmul X.here hx rfl hd rfl q
theorem g_land (pc' : Nat) (X : Stand p l e R s m args below meth c T locs cells slots) (hx : p.tables.exec = Jvm.exec) {x y z : Int64} (hd : decode c.code pc = .ok (.land, 1)) (hp : pc + 1 = pc') (hz : x &&& y = z) (H : Go p e below s k n Q T (mkF m pc' Ls (.long z :: st))) : Go p e below s k n Q T (mkF m pc Ls (.long y :: .long x :: st)) := by
  subst hp hz
  exact H.via fun t q => XS.land X.here hx rfl hd rfl q
theorem g_lor (pc' : Nat) (X : Stand p l e R s m args below meth c T locs cells slots) (hx : p.tables.exec = Jvm.exec) {x y z : Int64} (hd : decode c.code pc = .ok (.lor, 1)) (hp : pc + 1 = pc') (hz : x ||| y = z) (H : Go p e below s k n Q T (mkF m pc' Ls (.long z :: st))) : Go p e below s k n Q T (mkF m pc Ls (.long y :: .long x :: st)) := by
  subst hp hz
  exact H.via fun t q => XS.lor X.here hx rfl hd rfl q
theorem g_lxor (pc' : Nat) (X : Stand p l e R s m args below meth c T locs cells slots) (hx : p.tables.exec = Jvm.exec) {x y z : Int64} (hd : decode c.code pc = .ok (.lxor, 1)) (hp : pc + 1 = pc') (hz : x ^^^ y = z) (H : Go p e below s k n Q T (mkF m pc' Ls (.long z :: st))) : Go p e below s k n Q T (mkF m pc Ls (.long y :: .long x :: st)) := by
  subst hp hz
  exact H.via fun t q => XS.lxor X.here hx rfl hd rfl q
theorem g_ishl (pc' : Nat) (X : Stand p l e R s m args below meth c T locs cells slots) (hx : p.tables.exec = Jvm.exec) {x y z : Int32} (hd : decode c.code pc = .ok (.ishl, 1)) (hp : pc + 1 = pc') (hz : x <<< (y &&& 31) = z) (H : Go p e below s k n Q T (mkF m pc' Ls (.int z :: st))) : Go p e below s k n Q T (mkF m pc Ls (.int y :: .int x :: st)) := by
  subst hp hz
  exact H.via fun t q => XS.ishl X.here hx rfl hd rfl q
theorem g_ishr (pc' : Nat) (X : Stand p l e R s m args below meth c T locs cells slots) (hx : p.tables.exec = Jvm.exec) {x y z : Int32} (hd : decode c.code pc = .ok (.ishr, 1)) (hp : pc + 1 = pc') (hz : x >>> (y &&& 31) = z) (H : Go p e below s k n Q T (mkF m pc' Ls (.int z :: st))) : Go p e below s k n Q T (mkF m pc Ls (.int y :: .int x :: st)) := by
  subst hp hz
  exact H.via fun t q => XS.ishr X.here hx rfl hd rfl q
theorem g_iushr (pc' : Nat) (X : Stand p l e R s m args below meth c T locs cells slots) (hx : p.tables.exec = Jvm.exec) {x y z : Int32} (hd : decode c.code pc = .ok (.iushr, 1)) (hp : pc + 1 = pc') (hz : (x.toUInt32 >>> (y &&& 31).toUInt32).toInt32 = z) (H : Go p e below s k n Q T (mkF m pc' Ls (.int z :: st))) : Go p e below s k n Q T (mkF m pc Ls (.int y :: .int x :: st)) := by
  subst hp hz
  exact H.via fun t q => XS.iushr X.here hx rfl hd rfl q
theorem g_lshl (pc' : Nat) (X : Stand p l e R s m args below meth c T locs cells slots) (hx : p.tables.exec = Jvm.exec) {x z : Int64} {y : Int32} (hd : decode c.code pc = .ok (.lshl, 1)) (hp : pc + 1 = pc') (hz : x <<< (y &&& 0x3f).toInt64 = z) (H : Go p e below s k n Q T (mkF m pc' Ls (.long z :: st))) : Go p e below s k n Q T (mkF m pc Ls (.int y :: .long x :: st)) := by
  subst hp hz
  exact H.via fun t q => XS.lshl X.here hx rfl hd rfl q
theorem g_lshr (pc' : Nat) (X : Stand p l e R s m args below meth c T locs cells slots) (hx : p.tables.exec = Jvm.exec) {x z : Int64} {y : Int32} (hd : decode c.code pc = .ok (.lshr, 1)) (hp : pc + 1 = pc') (hz : x >>> (y &&& 0x3f).toInt64 = z) (H : Go p e below s k n Q T (mkF m pc' Ls (.long z :: st))) : Go p e below s k n Q T (mkF m pc Ls (.int y :: .long x :: st)) := by
  subst hp hz
  exact H.via fun t q => XS.lshr X.here hx rfl hd rfl q
theorem g_lushr (pc' : Nat) (X : Stand p l e R s m args below meth c T locs cells slots) (hx : p.tables.exec = Jvm.exec) {x z : Int64} {y : Int32} (hd : decode c.code pc = .ok (.lushr, 1)) (hp : pc + 1 = pc') (hz : (x.toUInt64 >>> (y &&& 0x3f).toInt64.toUInt64).toInt64 = z) (H : Go p e below s k n Q T (mkF m pc' Ls (.long z :: st))) : Go p e below s k n Q T (mkF m pc Ls (.int y :: .long x :: st)) := by
  subst hp hz
  exact H.via fun t q => XS.lushr X.here hx rfl hd rfl q
theorem g_idiv (pc' : Nat) (X : Stand p l e R s m args below meth c T locs cells slots) (hx : p.tables.exec = Jvm.exec) {x y z : Int32} (hd : decode c.code pc = .ok (.idiv, 1)) (hp : pc + 1 = pc') (hy : y ≠ 0) (hz : x / y = z) (H : Go p e below s k n Q T (mkF m pc' Ls (.int z :: st))) : Go p e below s k n Q T (mkF m pc Ls (.int y :: .int x :: st)) := by
  subst hp hz
  exact H.via fun t q => XS.idiv X.here hx rfl hd rfl hy q
theorem g_irem (pc' : Nat) (X : Stand p l e R s m args below meth c T locs cells slots) (hx : p.tables.exec = Jvm.exec) {x y z : Int32} (hd : decode c.code pc = .ok (.irem, 1)) (hp : pc + 1 = pc') (hy : y ≠ 0) (hz : x % y = z) (H : Go p e below s k n Q T (mkF m pc' Ls (.int z :: st))) : Go p e below s k n Q T (mkF m pc Ls (.int y :: .int x :: st)) := by
  subst hp hz
  exact H.via fun t q => iremM X hx rfl hd rfl hy q
theorem g_ldiv (pc' : Nat) (X : Stand p l e R s m args below meth c T locs cells slots) (hx : p.tables.exec = Jvm.exec) {x y z : Int64} (hd : decode c.code pc = .ok (.ldiv, 1)) (hp : pc + 1 = pc') (hy : y ≠ 0) (hz : x / y = z) (H : Go p e below s k n Q T (mkF m pc' Ls (.long z :: st))) : Go p e below s k n Q T (mkF m pc Ls (.long y :: .long x :: st)) := by
  subst hp hz
  exact H.via fun t q => XS.ldiv X.here hx rfl hd rfl hy q
theorem g_lrem (pc' : Nat) (X : Stand p l e R s m args below meth c T locs cells slots) (hx : p.tables.exec = Jvm.exec) {x y z : Int64} (hd : decode c.code pc = .ok (.lrem, 1)) (hp : pc + 1 = pc') (hy : y ≠ 0) (hz : x % y = z) (H : Go p e below s k n Q T (mkF m pc' Ls (.long z :: st))) : Go p e below s k n Q T (mkF m pc Ls (.long y :: .long x :: st)) := by
  subst hp hz
  exact H.via fun t q => XS.lrem X.here hx rfl hd rfl hy (by rw [lrem_mod]; exact q)
theorem g_ineg (pc' : Nat) (X : Stand p l e R s m args below meth c T locs cells slots) (hx : p.tables.exec = Jvm.exec) {x : Int32} {z : Int32} (hd : decode c.code pc = .ok (.ineg, 1)) (hp : pc + 1 = pc') (hz : -x = z) (H : Go p e below s k n Q T (mkF m pc' Ls (.int z :: st))) : Go p e below s k n Q T (mkF m pc Ls (.int x :: st)) := by
  subst hp hz
  exact H.via fun t q => XS.ineg X.here hx rfl hd rfl q
theorem g_lneg (pc' : Nat) (X : Stand p l e R s m args below meth c T locs cells slots) (hx : p.tables.exec = Jvm.exec) {x : Int64} {z : Int64} (hd : decode c.code pc = .ok (.lneg, 1)) (hp : pc + 1 = pc') (hz : -x = z) (H : Go p e below s k n Q T (mkF m pc' Ls (.long z :: st))) : Go p e below s k n Q T (mkF m pc Ls (.long x :: st)) := by
  subst hp hz
  exact H.via fun t q => XS.lneg X.here hx rfl hd rfl q
theorem g_i2l (pc' : Nat) (X : Stand p l e R s m args below meth c T locs cells slots) (hx : p.tables.exec = Jvm.exec) {x : Int32} {z : Int64} (hd : decode c.code pc = .ok (.i2l, 1)) (hp : pc + 1 = pc') (hz : x.toInt64 = z) (H : Go p e below s k n Q T (mkF m pc' Ls (.long z :: st))) : Go p e below s k n Q T (mkF m pc Ls (.int x :: st)) := by
  subst hp hz
  exact H.via fun t q => XS.i2l X.here hx rfl hd rfl q
theorem g_l2i (pc' : Nat) (X : Stand p l e R s m args below meth c T locs cells slots) (hx : p.tables.exec = Jvm.exec) {x : Int64} {z : Int32} (hd : decode c.code pc = .ok (.l2i, 1)) (hp : pc + 1 = pc') (hz : x.toInt32 = z) (H : Go p e below s k n Q T (mkF m pc' Ls (.int z :: st))) : Go p e below s k n Q T (mkF m pc Ls (.long x :: st)) := by
  subst hp hz
  exact H.via fun t q => XS.l2i X.here hx rfl hd rfl q
theorem g_i2b (pc' : Nat) (X : Stand p l e R s m args below meth c T locs cells slots) (hx : p.tables.exec = Jvm.exec) {x : Int32} {z : Int32} (hd : decode c.code pc = .ok (.i2b, 1)) (hp : pc + 1 = pc') (hz : x.toInt8.toInt32 = z) (H : Go p e below s k n Q T (mkF m pc' Ls (.int z :: st))) : Go p e below s k n Q T (mkF m pc Ls (.int x :: st)) := by
  subst hp hz
  exact H.via fun t q => XS.i2b X.here hx rfl hd rfl q
theorem g_i2s (pc' : Nat) (X : Stand p l e R s m args below meth c T locs cells slots) (hx : p.tables.exec = Jvm.exec) {x : Int32} {z : Int32} (hd : decode c.code pc = .ok (.i2s, 1)) (hp : pc + 1 = pc') (hz : x.toInt16.toInt32 = z) (H : Go p e below s k n Q T (mkF m pc' Ls (.int z :: st))) : Go p e below s k n Q T (mkF m pc Ls (.int x :: st)) := by
  subst hp hz
  exact H.via fun t q => XS.i2s X.here hx rfl hd rfl q
theorem g_i2c (pc' : Nat) (X : Stand p l e R s m args below meth c T locs cells slots) (hx : p.tables.exec = Jvm.exec) {x : Int32} {z : Int32} (hd : decode c.code pc = .ok (.i2c, 1)) (hp : pc + 1 = pc') (hz : x.toUInt32.toUInt16.toUInt32.toInt32 = z) (H : Go p e below s k n Q T (mkF m pc' Ls (.int z :: st))) : Go p e below s k n Q T (mkF m pc Ls (.int x :: st)) := by
  subst hp hz
  exact H.via fun t q => XS.i2c X.here hx rfl hd rfl q
theorem g_dup (pc' : Nat) (X : Stand p l e R s m args below meth c T locs cells slots) (hx : p.tables.exec = Jvm.exec) {v : Value} (hd : decode c.code pc = .ok (.dup, 1)) (hp : pc + 1 = pc') (hv : v.category = 1) (H : Go p e below s k n Q T (mkF m pc' Ls (v :: v :: st))) : Go p e below s k n Q T (mkF m pc Ls (v :: st)) := by
  subst hp
  exact H.via fun t q => XS.dup X.here hx rfl hd rfl hv q
theorem g_pop (pc' : Nat) (X : Stand p l e R s m args below meth c T locs cells slots) (hx : p.tables.exec = Jvm.exec) {v : Value} (hd : decode c.code pc = .ok (.pop, 1)) (hp : pc + 1 = pc') (hv : v.category = 1) (H : Go p e below s k n Q T (mkF m pc' Ls st)) : Go p e below s k n Q T (mkF m pc Ls (v :: st)) := by
  subst hp
  exact H.via fun t q => XS.pop X.here hx rfl hd rfl hv q
theorem g_dup_x1 (pc' : Nat) (X : Stand p l e R s m args below meth c T locs cells slots) (hx : p.tables.exec = Jvm.exec) {v w : Value} (hd : decode c.code pc = .ok (.dup_x1, 1)) (hp : pc + 1 = pc') (hv : v.category = 1) (hw : w.category = 1) (H : Go p e below s k n Q T (mkF m pc' Ls (v :: w :: v :: st))) : Go p e below s k n Q T (mkF m pc Ls (v :: w :: st)) := by
  subst hp
  exact H.via fun t q => XS.dupX1 X.here hx rfl hd rfl hv hw q
theorem g_dup2 (pc' : Nat) (X : Stand p l e R s m args below meth c T locs cells slots) (hx : p.tables.exec = Jvm.exec) {v w : Value} (hd : decode c.code pc = .ok (.dup2, 1)) (hp : pc + 1 = pc') (hv : v.category = 1) (hw : w.category = 1) (H : Go p e below s k n Q T (mkF m pc' Ls (v :: w :: v :: w :: st))) : Go p e below s k n Q T (mkF m pc Ls (v :: w :: st)) := by
  subst hp
  exact H.via fun t q => XT.dup2 X.here hx rfl hd rfl hv hw q
theorem g_iinc (pc' : Nat) (X : Stand p l e R s m args below meth c T locs cells slots) (hx : p.tables.exec = Jvm.exec) {i : Nat} {cst : Int} {x z : Int32} {Ls' : Array Slot} (hd : decode c.code pc = .ok (.iinc i cst, 3)) (hp : pc + 3 = pc') (hl : Ls[i]? = some (.val (.int x))) (hz : x + Int32.ofInt cst = z) (hl' : storeLocals Ls i (.int z) = some Ls') (H : Go p e below s k n Q T (mkF m pc' Ls' st)) : Go p e below s k n Q T (mkF m pc Ls st) := by
  subst hp hz
  exact H.via fun t q => XS.iinc X.here hx rfl hd hl hl' q
theorem g_goto (pc' : Nat) (X : Stand p l e R s m args below meth c T locs cells slots) (hx : p.tables.exec = Jvm.exec) {o : Int} (hd : decode c.code pc = .ok (.goto o, 3)) (ho : 0 ≤ (pc : Int) + o) (hp : ((pc : Int) + o).toNat = pc') (H : Go p e below s k n Q T (mkF m pc' Ls st)) : Go p e below s k n Q T (mkF m pc Ls st) :=
  H.via fun t q => XS.goto X.here hx rfl rfl hd ho hp q
theorem g_ifYes (pc' : Nat) (X : Stand p l e R s m args below meth c T locs cells slots) (hx : p.tables.exec = Jvm.exec) {cd : ClassFile.Cond} {x : Int32} {o : Int} (hd : decode c.code pc = .ok (.ifCond cd o, 3)) (hc : ifCond.holds cd x = true) (ho : 0 ≤ (pc : Int) + o) (hp : ((pc : Int) + o).toNat = pc') (H : Go p e below s k n Q T (mkF m pc' Ls st)) : Go p e below s k n Q T (mkF m pc Ls (.int x :: st)) :=
  H.via fun t q => XS.ifYes X.here hx rfl rfl hd rfl hc ho hp q
theorem g_ifNo (pc' : Nat) (X : Stand p l e R s m args below meth c T locs cells slots) (hx : p.tables.exec = Jvm.exec) {cd : ClassFile.Cond} {x : Int32} {o : Int} (hd : decode c.code pc = .ok (.ifCond cd o, 3)) (hc : ifCond.holds cd x = false) (hp : pc + 3 = pc') (H : Go p e below s k n Q T (mkF m pc' Ls st)) : Go p e below s k n Q T (mkF m pc Ls (.int x :: st)) := by
  subst hp
  exact H.via fun t q => XS.ifNo X.here hx rfl hd rfl hc q
theorem g_icmpYes (pc' : Nat) (X : Stand p l e R s m args below meth c T locs cells slots) (hx : p.tables.exec = Jvm.exec) {cd : ClassFile.Cond} {x y : Int32} {o : Int} (hd : decode c.code pc = .ok (.if_icmp cd o, 3)) (hc : if_icmp.holds cd x y = true) (ho : 0 ≤ (pc : Int) + o) (hp : ((pc : Int) + o).toNat = pc') (H : Go p e below s k n Q T (mkF m pc' Ls st)) : Go p e below s k n Q T (mkF m pc Ls (.int y :: .int x :: st)) :=
  H.via fun t q => XS.icmpYes X.here hx rfl rfl hd rfl hc ho hp q
theorem g_icmpNo (pc' : Nat) (X : Stand p l e R s m args below meth c T locs cells slots) (hx : p.tables.exec = Jvm.exec) {cd : ClassFile.Cond} {x y : Int32} {o : Int} (hd : decode c.code pc = .ok (.if_icmp cd o, 3)) (hc : if_icmp.holds cd x y = false) (hp : pc + 3 = pc') (H : Go p e below s k n Q T (mkF m pc' Ls st)) : Go p e below s k n Q T (mkF m pc Ls (.int y :: .int x :: st)) := by
  subst hp
  exact H.via fun t q => XS.icmpNo X.here hx rfl hd rfl hc q
theorem g_lcmpYes (pc' : Nat) (X : Stand p l e R s m args below meth c T locs cells slots) (hx : p.tables.exec = Jvm.exec) {cd : ClassFile.Cond} {x y : Int64} {o : Int} {pc1 : Nat} (hd : decode c.code pc = .ok (.lcmp, 1)) (hp1 : pc + 1 = pc1) (hd' : decode c.code pc1 = .ok (.ifCond cd o, 3)) (hc : ifCond.holds cd (lcmpW x y) = true) (ho : 0 ≤ (pc1 : Int) + o) (hp : ((pc1 : Int) + o).toNat = pc') (H : Go p e below s k n Q T (mkF m pc' Ls st)) : Go p e below s k n Q T (mkF m pc Ls (.long y :: .long x :: st)) := by
  subst hp1
  exact H.via fun t q => XS.lcmp X.here hx rfl hd rfl (XS.ifYes X.here hx rfl rfl hd' rfl hc ho hp q)
theorem g_lcmpNo (pc' : Nat) (X : Stand p l e R s m args below meth c T locs cells slots) (hx : p.tables.exec = Jvm.exec) {cd : ClassFile.Cond} {x y : Int64} {o : Int} {pc1 : Nat} (hd : decode c.code pc = .ok (.lcmp, 1)) (hp1 : pc + 1 = pc1) (hd' : decode c.code pc1 = .ok (.ifCond cd o, 3)) (hc : ifCond.holds cd (lcmpW x y) = false) (hp : pc1 + 3 = pc') (H : Go p e below s k n Q T (mkF m pc' Ls st)) : Go p e below s k n Q T (mkF m pc Ls (.long y :: .long x :: st)) := by
  subst hp1; subst hp
  exact H.via fun t q => XS.lcmp X.here hx rfl hd rfl (XS.ifNo X.here hx rfl hd' rfl hc q)
theorem g_ifnullYes (pc' : Nat) (X : Stand p l e R s m args below meth c T locs cells slots) (hx : p.tables.exec = Jvm.exec) {b : Addr} {o : Int} (hd : decode c.code pc = .ok (.ifnull o, 3)) (ho : 0 ≤ (pc : Int) + o) (hp : ((pc : Int) + o).toNat = pc') (H : Go p e below s k n Q T (mkF m pc' Ls st)) : Go p e below s k n Q T (mkF m pc Ls (.null :: st)) :=
  H.via fun t q => XS.ifnullYes X.here hx rfl rfl hd rfl ho hp q
theorem g_ifnullNo (pc' : Nat) (X : Stand p l e R s m args below meth c T locs cells slots) (hx : p.tables.exec = Jvm.exec) {b : Addr} {o : Int} (hd : decode c.code pc = .ok (.ifnull o, 3)) (hp : pc + 3 = pc') (H : Go p e below s k n Q T (mkF m pc' Ls st)) : Go p e below s k n Q T (mkF m pc Ls (.ref b :: st)) := by
  subst hp
  exact H.via fun t q => XS.ifnullNo X.here hx rfl hd rfl q
theorem g_ifnonnullYes (pc' : Nat) (X : Stand p l e R s m args below meth c T locs cells slots) (hx : p.tables.exec = Jvm.exec) {b : Addr} {o : Int} (hd : decode c.code pc = .ok (.ifnonnull o, 3)) (ho : 0 ≤ (pc : Int) + o) (hp : ((pc : Int) + o).toNat = pc') (H : Go p e below s k n Q T (mkF m pc' Ls st)) : Go p e below s k n Q T (mkF m pc Ls (.ref b :: st)) :=
  H.via fun t q => XS.ifnonnullYes X.here hx rfl rfl hd rfl ho hp q
theorem g_ifnonnullNo (pc' : Nat) (X : Stand p l e R s m args below meth c T locs cells slots) (hx : p.tables.exec = Jvm.exec) {b : Addr} {o : Int} (hd : decode c.code pc = .ok (.ifnonnull o, 3)) (hp : pc + 3 = pc') (H : Go p e below s k n Q T (mkF m pc' Ls st)) : Go p e below s k n Q T (mkF m pc Ls (.null :: st)) := by
  subst hp
  exact H.via fun t q => XS.ifnonnullNo X.here hx rfl hd rfl q
theorem g_ldc (pc' : Nat) (X : Stand p l e R s m args below meth c T locs cells slots) (hx : p.tables.exec = Jvm.exec) (hZ : Z.Warmed39 s.vm) {own : String} {index : Nat} {z : Int32} (hown : s.vm.findClass own = some m.cls) (w : (Cond.constant own index z).before a0 Z = true) (hd : decode c.code pc = .ok (.ldc index, 2)) (hp : pc + 2 = pc') (H : Go p e below s k n Q T (mkF m pc' Ls (.int z :: st))) : Go p e below s k n Q T (mkF m pc Ls st) := by
  subst hp
  exact H.via fun t q => X.ldcInt hx hown (mvT hZ w) (g := mkF m pc Ls st) rfl hd t q
theorem g_ldc2 (pc' : Nat) (X : Stand p l e R s m args below meth c T locs cells slots) (hx : p.tables.exec = Jvm.exec) (hZ : Z.Warmed39 s.vm) {own : String} {index : Nat} {z : Int64} (hown : s.vm.findClass own = some m.cls) (w : (Cond.constantLong own index z).before a0 Z = true) (hd : decode c.code pc = .ok (.ldc2_w index, 3)) (hp : pc + 3 = pc') (H : Go p e below s k n Q T (mkF m pc' Ls (.long z :: st))) : Go p e below s k n Q T (mkF m pc Ls st) := by
  subst hp
  exact H.via fun t q => X.ldc2Long hx hown (mvT hZ w) (g := mkF m pc Ls st) rfl hd t q
theorem g_retI (X : Stand p l e R s m args below meth c T locs cells slots) (hx : p.tables.exec = Jvm.exec) (hret : meth.sig.returnType = some .int) (hlk : meth.locks = false) {z : Int32} (hd : decode c.code pc = .ok (.ireturn, 1)) (hk : cells ≤ k) (hn : slots ≤ n) (hQ : Q (some (.int z)) T.heap locs) : Go p e below s k n Q T (mkF m pc Ls (.int z :: st)) := by
  obtain ⟨fs, hr, hrun, hended, hW, hsame⟩ := X.leave (v := some (.int z)) (fun q => by rw [hret] at q; cases q) hlk
  exact ⟨_, _, retOut X hx hret rfl (Or.inl ⟨rfl, Or.inl rfl, z, rfl⟩) hd hr, hrun, hended, _, _, rfl, hQ, ⟨_, rfl⟩, hW, hsame.mono hk hn⟩
theorem g_retJ (X : Stand p l e R s m args below meth c T locs cells slots) (hx : p.tables.exec = Jvm.exec) (hret : meth.sig.returnType = some .long) (hlk : meth.locks = false) {z : Int64} (hd : decode c.code pc = .ok (.lreturn, 1)) (hk : cells ≤ k) (hn : slots ≤ n) (hQ : Q (some (.long z)) T.heap locs) : Go p e below s k n Q T (mkF m pc Ls (.long z :: st)) := by
  obtain ⟨fs, hr, hrun, hended, hW, hsame⟩ := X.leave (v := some (.long z)) (fun q => by rw [hret] at q; cases q) hlk
  exact ⟨_, _, retOut X hx hret rfl (Or.inr (Or.inl ⟨rfl, rfl, z, rfl⟩)) hd hr, hrun, hended, _, _, rfl, hQ, ⟨_, rfl⟩, hW, hsame.mono hk hn⟩
theorem g_retA {ty : FieldType} (X : Stand p l e R s m args below meth c T locs cells slots) (hx : p.tables.exec = Jvm.exec) (hret : meth.sig.returnType = some ty) (hlk : meth.locks = false) {v : Value} (hty : ty.isReference = true) (hv : v.isRef = true) (hnv : narrow ty v = v) (hd : decode c.code pc = .ok (.areturn, 1)) (hk : cells ≤ k) (hn : slots ≤ n) (hQ : Q (some v) T.heap locs) : Go p e below s k n Q T (mkF m pc Ls (v :: st)) := by
  obtain ⟨fs, hr, hrun, hended, hW, hsame⟩ := X.leave (v := some v) (fun q => by rw [hret] at q; cases q) hlk
  exact ⟨_, _, retOut X hx hret hnv (Or.inr (Or.inr (Or.inr (Or.inr ⟨rfl, hty, hv⟩)))) hd hr, hrun, hended, _, _, rfl, hQ, ⟨_, rfl⟩, hW, hsame.mono hk hn⟩
theorem g_ret0 (X : Stand p l e R s m args below meth c T locs cells slots) (hx : p.tables.exec = Jvm.exec) (hret : meth.sig.returnType = none) (hlk : meth.locks = false) (hd : decode c.code pc = .ok (.return_, 1)) (hk : cells ≤ k) (hn : slots ≤ n) (hQ : Q (none) T.heap locs) : Go p e below s k n Q T (mkF m pc Ls []) := by
  obtain ⟨fs, hr, hrun, hended, hW, hsame⟩ := X.leave (v := none) (fun _ => rfl) hlk
  exact ⟨_, _, X.returnOut hx hret hd hr, hrun, hended, _, _, rfl, hQ, ⟨_, rfl⟩, hW, hsame.mono hk hn⟩
theorem g_retN (X : Stand p l e R s m args below meth c T locs cells slots) (hx : p.tables.exec = Jvm.exec) {t : FieldType} (hret : meth.sig.returnType = some t) (hlk : meth.locks = false) {z z' : Int32} (ht : t = .boolean ∨ t = .byte ∨ t = .char ∨ t = .short) (hz : nar t z = z') (hd : decode c.code pc = .ok (.ireturn, 1)) (hk : cells ≤ k) (hn : slots ≤ n) (hQ : Q (some (.int z')) T.heap locs) : Go p e below s k n Q T (mkF m pc Ls (.int z :: st)) := by
  subst hz
  obtain ⟨fs, hr, hrun, hended, hW, hsame⟩ := X.leave (v := some (.int (nar t z))) (fun q => by rw [hret] at q; cases q) hlk
  exact ⟨_, _, retN X hx hret ht hd hr, hrun, hended, _, _, rfl, hQ, ⟨_, rfl⟩, hW, hsame.mono hk hn⟩
theorem g_getF (pc' : Nat) (X : Stand p l e R s m args below meth c T locs cells slots) (hx : p.tables.exec = Jvm.exec) (hZ : Z.Warmed39 s.vm) {own R0 O nm d : String} {index : Nat} (hown : s.vm.findClass own = some m.cls) (w : (Cond.fieldLink own index R0 nm d).before a0 Z = true) (via : Via Z R0 O nm d) (eT : T.heap = h) {a : Addr} {v : Value} (F : Fld Z h a O nm d v) (hd : decode c.code pc = .ok (.getfield index, 3)) (hp : pc + 3 = pc') (H : ∀ T', Stand p l e R s m args below meth c T' locs cells slots → T'.heap = h → Go p e below s k n Q T' (mkF m pc' Ls (v :: st))) : Go p e below s k n Q T (mkF m pc Ls (.ref a :: st)) := by
  subst hp
  obtain ⟨T', X', e', q⟩ := getF X hx hZ hown (host := "") (Or.inl w) via eT F (g := mkF m pc Ls (.ref a :: st)) rfl rfl hd
  exact (H T' X' e').via q
theorem g_putF (pc' : Nat) (X : Stand p l e R s m args below meth c T locs cells slots) (hx : p.tables.exec = Jvm.exec) (hZ : Z.Warmed39 s.vm) {own R0 O nm d C : String} {index kk : Nat} {ty : FieldType} (hown : s.vm.findClass own = some m.cls) (w : (Cond.fieldLink own index R0 nm d).before a0 Z = true) (via : Via Z R0 O nm d) (eT : T.heap = h) {a : Addr} {v old : Value} (F : Fld Z h a O nm d old) (E : Exa Z h a C) (L : (Cond.lays C O nm d).before a0 Z = true ∨ ((Cond.laysFinal C O nm d).before a0 Z = true ∧ own = O ∧ meth.name = "<init>")) (wi : (Cond.instantiable C kk).before a0 Z = true) (hty : parseFieldDescriptor d = some ty) (hn : narrow ty v = v) (hf : fits ty v = true) (hd : decode c.code pc = .ok (.putfield index, 3)) (hp : pc + 3 = pc') (H : ∀ T' h', Stand p l e R s m args below meth c T' (locs ++ [⟨a, Jvm.RoadKit.slotOf Z O nm d⟩]) cells slots → T'.heap = h' → Wr h h' a (Jvm.RoadKit.slotOf Z O nm d) v → Go p e below s k n Q T' (mkF m pc' Ls st)) : Go p e below s k n Q T (mkF m pc Ls (v :: .ref a :: st)) := by
  subst hp
  obtain ⟨T', h', X', e', W, q⟩ := putF X hx hZ hown (host := "") (Or.inl w) via eT F E L wi hty hn hf (g := mkF m pc Ls (v :: .ref a :: st)) rfl rfl hd
  exact (H T' h' X' e' W).via q
theorem g_newO (pc' : Nat) (X : Stand p l e R s m args below meth c T locs cells slots) (hx : p.tables.exec = Jvm.exec) (hZ : Z.Warmed39 s.vm) {own C : String} {index nn : Nat} (hown : s.vm.findClass own = some m.cls) (w : (Cond.classLink own index C).before a0 Z = true) (wi : (Cond.instantiable C nn).before a0 Z = true) (wz : (Cond.initialized C).before a0 Z = true) (eT : T.heap = h) (hd : decode c.code pc = .ok (.new index, 3)) (hc : cells + 1 ≤ R.cells) (hl : slots + nn ≤ R.slots) (hp : pc + 3 = pc') (H : ∀ T' h' b, Stand p l e R s m args below meth c T' locs (cells + 1) (slots + nn) → T'.heap = h' → Ext h h' → b = h.size → Exa Z h' b C → (∀ {O nm d : String} {ty : FieldType}, Laid Z a0 C O nm d → parseFieldDescriptor d = some ty → Fld Z h' b O nm d (defaultValue ty)) → Go p e below s k n Q T' (mkF m pc' Ls (.ref b :: st))) : Go p e below s k n Q T (mkF m pc Ls st) := by
  subst hp
  obtain ⟨T', h', X', e', E, A, D, -, q⟩ := newO X hx hZ hown w wi wz eT (g := mkF m pc Ls st) rfl hd hc hl
  exact (H T' h' _ X' e' E rfl A D).via q
theorem g_initO (pc' : Nat) (X : Stand p l e R s m args below meth c T locs cells slots) (hx : p.tables.exec = Jvm.exec) (hZ : Z.Warmed39 s.vm) {own : String} {idx : Nat} (hown : s.vm.findClass own = some m.cls) (w1 : (Cond.methodLink own idx Lib.objectInit).before a0 Z = true) (w2 : (Cond.instanceMethod Lib.objectInit).before a0 Z = true) (w3 : (Cond.code Lib.objectInit ⟨#[0xb1]⟩ 1 none).before a0 Z = true) (eT : T.heap = h) (hsize : Ls.size = c.maxLocals) {a : Addr} (hd : decode c.code pc = .ok (.invokespecial idx, 3)) (hf : 1 ≤ R.frames) (W : Nat) (hW : (st.map fun v => v.category).sum ≤ W) (hl : W + 12 ≤ R.locals) (hp : pc + 3 = pc') (H : ∀ T', Stand p l e R s m args below meth c T' locs cells slots → T'.heap = h → Go p e below s k n Q T' (mkF m pc' Ls st)) : Go p e below s k n Q T (mkF m pc Ls (.ref a :: st)) := by
  subst hp
  obtain ⟨T', X', e', q⟩ := initO X hx hZ hown w1 w2 w3 eT (g := mkF m pc Ls (.ref a :: st)) rfl hsize rfl hd hf (W := W) (by show 2 * 0 + _ ≤ _; omega) hl
  exact (H T' X' e').via q
theorem g_callS (pc' : Nat) (X : Stand p l e R s m args below meth c T locs cells slots) (hx : p.tables.exec = Jvm.exec) (hZ : Z.Warmed39 s.vm) {own : String} {index : Nat} {y : MethodName} {bytes : ByteArray} {maxL : Nat} {ret : Option FieldType} {rm : Room} {as' : Array Value} {Qc : Option Value → Heap → List Loc → Prop} (hown : s.vm.findClass own = some m.cls) (w1 : (Cond.methodLink own index y).before a0 Z = true) (w2 : (Cond.static y).before a0 Z = true) (w3 : (Cond.initialized y.cls).before a0 Z = true) (w4 : (Cond.code y bytes maxL ret).before a0 Z = true) (hy : y.cls ≠ "java/lang/invoke/MethodHandle" ∧ y.cls ≠ "java/lang/invoke/VarHandle") (eT : T.heap = h) (hM : MetFree l y (head1 [Cond.code y bytes maxL ret] rm) (fun a U => a = as' ∧ Z.Warmed39 U.vm ∧ U.heap = h) (fun _ _ _ _ _ => True) (fun _ U o U' => ∃ v L, o = .returned v ∧ Qc v U'.heap L ∧ FrameEnd U o U' L rm.cells rm.slots)) (hsize : Ls.size = c.maxLocals) (argsL rest : List Value) (ha : argsL.toArray = as') (hst : st = argsL.reverse ++ rest) (hlen : ∀ sig, parseMethodDescriptor y.desc = some sig → argsL.length = sig.parameters.length) (W : Nat) (hW : (rest.map fun v => v.category).sum ≤ W) (hd : decode c.code pc = .ok (.invokestatic index, 3)) (hfr : rm.frames + 1 ≤ R.frames) (hlo : W + (maxL + 11) + rm.locals ≤ R.locals) (hce : cells + rm.cells ≤ R.cells) (hsl : slots + rm.slots ≤ R.slots) (hp : pc + 3 = pc') (H : ∀ v T' L, Stand p l e R s m args below meth c T' (locs ++ L) (cells + rm.cells) (slots + rm.slots) → Qc v T'.heap L → Go p e below s k n Q T' (mkF m pc' Ls (v.toList ++ rest))) : Go p e below s k n Q T (mkF m pc Ls st) := by
  subst hp hst
  obtain ⟨v, _, ⟨T', L, k', n'⟩, -, X', ⟨Lc, hQ, l1, l2, l3⟩, q⟩ := Jvm.LawKit.callS X hx (y := y) hown (mvT hZ w1) (mvT hZ w2) (mvT hZ w3) (mvT hZ w4) hy (backOf (W := W) hM hZ w4 w3 hfr hlo) (g := mkF m pc Ls (argsL.reverse ++ rest)) rfl hsize (argsL := argsL) (rest := rest) hlen rfl (by show 2 * 0 + _ ≤ _; omega) hd (fun _ _ => ⟨ha, eT, hce, hsl⟩)
  dsimp only [Pt.U, Pt.locs, Pt.cells, Pt.slots] at X' l1 l2 l3 q hQ
  subst l1 l2 l3
  exact (H v T' Lc X' hQ).via q
theorem g_callI (pc' : Nat) (X : Stand p l e R s m args below meth c T locs cells slots) (hx : p.tables.exec = Jvm.exec) (hZ : Z.Warmed39 s.vm) {own : String} {index : Nat} {y : MethodName} {bytes : ByteArray} {maxL : Nat} {rm : Room} {as' : Array Value} {Qc : Option Value → Heap → List Loc → Prop} (hy1 : y.name = "<init>") (hown : s.vm.findClass own = some m.cls) (w1 : (Cond.methodLink own index y).before a0 Z = true) (w2 : (Cond.instanceMethod y).before a0 Z = true) (w3 : (Cond.initialized y.cls).before a0 Z = true) (w4 : (Cond.code y bytes maxL none).before a0 Z = true) (hy : y.cls ≠ "java/lang/invoke/MethodHandle" ∧ y.cls ≠ "java/lang/invoke/VarHandle") (eT : T.heap = h) (hM : MetFree l y (head1 [Cond.code y bytes maxL none] rm) (fun a U => a = as' ∧ Z.Warmed39 U.vm ∧ U.heap = h) (fun _ _ _ _ _ => True) (fun _ U o U' => ∃ v L, o = .returned v ∧ Qc v U'.heap L ∧ FrameEnd U o U' L rm.cells rm.slots)) (hsize : Ls.size = c.maxLocals) (a : Addr) (argsL rest : List Value) (ha : (.ref a :: argsL).toArray = as') (hst : st = argsL.reverse ++ .ref a :: rest) (hlen : ∀ sig, parseMethodDescriptor y.desc = some sig → argsL.length = sig.parameters.length) (W : Nat) (hW : (rest.map fun v => v.category).sum ≤ W) (hd : decode c.code pc = .ok (.invokespecial index, 3)) (hfr : rm.frames + 1 ≤ R.frames) (hlo : W + (maxL + 11) + rm.locals ≤ R.locals) (hce : cells + rm.cells ≤ R.cells) (hsl : slots + rm.slots ≤ R.slots) (hp : pc + 3 = pc') (H : ∀ v T' L, Stand p l e R s m args below meth c T' (locs ++ L) (cells + rm.cells) (slots + rm.slots) → Qc v T'.heap L → Go p e below s k n Q T' (mkF m pc' Ls (v.toList ++ rest))) : Go p e below s k n Q T (mkF m pc Ls st) := by
  subst hp hst
  obtain ⟨v, _, ⟨T', L, k', n'⟩, -, X', ⟨Lc, hQ, l1, l2, l3⟩, q⟩ := X.specialBack hx (y := y) hy1 hown (mvT hZ w1) (mvT hZ w2) (mvT hZ w4) hy (backOf (W := W) hM hZ w4 w3 hfr hlo) (g := mkF m pc Ls (argsL.reverse ++ .ref a :: rest)) rfl hsize (Steps.refl _) (a := a) (argsL := argsL) (rest := rest) hlen rfl (by show 2 * 0 + _ ≤ _; omega) hd (fun _ _ => ⟨ha, eT, hce, hsl⟩)
  dsimp only [Pt.U, Pt.locs, Pt.cells, Pt.slots] at X' l1 l2 l3 q hQ
  subst l1 l2 l3
  exact (H v T' Lc X' hQ).via fun t r => q.trans r
theorem g_callV (pc' : Nat) (X : Stand p l e R s m args below meth c T locs cells slots) (hx : p.tables.exec = Jvm.exec) (hZ : Z.Warmed39 s.vm) {own : String} {index : Nat} {y : MethodName} {bytes : ByteArray} {maxL : Nat} {ret : Option FieldType} {rm : Room} {as' : Array Value} {Qc : Option Value → Heap → List Loc → Prop} (hown : s.vm.findClass own = some m.cls) (w1 : (Cond.methodLink own index y).before a0 Z = true) (w2 : (Cond.declares y).before a0 Z = true) (w5 : (Cond.selects y.cls y y).before a0 Z = true) (w6 : (Cond.instanceMethod y).before a0 Z = true) (w3 : (Cond.initialized y.cls).before a0 Z = true) (w4 : (Cond.code y bytes maxL ret).before a0 Z = true) (hy : y.cls ≠ "java/lang/invoke/MethodHandle" ∧ y.cls ≠ "java/lang/invoke/VarHandle") (eT : T.heap = h) {a : Addr} (E : Exa Z h a y.cls) (hM : MetFree l y (head1 [Cond.code y bytes maxL ret] rm) (fun a U => a = as' ∧ Z.Warmed39 U.vm ∧ U.heap = h) (fun _ _ _ _ _ => True) (fun _ U o U' => ∃ v L, o = .returned v ∧ Qc v U'.heap L ∧ FrameEnd U o U' L rm.cells rm.slots)) (hsize : Ls.size = c.maxLocals) (argsL rest : List Value) (ha : (.ref a :: argsL).toArray = as') (hst : st = argsL.reverse ++ .ref a :: rest) (hlen : ∀ sig, parseMethodDescriptor y.desc = some sig → argsL.length = sig.parameters.length) (W : Nat) (hW : (rest.map fun v => v.category).sum ≤ W) (hd : decode c.code pc = .ok (.invokevirtual index, 3)) (hfr : rm.frames + 1 ≤ R.frames) (hlo : W + (maxL + 11) + rm.locals ≤ R.locals) (hce : cells + rm.cells ≤ R.cells) (hsl : slots + rm.slots ≤ R.slots) (hp : pc + 3 = pc') (H : ∀ v T' L, Stand p l e R s m args below meth c T' (locs ++ L) (cells + rm.cells) (slots + rm.slots) → Qc v T'.heap L → Go p e below s k n Q T' (mkF m pc' Ls (v.toList ++ rest))) : Go p e below s k n Q T (mkF m pc Ls st) := by
  subst hp hst
  obtain ⟨cq, kq, qa, qb, qc⟩ := isOf hZ eT E
  obtain ⟨v, _, ⟨T', L, k', n'⟩, -, X', ⟨Lc, hQ, l1, l2, l3⟩, q⟩ := X.virtualBack hx (y := y) (z := y) hown (mvT hZ w1) (mvT hZ w2) (notFace_of_selects (args := #[]) (mvT hZ w5)) (mvT hZ w5) (mvT hZ w6) hy (backOf (W := W) hM hZ w4 w3 hfr hlo) qa qc (g := mkF m pc Ls (argsL.reverse ++ .ref a :: rest)) rfl hsize (Steps.refl _) (argsL := argsL) (rest := rest) hlen rfl (by show 2 * 0 + _ ≤ _; omega) hd (fun _ _ => ⟨ha, eT, hce, hsl⟩)
  dsimp only [Pt.U, Pt.locs, Pt.cells, Pt.slots] at X' l1 l2 l3 q hQ
  subst l1 l2 l3
  exact (H v T' Lc X' hQ).via fun t r => q.trans r
theorem g_ldcF (pc' : Nat) (X : Stand p l e R s m args below meth c T locs cells slots) (hx : p.tables.exec = Jvm.exec) (hZ : Z.Warmed39 s.vm) {own : String} {index : Nat} {z : UInt32} (hown : s.vm.findClass own = some m.cls) (w : (Cond.constantFloat own index z).before a0 Z = true) (hd : decode c.code pc = .ok (.ldc index, 2)) (hp : pc + 2 = pc') (H : Go p e below s k n Q T (mkF m pc' Ls (.float z :: st))) : Go p e below s k n Q T (mkF m pc Ls st) := by
  subst hp
  exact H.via fun t q => X.ldcFloatC hx hown (mvT hZ w) (g := mkF m pc Ls st) rfl hd t q
theorem g_getS (pc' : Nat) (X : Stand p l e R s m args below meth c T locs cells slots) (hx : p.tables.exec = Jvm.exec) (hZ : Z.Warmed39 s.vm) {own R0 O nm d : String} {index : Nat} (hown : s.vm.findClass own = some m.cls) (w : (Cond.fieldLink own index R0 nm d).before a0 Z = true) (via : Via Z R0 O nm d) (eT : T.heap = h) {v : Value} (F : Sta Z h O nm d v) (hd : decode c.code pc = .ok (.getstatic index, 3)) (hp : pc + 3 = pc') (H : ∀ T', Stand p l e R s m args below meth c T' locs cells slots → T'.heap = h → Go p e below s k n Q T' (mkF m pc' Ls (v :: st))) : Go p e below s k n Q T (mkF m pc Ls st) := by
  subst hp
  obtain ⟨T', X', e', q⟩ := getS2 X hx hZ hown (host := "") (Or.inl w) via eT F (g := mkF m pc Ls st) rfl hd
  exact (H T' X' e').via q
theorem g_callF (pc' : Nat) (X : Stand p l e R s m args below meth c T locs cells slots) (hx : p.tables.exec = Jvm.exec) (hZ : Z.Warmed39 s.vm) {own C : String} {index count : Nat} {xi y : MethodName} {bytes : ByteArray} {maxL : Nat} {ret : Option FieldType} {rm : Room} {as' : Array Value} {Qc : Option Value → Heap → List Loc → Prop} (hown : s.vm.findClass own = some m.cls) (w1 : (Cond.methodLink own index xi).before a0 Z = true) (w2 : (Cond.declares xi).before a0 Z = true) (w5 : (Cond.interfaceMethod xi.cls xi.cls xi.name xi.desc).before a0 Z = true) (hf5 : ((Cond.interfaceMethod xi.cls xi.cls xi.name xi.desc).onTables && (Cond.interfaceMethod xi.cls xi.cls xi.name xi.desc).keepsFace) = true) (w6 : (Cond.selects C xi y).before a0 Z = true) (w7 : (Cond.instanceMethod y).before a0 Z = true) (w8 : (Cond.publicMethod y).before a0 Z = true) (w9 : (Cond.unhidden C xi.name xi.desc).before a0 Z = true) (w10 : (Cond.castable C xi.cls).before a0 Z = true) (w3 : (Cond.initialized y.cls).before a0 Z = true) (w4 : (Cond.code y bytes maxL ret).before a0 Z = true) (hy : xi.cls ≠ "java/lang/invoke/MethodHandle" ∧ xi.cls ≠ "java/lang/invoke/VarHandle") (eT : T.heap = h) {a : Addr} (E : Exa Z h a C) (hM : MetFree l y (head1 [Cond.code y bytes maxL ret] rm) (fun a U => a = as' ∧ Z.Warmed39 U.vm ∧ U.heap = h) (fun _ _ _ _ _ => True) (fun _ U o U' => ∃ v L, o = .returned v ∧ Qc v U'.heap L ∧ FrameEnd U o U' L rm.cells rm.slots)) (hsize : Ls.size = c.maxLocals) (argsL rest : List Value) (ha : (.ref a :: argsL).toArray = as') (hst : st = argsL.reverse ++ .ref a :: rest) (hlen : ∀ sig, parseMethodDescriptor xi.desc = some sig → argsL.length = sig.parameters.length) (W : Nat) (hW : (rest.map fun v => v.category).sum ≤ W) (hd : decode c.code pc = .ok (.invokeinterface index count, 5)) (hfr : rm.frames + 1 ≤ R.frames) (hlo : W + (maxL + 11) + rm.locals ≤ R.locals) (hce : cells + rm.cells ≤ R.cells) (hsl : slots + rm.slots ≤ R.slots) (hp : pc + 5 = pc') (H : ∀ v T' L, Stand p l e R s m args below meth c T' (locs ++ L) (cells + rm.cells) (slots + rm.slots) → Qc v T'.heap L → Go p e below s k n Q T' (mkF m pc' Ls (v.toList ++ rest))) : Go p e below s k n Q T (mkF m pc Ls st) := by
  subst hp hst
  obtain ⟨cq, kq, qa, qb, qc⟩ := isOf hZ eT E
  have hK : Back l R p e below s args y 5 W _ _ := backOf (W := W) hM hZ w4 w3 hfr hlo
  obtain ⟨v, _, ⟨T', L, k', n'⟩, -, X', ⟨Lc, hQ, l1, l2, l3⟩, q⟩ := X.interfaceBack hx (xi := xi) (y := y) hown (mvT hZ w1) (mvT hZ w2) (mvT hZ w5 hf5) (mvT hZ w6) (mvT hZ w7) (mvT hZ w8) (mvT hZ w9) (mvT hZ w10) hy hK qa qb qc (g := mkF m pc Ls (argsL.reverse ++ .ref a :: rest)) rfl hsize (Steps.refl _) (argsL := argsL) (rest := rest) hlen rfl (by show 2 * 0 + _ ≤ _; omega) hd (fun _ _ => ⟨ha, eT, hce, hsl⟩)
  dsimp only [Pt.U, Pt.locs, Pt.cells, Pt.slots] at X' l1 l2 l3 q hQ
  subst l1 l2 l3
  exact (H v T' Lc X' hQ).via fun t r => q.trans r
theorem own_staKeep {C nm d : String} {v : Value} {ws : List Addr} (F : Sta Z h C nm d v) (K : Keep h h' ws) (q : ∀ x ∈ ws, ∃ C', Exa Z h x C') : Sta Z h' C nm d v := by
  obtain ⟨cf, i, kk, f, s0, cell, h1, h2, h3, h4, h5, h6, h7⟩ := F
  refine ⟨cf, i, kk, f, s0, cell, h1, h2, h3, h4, K.2.1 s0 cell h5 (fun hm => ?_), h6, h7⟩
  obtain ⟨C', c1, k1, e1, _, _, e4, _⟩ := q s0 hm
  cases h5.symm.trans e1
  rw [h6] at e4; cases e4
end OwnKit
theorem own_lrem (x y : Int64) (d : Int) (hy : y.toInt = d) : (0 ≤ x.toInt → (x % y).toInt = x.toInt % d) ∧ (x.toInt < 0 → (x % y).toInt = -((-x.toInt) % d)) := by
  rw [Int64.toInt_mod, hy]; exact tr _ _
theorem own_lremV (x y : Int64) : 0 ≤ x.toInt → 0 < y.toInt → 0 ≤ (x % y).toInt ∧ (x % y).toInt < y.toInt ∧ (x % y).toInt ≤ x.toInt := by
  intro h1 h2
  rw [Int64.toInt_mod, Int.tmod_eq_emod_of_nonneg h1]
  have a := Int.emod_nonneg x.toInt (by omega : y.toInt ≠ 0)
  have b := Int.emod_lt_of_pos x.toInt h2
  refine ⟨a, b, ?_⟩
  by_cases c : x.toInt < y.toInt
  · rw [Int.emod_eq_of_lt h1 c]; exact Int.le_refl _
  · omega
theorem own_prod {a b A B : Int} (h1 : 0 ≤ a) (h2 : a ≤ A) (h3 : 0 ≤ b) (h4 : b ≤ B) : 0 ≤ a * b ∧ a * b ≤ A * B :=
  ⟨Int.mul_nonneg h1 h3, Int.mul_le_mul h2 h4 h3 (Int.le_trans h1 h2)⟩

theorem pn_0 : plainName "java/util/AbstractMap" = true := by first | (simp [plainName, overriddenIn]; done) | decide +kernel
theorem d4_0 : decode jdk_71_method_1_code 0 = .ok (.aload_n 0, 1) := by decide +kernel
theorem d4_1 : decode jdk_71_method_1_code 1 = .ok (.invokespecial 1, 3) := by decide +kernel
theorem d4_4 : decode jdk_71_method_1_code 4 = .ok (.return_, 1) := by decide +kernel
def Q4 (Z : State) (a1 : Addr) (h0 : Heap) (n0 : Nat) (v : Option Value) (h : Heap) (L : List Loc) : Prop := v = none ∧ Fr n0 L ∧ h = h0
theorem ef_rm4 (m : MethodId) (a1 : Addr) : entryFrame m #[(.ref a1)] 1 = mkF m 0 #[.val (.ref a1)] [] := by first | (simp [entryFrame, mkF, argsToLocals, Value.category]; done) | rfl
set_option maxRecDepth 65536 in
set_option maxHeartbeats 40000000 in
theorem rm4 (l : Launch) (Z : State) (a0 : Array Value) (hw : ∀ d ∈ tables_1, d.before a0 Z = true) (ws : List Jvm.Cond) (a1 : Addr) (h0 : Heap) (n0 : Nat) (Z0 : n0 ≤ h0.size)  :
    MetFree l (⟨"java/util/AbstractMap", "<init>", "()V"⟩ : MethodName) (head1 (Jvm.Cond.code (⟨"java/util/AbstractMap", "<init>", "()V"⟩ : MethodName) jdk_71_method_1_code 1 none :: ws) ({ frames := 1, cells := 0, slots := 0, locals := 12 } : Room)) (fun a U => a = #[(.ref a1)] ∧ Z.Warmed39 U.vm ∧ U.heap = h0) (fun _ _ _ _ _ => True) (fun _ U o U' => ∃ v L, o = .returned v ∧ (Q4 Z a1 h0 n0) v U'.heap L ∧ FrameEnd U o U' L ({ frames := 1, cells := 0, slots := 0, locals := 12 } : Room).cells ({ frames := 1, cells := 0, slots := 0, locals := 12 } : Room).slots) := by
  refine MetFree.of_bodySF (plainFor_of_name pn_0) hisR ?_
  intro p e s m args below meth c s₁ Bd hml0 hP hK
  obtain ⟨rfl, hZ, hh⟩ := hP
  have hx := Bd.exec
  have hby := Bd.bytes
  have hml : c.maxLocals = 1 := hml0
  have hown : s.vm.findClass "java/util/AbstractMap" = some m.cls := findClass_of_methodNamed Bd.named
  have hnm := (name_of_methodNamed Bd.named Bd.method).1
  have hlk : meth.locks = false := BodyLoose.notSynchronized Bd
  have X0 : Stand p l e ({ frames := 1, cells := 0, slots := 0, locals := 12 } : Room) s m #[(.ref a1)] below meth c s₁ [] 0 0 := Stand.of_body Bd
  have e0 : s₁.heap = h0 := by rw [← hh, Bd.state]; rfl
  have N0 := Fr.nil n0
  show Go p e below s ({ frames := 1, cells := 0, slots := 0, locals := 12 } : Room).cells ({ frames := 1, cells := 0, slots := 0, locals := 12 } : Room).slots (Q4 Z a1 h0 n0) s₁ (entryFrame m #[(.ref a1)] 1)
  rw [ef_rm4 m a1]
  refine g_aloadN 1 X0 hx (hb hby d4_0) rfl (v := (.ref a1)) rfl rfl ?_
  refine g_initO 4 X0 hx hZ hown (hw _ (List.mem_of_getElem? (i := 21) rfl)) (hw _ (List.mem_of_getElem? (i := 7) rfl)) (hw _ (List.mem_of_getElem? (i := 8) rfl)) e0 (by rw [hml]; rfl) (hb hby d4_1) (by decide) 0 (Nat.le_of_eq rfl) (by decide) rfl ?_
  intro T1 X1 e1
  exact g_ret0 X1 hx Bd.returns hlk (hb hby d4_4) (by decide) (by decide) ⟨rfl, N0, e1⟩
theorem pn_1 : plainName "java/util/AbstractCollection" = true := by first | (simp [plainName, overriddenIn]; done) | decide +kernel
theorem d9_0 : decode jdk_22_method_1_code 0 = .ok (.aload_n 0, 1) := by decide +kernel
theorem d9_1 : decode jdk_22_method_1_code 1 = .ok (.invokespecial 1, 3) := by decide +kernel
theorem d9_4 : decode jdk_22_method_1_code 4 = .ok (.return_, 1) := by decide +kernel
def Q9 (Z : State) (a1 : Addr) (h0 : Heap) (n0 : Nat) (v : Option Value) (h : Heap) (L : List Loc) : Prop := v = none ∧ Fr n0 L ∧ h = h0
theorem ef_rm9 (m : MethodId) (a1 : Addr) : entryFrame m #[(.ref a1)] 1 = mkF m 0 #[.val (.ref a1)] [] := by first | (simp [entryFrame, mkF, argsToLocals, Value.category]; done) | rfl
set_option maxRecDepth 65536 in
set_option maxHeartbeats 40000000 in
theorem rm9 (l : Launch) (Z : State) (a0 : Array Value) (hw : ∀ d ∈ tables_1, d.before a0 Z = true) (ws : List Jvm.Cond) (a1 : Addr) (h0 : Heap) (n0 : Nat) (Z0 : n0 ≤ h0.size)  :
    MetFree l (⟨"java/util/AbstractCollection", "<init>", "()V"⟩ : MethodName) (head1 (Jvm.Cond.code (⟨"java/util/AbstractCollection", "<init>", "()V"⟩ : MethodName) jdk_22_method_1_code 1 none :: ws) ({ frames := 1, cells := 0, slots := 0, locals := 12 } : Room)) (fun a U => a = #[(.ref a1)] ∧ Z.Warmed39 U.vm ∧ U.heap = h0) (fun _ _ _ _ _ => True) (fun _ U o U' => ∃ v L, o = .returned v ∧ (Q9 Z a1 h0 n0) v U'.heap L ∧ FrameEnd U o U' L ({ frames := 1, cells := 0, slots := 0, locals := 12 } : Room).cells ({ frames := 1, cells := 0, slots := 0, locals := 12 } : Room).slots) := by
  refine MetFree.of_bodySF (plainFor_of_name pn_1) hisR ?_
  intro p e s m args below meth c s₁ Bd hml0 hP hK
  obtain ⟨rfl, hZ, hh⟩ := hP
  have hx := Bd.exec
  have hby := Bd.bytes
  have hml : c.maxLocals = 1 := hml0
  have hown : s.vm.findClass "java/util/AbstractCollection" = some m.cls := findClass_of_methodNamed Bd.named
  have hnm := (name_of_methodNamed Bd.named Bd.method).1
  have hlk : meth.locks = false := BodyLoose.notSynchronized Bd
  have X0 : Stand p l e ({ frames := 1, cells := 0, slots := 0, locals := 12 } : Room) s m #[(.ref a1)] below meth c s₁ [] 0 0 := Stand.of_body Bd
  have e0 : s₁.heap = h0 := by rw [← hh, Bd.state]; rfl
  have N0 := Fr.nil n0
  show Go p e below s ({ frames := 1, cells := 0, slots := 0, locals := 12 } : Room).cells ({ frames := 1, cells := 0, slots := 0, locals := 12 } : Room).slots (Q9 Z a1 h0 n0) s₁ (entryFrame m #[(.ref a1)] 1)
  rw [ef_rm9 m a1]
  refine g_aloadN 1 X0 hx (hb hby d9_0) rfl (v := (.ref a1)) rfl rfl ?_
  refine g_initO 4 X0 hx hZ hown (hw _ (List.mem_of_getElem? (i := 63) rfl)) (hw _ (List.mem_of_getElem? (i := 7) rfl)) (hw _ (List.mem_of_getElem? (i := 8) rfl)) e0 (by rw [hml]; rfl) (hb hby d9_1) (by decide) 0 (Nat.le_of_eq rfl) (by decide) rfl ?_
  intro T1 X1 e1
  exact g_ret0 X1 hx Bd.returns hlk (hb hby d9_4) (by decide) (by decide) ⟨rfl, N0, e1⟩
theorem pd_0 : parseMethodDescriptor "()V" = some ⟨[], none⟩ := by decide +kernel
theorem pn_2 : plainName "java/util/AbstractSet" = true := by first | (simp [plainName, overriddenIn]; done) | decide +kernel
theorem d17_0 : decode jdk_91_method_1_code 0 = .ok (.aload_n 0, 1) := by decide +kernel
theorem d17_1 : decode jdk_91_method_1_code 1 = .ok (.invokespecial 1, 3) := by decide +kernel
theorem d17_4 : decode jdk_91_method_1_code 4 = .ok (.return_, 1) := by decide +kernel
def Q17 (Z : State) (a1 : Addr) (h0 : Heap) (n0 : Nat) (v : Option Value) (h : Heap) (L : List Loc) : Prop := v = none ∧ Fr n0 L ∧ h = h0
theorem ef_rm17 (m : MethodId) (a1 : Addr) : entryFrame m #[(.ref a1)] 1 = mkF m 0 #[.val (.ref a1)] [] := by first | (simp [entryFrame, mkF, argsToLocals, Value.category]; done) | rfl
set_option maxRecDepth 65536 in
set_option maxHeartbeats 40000000 in
theorem rm17 (l : Launch) (Z : State) (a0 : Array Value) (hw : ∀ d ∈ tables_1, d.before a0 Z = true) (ws : List Jvm.Cond) (a1 : Addr) (h0 : Heap) (n0 : Nat) (Z0 : n0 ≤ h0.size)  :
    MetFree l (⟨"java/util/AbstractSet", "<init>", "()V"⟩ : MethodName) (head1 (Jvm.Cond.code (⟨"java/util/AbstractSet", "<init>", "()V"⟩ : MethodName) jdk_91_method_1_code 1 none :: ws) ({ frames := 2, cells := 0, slots := 0, locals := 24 } : Room)) (fun a U => a = #[(.ref a1)] ∧ Z.Warmed39 U.vm ∧ U.heap = h0) (fun _ _ _ _ _ => True) (fun _ U o U' => ∃ v L, o = .returned v ∧ (Q17 Z a1 h0 n0) v U'.heap L ∧ FrameEnd U o U' L ({ frames := 2, cells := 0, slots := 0, locals := 24 } : Room).cells ({ frames := 2, cells := 0, slots := 0, locals := 24 } : Room).slots) := by
  refine MetFree.of_bodySF (plainFor_of_name pn_2) hisR ?_
  intro p e s m args below meth c s₁ Bd hml0 hP hK
  obtain ⟨rfl, hZ, hh⟩ := hP
  have hx := Bd.exec
  have hby := Bd.bytes
  have hml : c.maxLocals = 1 := hml0
  have hown : s.vm.findClass "java/util/AbstractSet" = some m.cls := findClass_of_methodNamed Bd.named
  have hnm := (name_of_methodNamed Bd.named Bd.method).1
  have hlk : meth.locks = false := BodyLoose.notSynchronized Bd
  have X0 : Stand p l e ({ frames := 2, cells := 0, slots := 0, locals := 24 } : Room) s m #[(.ref a1)] below meth c s₁ [] 0 0 := Stand.of_body Bd
  have e0 : s₁.heap = h0 := by rw [← hh, Bd.state]; rfl
  have N0 := Fr.nil n0
  show Go p e below s ({ frames := 2, cells := 0, slots := 0, locals := 24 } : Room).cells ({ frames := 2, cells := 0, slots := 0, locals := 24 } : Room).slots (Q17 Z a1 h0 n0) s₁ (entryFrame m #[(.ref a1)] 1)
  rw [ef_rm17 m a1]
  refine g_aloadN 1 X0 hx (hb hby d17_0) rfl (v := (.ref a1)) rfl rfl ?_
  refine g_callI 4 X0 hx hZ (y := (⟨"java/util/AbstractCollection", "<init>", "()V"⟩ : MethodName)) rfl hown (hw _ (List.mem_of_getElem? (i := 150) rfl)) (hw _ (List.mem_of_getElem? (i := 58) rfl)) (hw _ (List.mem_of_getElem? (i := 61) rfl)) (hw _ (List.mem_of_getElem? (i := 62) rfl)) (by decide) e0 (rm9 l Z a0 hw [] a1  h0 n0 Z0 ) (by rw [hml]; rfl) a1 [] [] rfl rfl (lenOf pd_0 rfl) 0 (Nat.le_of_eq rfl) (hb hby d17_1) (by decide) (by decide) (by decide) (by decide) rfl ?_
  intro v1 T1 L1 X1 hQ1
  obtain ⟨rfl, N1q, e1⟩ := hQ1
  have N1 := Fr.app N0 N1q
  show Go p e below s ({ frames := 2, cells := 0, slots := 0, locals := 24 } : Room).cells ({ frames := 2, cells := 0, slots := 0, locals := 24 } : Room).slots (Q17 Z a1 h0 n0) T1 (mkF m 4 #[.val (.ref a1)] [])
  exact g_ret0 X1 hx Bd.returns hlk (hb hby d17_4) (by decide) (by decide) ⟨rfl, N1, e1⟩
theorem d3_0 : decode jdk_69_method_7_code 0 = .ok (.aload_n 0, 1) := by decide +kernel
theorem d3_1 : decode jdk_69_method_7_code 1 = .ok (.invokespecial 43, 3) := by decide +kernel
theorem d3_4 : decode jdk_69_method_7_code 4 = .ok (.aload_n 0, 1) := by decide +kernel
theorem d3_5 : decode jdk_69_method_7_code 5 = .ok (.ldc 92, 2) := by decide +kernel
theorem d3_7 : decode jdk_69_method_7_code 7 = .ok (.putfield 81, 3) := by decide +kernel
theorem d3_10 : decode jdk_69_method_7_code 10 = .ok (.return_, 1) := by decide +kernel
def Q3 (Z : State) (a1 : Addr) (h0 : Heap) (n0 : Nat) (v : Option Value) (h : Heap) (L : List Loc) : Prop := v = none ∧ Fr n0 L ∧ Keep h0 h [a1] ∧ Exa Z h a1 "java/util/HashMap" ∧ Fld Z h a1 "java/util/AbstractMap" "values" "Ljava/util/Collection;" .null ∧ Fld Z h a1 "java/util/HashMap" "modCount" "I" (.int (0 : Int32)) ∧ Fld Z h a1 "java/util/HashMap" "table" "[Ljava/util/HashMap$Node;" .null
theorem pn_3 : plainName "java/util/HashMap" = true := by first | (simp [plainName, overriddenIn]; done) | decide +kernel
theorem ef_rm3 (m : MethodId) (a1 : Addr) : entryFrame m #[(.ref a1)] 1 = mkF m 0 #[.val (.ref a1)] [] := by first | (simp [entryFrame, mkF, argsToLocals, Value.category]; done) | rfl
set_option maxRecDepth 65536 in
set_option maxHeartbeats 40000000 in
theorem rm3 (l : Launch) (Z : State) (a0 : Array Value) (hw : ∀ d ∈ tables_1, d.before a0 Z = true) (ws : List Jvm.Cond) (a1 : Addr) (h0 : Heap) (n0 : Nat) (Z0 : n0 ≤ h0.size) (i0 : Exa Z h0 a1 "java/util/HashMap") (i1 : Fld Z h0 a1 "java/util/HashMap" "loadFactor" "F" (.float (0 : UInt32))) (i2 : Fld Z h0 a1 "java/util/AbstractMap" "values" "Ljava/util/Collection;" .null) (i3 : Fld Z h0 a1 "java/util/HashMap" "modCount" "I" (.int (0 : Int32))) (i4 : Fld Z h0 a1 "java/util/HashMap" "table" "[Ljava/util/HashMap$Node;" .null) (g_a1 : n0 ≤ a1) :
    MetFree l (⟨"java/util/HashMap", "<init>", "()V"⟩ : MethodName) (head1 (Jvm.Cond.code (⟨"java/util/HashMap", "<init>", "()V"⟩ : MethodName) jdk_69_method_7_code 1 none :: ws) ({ frames := 2, cells := 0, slots := 0, locals := 24 } : Room)) (fun a U => a = #[(.ref a1)] ∧ Z.Warmed39 U.vm ∧ U.heap = h0) (fun _ _ _ _ _ => True) (fun _ U o U' => ∃ v L, o = .returned v ∧ (Q3 Z a1 h0 n0) v U'.heap L ∧ FrameEnd U o U' L ({ frames := 2, cells := 0, slots := 0, locals := 24 } : Room).cells ({ frames := 2, cells := 0, slots := 0, locals := 24 } : Room).slots) := by
  refine MetFree.of_bodySF (plainFor_of_name pn_3) hisR ?_
  intro p e s m args below meth c s₁ Bd hml0 hP hK
  obtain ⟨rfl, hZ, hh⟩ := hP
  have hx := Bd.exec
  have hby := Bd.bytes
  have hml : c.maxLocals = 1 := hml0
  have hown : s.vm.findClass "java/util/HashMap" = some m.cls := findClass_of_methodNamed Bd.named
  have hnm := (name_of_methodNamed Bd.named Bd.method).1
  have hlk : meth.locks = false := BodyLoose.notSynchronized Bd
  have X0 : Stand p l e ({ frames := 2, cells := 0, slots := 0, locals := 24 } : Room) s m #[(.ref a1)] below meth c s₁ [] 0 0 := Stand.of_body Bd
  have e0 : s₁.heap = h0 := by rw [← hh, Bd.state]; rfl
  have N0 := Fr.nil n0
  have K0 := Keep.refl h0 [a1]
  show Go p e below s ({ frames := 2, cells := 0, slots := 0, locals := 24 } : Room).cells ({ frames := 2, cells := 0, slots := 0, locals := 24 } : Room).slots (Q3 Z a1 h0 n0) s₁ (entryFrame m #[(.ref a1)] 1)
  rw [ef_rm3 m a1]
  refine g_aloadN 1 X0 hx (hb hby d3_0) rfl (v := (.ref a1)) rfl rfl ?_
  refine g_callI 4 X0 hx hZ (y := (⟨"java/util/AbstractMap", "<init>", "()V"⟩ : MethodName)) rfl hown (hw _ (List.mem_of_getElem? (i := 15) rfl)) (hw _ (List.mem_of_getElem? (i := 16) rfl)) (hw _ (List.mem_of_getElem? (i := 19) rfl)) (hw _ (List.mem_of_getElem? (i := 20) rfl)) (by decide) e0 (rm4 l Z a0 hw [] a1  h0 n0 Z0 ) (by rw [hml]; rfl) a1 [] [] rfl rfl (lenOf pd_0 rfl) 0 (Nat.le_of_eq rfl) (hb hby d3_1) (by decide) (by decide) (by decide) (by decide) rfl ?_
  intro v1 T1 L1 X1 hQ1
  obtain ⟨rfl, N1q, e1⟩ := hQ1
  have N1 := Fr.app N0 N1q
  show Go p e below s ({ frames := 2, cells := 0, slots := 0, locals := 24 } : Room).cells ({ frames := 2, cells := 0, slots := 0, locals := 24 } : Room).slots (Q3 Z a1 h0 n0) T1 (mkF m 4 #[.val (.ref a1)] [])
  refine g_aloadN 5 X1 hx (hb hby d3_4) rfl (v := (.ref a1)) rfl rfl ?_
  refine g_ldcF 7 X1 hx hZ hown (hw _ (List.mem_of_getElem? (i := 22) rfl)) (hb hby d3_5) rfl ?_
  refine g_putF 10 X1 hx hZ hown (hw _ (List.mem_of_getElem? (i := 23) rfl)) Via.refl e1 i1 i0 (Or.inr ⟨(hw _ (List.mem_of_getElem? (i := 24) rfl)), rfl, hnm⟩) (hw _ (List.mem_of_getElem? (i := 10) rfl)) (ty := .float) (by decide) rfl rfl (hb hby d3_7) rfl ?_
  intro T2 h2 X2 e2 W2
  have f3 := i0.wr W2
  have f4 := i2.other W2 (Or.inr (slot_ne (Or.inl (hw _ (List.mem_of_getElem? (i := 80) rfl))) (Or.inr (hw _ (List.mem_of_getElem? (i := 24) rfl))) (by decide) (t := (.object "java/util/Collection")) (t' := .float) (by decide) (by decide)))
  have f5 := i3.other W2 (Or.inr (slot_ne (Or.inl (hw _ (List.mem_of_getElem? (i := 118) rfl))) (Or.inr (hw _ (List.mem_of_getElem? (i := 24) rfl))) (by decide) (t := .int) (t' := .float) (by decide) (by decide)))
  have f6 := i4.other W2 (Or.inr (slot_ne (Or.inl (hw _ (List.mem_of_getElem? (i := 122) rfl))) (Or.inr (hw _ (List.mem_of_getElem? (i := 24) rfl))) (by decide) (t := (.array (.object "java/util/HashMap$Node"))) (t' := .float) (by decide) (by decide)))
  have Zs7 : n0 ≤ h2.size := (Nat.le_trans Z0 (Keep.of_wr W2).1)
  have K8 : Keep h0 h2 [a1] := K0.wr W2 (Or.inl (List.mem_of_getElem? (i := 0) rfl))
  have f9 := i1.same W2
  have N10 := Fr.snoc X2 N1 g_a1
  exact g_ret0 X2 hx Bd.returns hlk (hb hby d3_10) (by decide) (by decide) (by
      show Q3 Z a1 h0 n0 _ T2.heap _
      rw [e2]
      exact ⟨rfl, N10, K8, f3, f4, f5, f6⟩)
theorem d8_0 : decode jdk_39_method_1_code 0 = .ok (.aload_n 0, 1) := by decide +kernel
theorem d8_1 : decode jdk_39_method_1_code 1 = .ok (.invokespecial 1, 3) := by decide +kernel
theorem d8_4 : decode jdk_39_method_1_code 4 = .ok (.aload_n 0, 1) := by decide +kernel
theorem d8_5 : decode jdk_39_method_1_code 5 = .ok (.iconst 0, 1) := by decide +kernel
theorem d8_6 : decode jdk_39_method_1_code 6 = .ok (.putfield 7, 3) := by decide +kernel
theorem d8_9 : decode jdk_39_method_1_code 9 = .ok (.return_, 1) := by decide +kernel
def Q8 (Z : State) (a1 : Addr) (h0 : Heap) (n0 : Nat) (v : Option Value) (h : Heap) (L : List Loc) : Prop := v = none ∧ Fr n0 L ∧ Keep h0 h [a1] ∧ Exa Z h a1 "java/util/ArrayList" ∧ Fld Z h a1 "java/util/ArrayList" "elementData" "[Ljava/lang/Object;" .null
theorem pn_4 : plainName "java/util/AbstractList" = true := by first | (simp [plainName, overriddenIn]; done) | decide +kernel
theorem ef_rm8 (m : MethodId) (a1 : Addr) : entryFrame m #[(.ref a1)] 1 = mkF m 0 #[.val (.ref a1)] [] := by first | (simp [entryFrame, mkF, argsToLocals, Value.category]; done) | rfl
set_option maxRecDepth 65536 in
set_option maxHeartbeats 40000000 in
theorem rm8 (l : Launch) (Z : State) (a0 : Array Value) (hw : ∀ d ∈ tables_1, d.before a0 Z = true) (ws : List Jvm.Cond) (a1 : Addr) (h0 : Heap) (n0 : Nat) (Z0 : n0 ≤ h0.size) (i0 : Exa Z h0 a1 "java/util/ArrayList") (i1 : Fld Z h0 a1 "java/util/AbstractList" "modCount" "I" (.int (0 : Int32))) (i2 : Fld Z h0 a1 "java/util/ArrayList" "elementData" "[Ljava/lang/Object;" .null) (g_a1 : n0 ≤ a1) :
    MetFree l (⟨"java/util/AbstractList", "<init>", "()V"⟩ : MethodName) (head1 (Jvm.Cond.code (⟨"java/util/AbstractList", "<init>", "()V"⟩ : MethodName) jdk_39_method_1_code 1 none :: ws) ({ frames := 2, cells := 0, slots := 0, locals := 24 } : Room)) (fun a U => a = #[(.ref a1)] ∧ Z.Warmed39 U.vm ∧ U.heap = h0) (fun _ _ _ _ _ => True) (fun _ U o U' => ∃ v L, o = .returned v ∧ (Q8 Z a1 h0 n0) v U'.heap L ∧ FrameEnd U o U' L ({ frames := 2, cells := 0, slots := 0, locals := 24 } : Room).cells ({ frames := 2, cells := 0, slots := 0, locals := 24 } : Room).slots) := by
  refine MetFree.of_bodySF (plainFor_of_name pn_4) hisR ?_
  intro p e s m args below meth c s₁ Bd hml0 hP hK
  obtain ⟨rfl, hZ, hh⟩ := hP
  have hx := Bd.exec
  have hby := Bd.bytes
  have hml : c.maxLocals = 1 := hml0
  have hown : s.vm.findClass "java/util/AbstractList" = some m.cls := findClass_of_methodNamed Bd.named
  have hnm := (name_of_methodNamed Bd.named Bd.method).1
  have hlk : meth.locks = false := BodyLoose.notSynchronized Bd
  have X0 : Stand p l e ({ frames := 2, cells := 0, slots := 0, locals := 24 } : Room) s m #[(.ref a1)] below meth c s₁ [] 0 0 := Stand.of_body Bd
  have e0 : s₁.heap = h0 := by rw [← hh, Bd.state]; rfl
  have N0 := Fr.nil n0
  have K0 := Keep.refl h0 [a1]
  show Go p e below s ({ frames := 2, cells := 0, slots := 0, locals := 24 } : Room).cells ({ frames := 2, cells := 0, slots := 0, locals := 24 } : Room).slots (Q8 Z a1 h0 n0) s₁ (entryFrame m #[(.ref a1)] 1)
  rw [ef_rm8 m a1]
  refine g_aloadN 1 X0 hx (hb hby d8_0) rfl (v := (.ref a1)) rfl rfl ?_
  refine g_callI 4 X0 hx hZ (y := (⟨"java/util/AbstractCollection", "<init>", "()V"⟩ : MethodName)) rfl hown (hw _ (List.mem_of_getElem? (i := 57) rfl)) (hw _ (List.mem_of_getElem? (i := 58) rfl)) (hw _ (List.mem_of_getElem? (i := 61) rfl)) (hw _ (List.mem_of_getElem? (i := 62) rfl)) (by decide) e0 (rm9 l Z a0 hw [] a1  h0 n0 Z0 ) (by rw [hml]; rfl) a1 [] [] rfl rfl (lenOf pd_0 rfl) 0 (Nat.le_of_eq rfl) (hb hby d8_1) (by decide) (by decide) (by decide) (by decide) rfl ?_
  intro v1 T1 L1 X1 hQ1
  obtain ⟨rfl, N1q, e1⟩ := hQ1
  have N1 := Fr.app N0 N1q
  show Go p e below s ({ frames := 2, cells := 0, slots := 0, locals := 24 } : Room).cells ({ frames := 2, cells := 0, slots := 0, locals := 24 } : Room).slots (Q8 Z a1 h0 n0) T1 (mkF m 4 #[.val (.ref a1)] [])
  refine g_aloadN 5 X1 hx (hb hby d8_4) rfl (v := (.ref a1)) rfl rfl ?_
  refine g_iconst 6 X1 hx (hb hby d8_5) rfl (z := (0 : Int32)) rfl ?_
  refine g_putF 9 X1 hx hZ hown (hw _ (List.mem_of_getElem? (i := 64) rfl)) Via.refl e1 i1 i0 (Or.inl (hw _ (List.mem_of_getElem? (i := 65) rfl))) (hw _ (List.mem_of_getElem? (i := 46) rfl)) (ty := .int) (by decide) rfl rfl (hb hby d8_6) rfl ?_
  intro T2 h2 X2 e2 W2
  have f3 := i0.wr W2
  have f4 := i2.other W2 (Or.inr (slot_ne (Or.inl (hw _ (List.mem_of_getElem? (i := 68) rfl))) (Or.inl (hw _ (List.mem_of_getElem? (i := 65) rfl))) (by decide) (t := (.array (.object "java/lang/Object"))) (t' := .int) (by decide) (by decide)))
  have Zs5 : n0 ≤ h2.size := (Nat.le_trans Z0 (Keep.of_wr W2).1)
  have K6 : Keep h0 h2 [a1] := K0.wr W2 (Or.inl (List.mem_of_getElem? (i := 0) rfl))
  have f7 := i1.same W2
  have N8 := Fr.snoc X2 N1 g_a1
  exact g_ret0 X2 hx Bd.returns hlk (hb hby d8_9) (by decide) (by decide) (by
      show Q8 Z a1 h0 n0 _ T2.heap _
      rw [e2]
      exact ⟨rfl, N8, K6, f3, f4⟩)
theorem d7_0 : decode jdk_38_method_2_code 0 = .ok (.aload_n 0, 1) := by decide +kernel
theorem d7_1 : decode jdk_38_method_2_code 1 = .ok (.invokespecial 1, 3) := by decide +kernel
theorem d7_4 : decode jdk_38_method_2_code 4 = .ok (.aload_n 0, 1) := by decide +kernel
theorem d7_5 : decode jdk_38_method_2_code 5 = .ok (.getstatic 39, 3) := by decide +kernel
theorem d7_8 : decode jdk_38_method_2_code 8 = .ok (.putfield 9, 3) := by decide +kernel
theorem d7_11 : decode jdk_38_method_2_code 11 = .ok (.return_, 1) := by decide +kernel
def Q7 (Z : State) (a1 : Addr) (sd : Addr) (h0 : Heap) (n0 : Nat) (v : Option Value) (h : Heap) (L : List Loc) : Prop := v = none ∧ Fr n0 L ∧ Keep h0 h [a1] ∧ Exa Z h a1 "java/util/ArrayList"
theorem pn_5 : plainName "java/util/ArrayList" = true := by first | (simp [plainName, overriddenIn]; done) | decide +kernel
theorem ef_rm7 (m : MethodId) (a1 : Addr) : entryFrame m #[(.ref a1)] 1 = mkF m 0 #[.val (.ref a1)] [] := by first | (simp [entryFrame, mkF, argsToLocals, Value.category]; done) | rfl
set_option maxRecDepth 65536 in
set_option maxHeartbeats 40000000 in
theorem rm7 (l : Launch) (Z : State) (a0 : Array Value) (hw : ∀ d ∈ tables_1, d.before a0 Z = true) (ws : List Jvm.Cond) (a1 : Addr) (sd : Addr) (h0 : Heap) (n0 : Nat) (Z0 : n0 ≤ h0.size) (i0 : Exa Z h0 a1 "java/util/ArrayList") (i1 : Fld Z h0 a1 "java/util/AbstractList" "modCount" "I" (.int (0 : Int32))) (i2 : Fld Z h0 a1 "java/util/ArrayList" "elementData" "[Ljava/lang/Object;" .null) (i3 : Sta Z h0 "java/util/ArrayList" "DEFAULTCAPACITY_EMPTY_ELEMENTDATA" "[Ljava/lang/Object;" (.ref sd)) (g_a1 : n0 ≤ a1) :
    MetFree l (⟨"java/util/ArrayList", "<init>", "()V"⟩ : MethodName) (head1 (Jvm.Cond.code (⟨"java/util/ArrayList", "<init>", "()V"⟩ : MethodName) jdk_38_method_2_code 1 none :: ws) ({ frames := 3, cells := 0, slots := 0, locals := 36 } : Room)) (fun a U => a = #[(.ref a1)] ∧ Z.Warmed39 U.vm ∧ U.heap = h0) (fun _ _ _ _ _ => True) (fun _ U o U' => ∃ v L, o = .returned v ∧ (Q7 Z a1 sd h0 n0) v U'.heap L ∧ FrameEnd U o U' L ({ frames := 3, cells := 0, slots := 0, locals := 36 } : Room).cells ({ frames := 3, cells := 0, slots := 0, locals := 36 } : Room).slots) := by
  refine MetFree.of_bodySF (plainFor_of_name pn_5) hisR ?_
  intro p e s m args below meth c s₁ Bd hml0 hP hK
  obtain ⟨rfl, hZ, hh⟩ := hP
  have hx := Bd.exec
  have hby := Bd.bytes
  have hml : c.maxLocals = 1 := hml0
  have hown : s.vm.findClass "java/util/ArrayList" = some m.cls := findClass_of_methodNamed Bd.named
  have hnm := (name_of_methodNamed Bd.named Bd.method).1
  have hlk : meth.locks = false := BodyLoose.notSynchronized Bd
  have X0 : Stand p l e ({ frames := 3, cells := 0, slots := 0, locals := 36 } : Room) s m #[(.ref a1)] below meth c s₁ [] 0 0 := Stand.of_body Bd
  have e0 : s₁.heap = h0 := by rw [← hh, Bd.state]; rfl
  have N0 := Fr.nil n0
  have K0 := Keep.refl h0 [a1]
  show Go p e below s ({ frames := 3, cells := 0, slots := 0, locals := 36 } : Room).cells ({ frames := 3, cells := 0, slots := 0, locals := 36 } : Room).slots (Q7 Z a1 sd h0 n0) s₁ (entryFrame m #[(.ref a1)] 1)
  rw [ef_rm7 m a1]
  refine g_aloadN 1 X0 hx (hb hby d7_0) rfl (v := (.ref a1)) rfl rfl ?_
  refine g_callI 4 X0 hx hZ (y := (⟨"java/util/AbstractList", "<init>", "()V"⟩ : MethodName)) rfl hown (hw _ (List.mem_of_getElem? (i := 51) rfl)) (hw _ (List.mem_of_getElem? (i := 52) rfl)) (hw _ (List.mem_of_getElem? (i := 55) rfl)) (hw _ (List.mem_of_getElem? (i := 56) rfl)) (by decide) e0 (rm8 l Z a0 hw [] a1  h0 n0 Z0 i0 i1 i2 g_a1) (by rw [hml]; rfl) a1 [] [] rfl rfl (lenOf pd_0 rfl) 0 (Nat.le_of_eq rfl) (hb hby d7_1) (by decide) (by decide) (by decide) (by decide) rfl ?_
  intro v1 T1 L1 X1 hQ1
  obtain ⟨rfl, N1q, K1, f1_0, f1_1⟩ := hQ1
  have N1 := Fr.app N0 N1q
  have f2 := i0.keep K1
  have f3 := own_staKeep i3 K1 (allS ⟨_, i0⟩ all0)
  have Zs4 : n0 ≤ T1.heap.size := (Nat.le_trans Z0 K1.1)
  have K5 : Keep h0 T1.heap [a1] := K0.trans K1 (allS (Or.inl (List.mem_of_getElem? (i := 0) rfl)) all0)
  show Go p e below s ({ frames := 3, cells := 0, slots := 0, locals := 36 } : Room).cells ({ frames := 3, cells := 0, slots := 0, locals := 36 } : Room).slots (Q7 Z a1 sd h0 n0) T1 (mkF m 4 #[.val (.ref a1)] [])
  refine g_aloadN 5 X1 hx (hb hby d7_4) rfl (v := (.ref a1)) rfl rfl ?_
  refine g_getS 8 X1 hx hZ hown (hw _ (List.mem_of_getElem? (i := 66) rfl)) Via.refl rfl f3 (hb hby d7_5) rfl ?_
  intro T6 X6 e6
  refine g_putF 11 X6 hx hZ hown (hw _ (List.mem_of_getElem? (i := 67) rfl)) Via.refl e6 f1_1 f1_0 (Or.inl (hw _ (List.mem_of_getElem? (i := 68) rfl))) (hw _ (List.mem_of_getElem? (i := 46) rfl)) (ty := (.array (.object "java/lang/Object"))) (by decide) rfl rfl (hb hby d7_8) rfl ?_
  intro T7 h7 X7 e7 W7
  have f8 := f1_0.wr W7
  have f9 := f3.wr W7
  have Zs10 : n0 ≤ h7.size := (Nat.le_trans Zs4 (Keep.of_wr W7).1)
  have K11 : Keep h0 h7 [a1] := K5.wr W7 (Or.inl (List.mem_of_getElem? (i := 0) rfl))
  have f12 := f1_1.same W7
  have N13 := Fr.snoc X7 N1 g_a1
  exact g_ret0 X7 hx Bd.returns hlk (hb hby d7_11) (by decide) (by decide) (by
      show Q7 Z a1 sd h0 n0 _ T7.heap _
      rw [e7]
      exact ⟨rfl, N13, K11, f8⟩)
theorem d16_0 : decode jdk_93_method_1_code 0 = .ok (.aload_n 0, 1) := by decide +kernel
theorem d16_1 : decode jdk_93_method_1_code 1 = .ok (.invokespecial 1, 3) := by decide +kernel
theorem d16_4 : decode jdk_93_method_1_code 4 = .ok (.aload_n 0, 1) := by decide +kernel
theorem d16_5 : decode jdk_93_method_1_code 5 = .ok (.new 7, 3) := by decide +kernel
theorem d16_8 : decode jdk_93_method_1_code 8 = .ok (.dup, 1) := by decide +kernel
theorem d16_9 : decode jdk_93_method_1_code 9 = .ok (.invokespecial 9, 3) := by decide +kernel
theorem d16_12 : decode jdk_93_method_1_code 12 = .ok (.putfield 10, 3) := by decide +kernel
theorem d16_15 : decode jdk_93_method_1_code 15 = .ok (.return_, 1) := by decide +kernel
def Q16 (Z : State) (a1 : Addr) (h0 : Heap) (n0 : Nat) (v : Option Value) (h : Heap) (L : List Loc) : Prop := v = none ∧ Fr n0 L ∧ Keep h0 h [a1] ∧ Exa Z h a1 "java/util/HashSet"
theorem pn_6 : plainName "java/util/HashSet" = true := by first | (simp [plainName, overriddenIn]; done) | decide +kernel
theorem ef_rm16 (m : MethodId) (a1 : Addr) : entryFrame m #[(.ref a1)] 1 = mkF m 0 #[.val (.ref a1)] [] := by first | (simp [entryFrame, mkF, argsToLocals, Value.category]; done) | rfl
set_option maxRecDepth 65536 in
set_option maxHeartbeats 40000000 in
theorem rm16 (l : Launch) (Z : State) (a0 : Array Value) (hw : ∀ d ∈ tables_1, d.before a0 Z = true) (ws : List Jvm.Cond) (a1 : Addr) (h0 : Heap) (n0 : Nat) (Z0 : n0 ≤ h0.size) (i0 : Exa Z h0 a1 "java/util/HashSet") (i1 : Fld Z h0 a1 "java/util/HashSet" "map" "Ljava/util/HashMap;" .null) (g_a1 : n0 ≤ a1) :
    MetFree l (⟨"java/util/HashSet", "<init>", "()V"⟩ : MethodName) (head1 (Jvm.Cond.code (⟨"java/util/HashSet", "<init>", "()V"⟩ : MethodName) jdk_93_method_1_code 1 none :: ws) ({ frames := 3, cells := 1, slots := 8, locals := 38 } : Room)) (fun a U => a = #[(.ref a1)] ∧ Z.Warmed39 U.vm ∧ U.heap = h0) (fun _ _ _ _ _ => True) (fun _ U o U' => ∃ v L, o = .returned v ∧ (Q16 Z a1 h0 n0) v U'.heap L ∧ FrameEnd U o U' L ({ frames := 3, cells := 1, slots := 8, locals := 38 } : Room).cells ({ frames := 3, cells := 1, slots := 8, locals := 38 } : Room).slots) := by
  refine MetFree.of_bodySF (plainFor_of_name pn_6) hisR ?_
  intro p e s m args below meth c s₁ Bd hml0 hP hK
  obtain ⟨rfl, hZ, hh⟩ := hP
  have hx := Bd.exec
  have hby := Bd.bytes
  have hml : c.maxLocals = 1 := hml0
  have hown : s.vm.findClass "java/util/HashSet" = some m.cls := findClass_of_methodNamed Bd.named
  have hnm := (name_of_methodNamed Bd.named Bd.method).1
  have hlk : meth.locks = false := BodyLoose.notSynchronized Bd
  have X0 : Stand p l e ({ frames := 3, cells := 1, slots := 8, locals := 38 } : Room) s m #[(.ref a1)] below meth c s₁ [] 0 0 := Stand.of_body Bd
  have e0 : s₁.heap = h0 := by rw [← hh, Bd.state]; rfl
  have N0 := Fr.nil n0
  have K0 := Keep.refl h0 [a1]
  show Go p e below s ({ frames := 3, cells := 1, slots := 8, locals := 38 } : Room).cells ({ frames := 3, cells := 1, slots := 8, locals := 38 } : Room).slots (Q16 Z a1 h0 n0) s₁ (entryFrame m #[(.ref a1)] 1)
  rw [ef_rm16 m a1]
  refine g_aloadN 1 X0 hx (hb hby d16_0) rfl (v := (.ref a1)) rfl rfl ?_
  refine g_callI 4 X0 hx hZ (y := (⟨"java/util/AbstractSet", "<init>", "()V"⟩ : MethodName)) rfl hown (hw _ (List.mem_of_getElem? (i := 144) rfl)) (hw _ (List.mem_of_getElem? (i := 145) rfl)) (hw _ (List.mem_of_getElem? (i := 148) rfl)) (hw _ (List.mem_of_getElem? (i := 149) rfl)) (by decide) e0 (rm17 l Z a0 hw [] a1  h0 n0 Z0 ) (by rw [hml]; rfl) a1 [] [] rfl rfl (lenOf pd_0 rfl) 0 (Nat.le_of_eq rfl) (hb hby d16_1) (by decide) (by decide) (by decide) (by decide) rfl ?_
  intro v1 T1 L1 X1 hQ1
  obtain ⟨rfl, N1q, e1⟩ := hQ1
  have N1 := Fr.app N0 N1q
  show Go p e below s ({ frames := 3, cells := 1, slots := 8, locals := 38 } : Room).cells ({ frames := 3, cells := 1, slots := 8, locals := 38 } : Room).slots (Q16 Z a1 h0 n0) T1 (mkF m 4 #[.val (.ref a1)] [])
  refine g_aloadN 5 X1 hx (hb hby d16_4) rfl (v := (.ref a1)) rfl rfl ?_
  refine g_newO 8 X1 hx hZ hown (hw _ (List.mem_of_getElem? (i := 152) rfl)) (hw _ (List.mem_of_getElem? (i := 10) rfl)) (hw _ (List.mem_of_getElem? (i := 11) rfl)) e1 (hb hby d16_5) (by decide) (by decide) rfl ?_
  intro T2 h2 b2 X2 e2 E2 g2 A2 D2
  have f3 := i0.ext E2
  have f4 := i1.ext E2
  have Zs5 : n0 ≤ h2.size := (Nat.le_trans Z0 E2.1)
  have K6 : Keep h0 h2 [a1] := K0.ext E2
  have g_b2 : n0 ≤ b2 := Nat.le_trans Z0 (Nat.le_of_eq g2.symm)
  have sz_b2 : h0.size ≤ b2 := Nat.le_trans K0.1 (Nat.le_of_eq g2.symm)
  have f7 : Fld Z h2 b2 "java/util/HashMap" "loadFactor" "F" (.float (0 : UInt32)) := D2 (Or.inr (hw _ (List.mem_of_getElem? (i := 24) rfl))) (ty := .float) (by decide)
  have f8 : Fld Z h2 b2 "java/util/AbstractMap" "values" "Ljava/util/Collection;" .null := D2 (Or.inl (hw _ (List.mem_of_getElem? (i := 80) rfl))) (ty := (.object "java/util/Collection")) (by decide)
  have f9 : Fld Z h2 b2 "java/util/HashMap" "modCount" "I" (.int (0 : Int32)) := D2 (Or.inl (hw _ (List.mem_of_getElem? (i := 118) rfl))) (ty := .int) (by decide)
  have f10 : Fld Z h2 b2 "java/util/HashMap" "table" "[Ljava/util/HashMap$Node;" .null := D2 (Or.inl (hw _ (List.mem_of_getElem? (i := 122) rfl))) (ty := (.array (.object "java/util/HashMap$Node"))) (by decide)
  refine g_dup 9 X2 hx (hb hby d16_8) rfl rfl ?_
  refine g_callI 12 X2 hx hZ (y := (⟨"java/util/HashMap", "<init>", "()V"⟩ : MethodName)) rfl hown (hw _ (List.mem_of_getElem? (i := 153) rfl)) (hw _ (List.mem_of_getElem? (i := 13) rfl)) (hw _ (List.mem_of_getElem? (i := 11) rfl)) (hw _ (List.mem_of_getElem? (i := 14) rfl)) (by decide) e2 (rm3 l Z a0 hw [] b2  h2 n0 Zs5 A2 f7 f8 f9 f10 g_b2) (by rw [hml]; rfl) b2 [] [(.ref b2), (.ref a1)] rfl rfl (lenOf pd_0 rfl) 2 (Nat.le_of_eq rfl) (hb hby d16_9) (by decide) (by decide) (by decide) (by decide) rfl ?_
  intro v11 T11 L11 X11 hQ11
  obtain ⟨rfl, N11q, K11, f11_0, f11_1, f11_2, f11_3⟩ := hQ11
  have N11 := Fr.app N1 N11q
  have f12 := f3.keep K11
  have f13 := f4.keep K11 (ninS (Nat.ne_of_lt (Nat.lt_of_lt_of_le i1.lt (Nat.le_of_eq g2.symm))) nin0)
  have f14 := A2.keep K11
  have Zs15 : n0 ≤ T11.heap.size := (Nat.le_trans Zs5 K11.1)
  have K16 : Keep h0 T11.heap [a1] := K6.trans K11 (allS (Or.inr sz_b2) all0)
  show Go p e below s ({ frames := 3, cells := 1, slots := 8, locals := 38 } : Room).cells ({ frames := 3, cells := 1, slots := 8, locals := 38 } : Room).slots (Q16 Z a1 h0 n0) T11 (mkF m 12 #[.val (.ref a1)] [(.ref b2), (.ref a1)])
  refine g_putF 15 X11 hx hZ hown (hw _ (List.mem_of_getElem? (i := 155) rfl)) Via.refl rfl f13 f12 (Or.inl (hw _ (List.mem_of_getElem? (i := 156) rfl))) (hw _ (List.mem_of_getElem? (i := 139) rfl)) (ty := (.object "java/util/HashMap")) (by decide) rfl rfl (hb hby d16_12) rfl ?_
  intro T17 h17 X17 e17 W17
  have f18 := f12.wr W17
  have f19 := f11_0.wr W17
  have f20 := f11_1.other W17 (Or.inl (Ne.symm (Nat.ne_of_lt (Nat.lt_of_lt_of_le i1.lt (Nat.le_of_eq g2.symm)))))
  have f21 := f11_2.other W17 (Or.inl (Ne.symm (Nat.ne_of_lt (Nat.lt_of_lt_of_le i1.lt (Nat.le_of_eq g2.symm)))))
  have f22 := f11_3.other W17 (Or.inl (Ne.symm (Nat.ne_of_lt (Nat.lt_of_lt_of_le i1.lt (Nat.le_of_eq g2.symm)))))
  have Zs23 : n0 ≤ h17.size := (Nat.le_trans Zs15 (Keep.of_wr W17).1)
  have K24 : Keep h0 h17 [a1] := K16.wr W17 (Or.inl (List.mem_of_getElem? (i := 0) rfl))
  have f25 := f13.same W17
  have N26 := Fr.snoc X17 N11 g_a1
  exact g_ret0 X17 hx Bd.returns hlk (hb hby d16_15) (by decide) (by decide) (by
      show Q16 Z a1 h0 n0 _ T17.heap _
      rw [e17]
      exact ⟨rfl, N26, K24, f18⟩)
theorem d1_0 : decode prog_11_method_1_code 0 = .ok (.aload_n 0, 1) := by decide +kernel
theorem d1_1 : decode prog_11_method_1_code 1 = .ok (.invokespecial 1, 3) := by decide +kernel
theorem d1_4 : decode prog_11_method_1_code 4 = .ok (.aload_n 0, 1) := by decide +kernel
theorem d1_5 : decode prog_11_method_1_code 5 = .ok (.new 7, 3) := by decide +kernel
theorem d1_8 : decode prog_11_method_1_code 8 = .ok (.dup, 1) := by decide +kernel
theorem d1_9 : decode prog_11_method_1_code 9 = .ok (.invokespecial 9, 3) := by decide +kernel
theorem d1_12 : decode prog_11_method_1_code 12 = .ok (.putfield 10, 3) := by decide +kernel
theorem d1_15 : decode prog_11_method_1_code 15 = .ok (.aload_n 0, 1) := by decide +kernel
theorem d1_16 : decode prog_11_method_1_code 16 = .ok (.new 7, 3) := by decide +kernel
theorem d1_19 : decode prog_11_method_1_code 19 = .ok (.dup, 1) := by decide +kernel
theorem d1_20 : decode prog_11_method_1_code 20 = .ok (.invokespecial 9, 3) := by decide +kernel
theorem d1_23 : decode prog_11_method_1_code 23 = .ok (.putfield 16, 3) := by decide +kernel
theorem d1_26 : decode prog_11_method_1_code 26 = .ok (.aload_n 0, 1) := by decide +kernel
theorem d1_27 : decode prog_11_method_1_code 27 = .ok (.new 7, 3) := by decide +kernel
theorem d1_30 : decode prog_11_method_1_code 30 = .ok (.dup, 1) := by decide +kernel
theorem d1_31 : decode prog_11_method_1_code 31 = .ok (.invokespecial 9, 3) := by decide +kernel
theorem d1_34 : decode prog_11_method_1_code 34 = .ok (.putfield 19, 3) := by decide +kernel
theorem d1_37 : decode prog_11_method_1_code 37 = .ok (.aload_n 0, 1) := by decide +kernel
theorem d1_38 : decode prog_11_method_1_code 38 = .ok (.lload_n 1, 1) := by decide +kernel
theorem d1_39 : decode prog_11_method_1_code 39 = .ok (.putfield 22, 3) := by decide +kernel
theorem d1_42 : decode prog_11_method_1_code 42 = .ok (.aload_n 0, 1) := by decide +kernel
theorem d1_43 : decode prog_11_method_1_code 43 = .ok (.iload_n 3, 1) := by decide +kernel
theorem d1_44 : decode prog_11_method_1_code 44 = .ok (.ifCond .eq 13, 3) := by decide +kernel
theorem d1_47 : decode prog_11_method_1_code 47 = .ok (.new 26, 3) := by decide +kernel
theorem d1_50 : decode prog_11_method_1_code 50 = .ok (.dup, 1) := by decide +kernel
theorem d1_51 : decode prog_11_method_1_code 51 = .ok (.invokespecial 28, 3) := by decide +kernel
theorem d1_54 : decode prog_11_method_1_code 54 = .ok (.goto 4, 3) := by decide +kernel
theorem d1_57 : decode prog_11_method_1_code 57 = .ok (.aconst_null, 1) := by decide +kernel
theorem d1_58 : decode prog_11_method_1_code 58 = .ok (.putfield 29, 3) := by decide +kernel
theorem d1_61 : decode prog_11_method_1_code 61 = .ok (.return_, 1) := by decide +kernel
def Q1n (Z : State) (a1 : Addr) (q2 : Int64) (h0 : Heap) (n0 : Nat) (v : Option Value) (h : Heap) (L : List Loc) : Prop := ∃ (y0 : Addr), v = none ∧ Fr n0 L ∧ Keep h0 h [a1] ∧ n0 ≤ y0 ∧ h0.size ≤ y0 ∧ Exa Z h a1 "com/example/koord/koord/LockTable" ∧ Fld Z h a1 "com/example/koord/koord/LockTable" "accounted" "Ljava/util/Set;" .null ∧ Fld Z h a1 "com/example/koord/koord/LockTable" "locks" "Ljava/util/Map;" (.ref y0) ∧ Exa Z h y0 "java/util/HashMap" ∧ Fld Z h y0 "java/util/AbstractMap" "values" "Ljava/util/Collection;" .null ∧ Fld Z h y0 "java/util/HashMap" "modCount" "I" (.int (0 : Int32)) ∧ Fld Z h y0 "java/util/HashMap" "table" "[Ljava/util/HashMap$Node;" .null
theorem pn_7 : plainName "com/example/koord/koord/LockTable" = true := by first | (simp [plainName, overriddenIn]; done) | decide +kernel
theorem ef_rm1n (m : MethodId) (a1 : Addr) (q2 : Int64) : entryFrame m #[(.ref a1), (.long q2), (.int (0 : Int32))] 4 = mkF m 0 #[.val (.ref a1), .val (.long q2), .second, .val (.int (0 : Int32))] [] := by first | (simp [entryFrame, mkF, argsToLocals, Value.category]; done) | rfl
set_option maxRecDepth 65536 in
set_option maxHeartbeats 40000000 in
theorem rm1n (l : Launch) (Z : State) (a0 : Array Value) (hw : ∀ d ∈ tables_1, d.before a0 Z = true) (ws : List Jvm.Cond) (a1 : Addr) (q2 : Int64) (h0 : Heap) (n0 : Nat) (Z0 : n0 ≤ h0.size) (i0 : Exa Z h0 a1 "com/example/koord/koord/LockTable") (i1 : Fld Z h0 a1 "com/example/koord/koord/LockTable" "locks" "Ljava/util/Map;" .null) (i2 : Fld Z h0 a1 "com/example/koord/koord/LockTable" "requestsByOwner" "Ljava/util/Map;" .null) (i3 : Fld Z h0 a1 "com/example/koord/koord/LockTable" "holdsByOwner" "Ljava/util/Map;" .null) (i4 : Fld Z h0 a1 "com/example/koord/koord/LockTable" "lastToken" "J" (.long (0 : Int64))) (i5 : Fld Z h0 a1 "com/example/koord/koord/LockTable" "accounted" "Ljava/util/Set;" .null) (g_a1 : n0 ≤ a1) :
    MetFree l (⟨"com/example/koord/koord/LockTable", "<init>", "(JZ)V"⟩ : MethodName) (head1 (Jvm.Cond.code (⟨"com/example/koord/koord/LockTable", "<init>", "(JZ)V"⟩ : MethodName) prog_11_method_1_code 4 none :: ws) ({ frames := 3, cells := 3, slots := 24, locals := 38 } : Room)) (fun a U => a = #[(.ref a1), (.long q2), (.int (0 : Int32))] ∧ Z.Warmed39 U.vm ∧ U.heap = h0) (fun _ _ _ _ _ => True) (fun _ U o U' => ∃ v L, o = .returned v ∧ (Q1n Z a1 q2 h0 n0) v U'.heap L ∧ FrameEnd U o U' L ({ frames := 3, cells := 3, slots := 24, locals := 38 } : Room).cells ({ frames := 3, cells := 3, slots := 24, locals := 38 } : Room).slots) := by
  refine MetFree.of_bodySF (plainFor_of_name pn_7) hisR ?_
  intro p e s m args below meth c s₁ Bd hml0 hP hK
  obtain ⟨rfl, hZ, hh⟩ := hP
  have hx := Bd.exec
  have hby := Bd.bytes
  have hml : c.maxLocals = 4 := hml0
  have hown : s.vm.findClass "com/example/koord/koord/LockTable" = some m.cls := findClass_of_methodNamed Bd.named
  have hnm := (name_of_methodNamed Bd.named Bd.method).1
  have hlk : meth.locks = false := BodyLoose.notSynchronized Bd
  have X0 : Stand p l e ({ frames := 3, cells := 3, slots := 24, locals := 38 } : Room) s m #[(.ref a1), (.long q2), (.int (0 : Int32))] below meth c s₁ [] 0 0 := Stand.of_body Bd
  have e0 : s₁.heap = h0 := by rw [← hh, Bd.state]; rfl
  have N0 := Fr.nil n0
  have K0 := Keep.refl h0 [a1]
  show Go p e below s ({ frames := 3, cells := 3, slots := 24, locals := 38 } : Room).cells ({ frames := 3, cells := 3, slots := 24, locals := 38 } : Room).slots (Q1n Z a1 q2 h0 n0) s₁ (entryFrame m #[(.ref a1), (.long q2), (.int (0 : Int32))] 4)
  rw [ef_rm1n m a1 q2]
  refine g_aloadN 1 X0 hx (hb hby d1_0) rfl (v := (.ref a1)) rfl rfl ?_
  refine g_initO 4 X0 hx hZ hown (hw _ (List.mem_of_getElem? (i := 6) rfl)) (hw _ (List.mem_of_getElem? (i := 7) rfl)) (hw _ (List.mem_of_getElem? (i := 8) rfl)) e0 (by rw [hml]; rfl) (hb hby d1_1) (by decide) 0 (Nat.le_of_eq rfl) (by decide) rfl ?_
  intro T1 X1 e1
  refine g_aloadN 5 X1 hx (hb hby d1_4) rfl (v := (.ref a1)) rfl rfl ?_
  refine g_newO 8 X1 hx hZ hown (hw _ (List.mem_of_getElem? (i := 9) rfl)) (hw _ (List.mem_of_getElem? (i := 10) rfl)) (hw _ (List.mem_of_getElem? (i := 11) rfl)) e1 (hb hby d1_5) (by decide) (by decide) rfl ?_
  intro T2 h2 b2 X2 e2 E2 g2 A2 D2
  have f3 := i0.ext E2
  have f4 := i1.ext E2
  have f5 := i2.ext E2
  have f6 := i3.ext E2
  have f7 := i4.ext E2
  have f8 := i5.ext E2
  have Zs9 : n0 ≤ h2.size := (Nat.le_trans Z0 E2.1)
  have K10 : Keep h0 h2 [a1] := K0.ext E2
  have g_b2 : n0 ≤ b2 := Nat.le_trans Z0 (Nat.le_of_eq g2.symm)
  have sz_b2 : h0.size ≤ b2 := Nat.le_trans K0.1 (Nat.le_of_eq g2.symm)
  have f11 : Fld Z h2 b2 "java/util/HashMap" "loadFactor" "F" (.float (0 : UInt32)) := D2 (Or.inr (hw _ (List.mem_of_getElem? (i := 24) rfl))) (ty := .float) (by decide)
  have f12 : Fld Z h2 b2 "java/util/AbstractMap" "values" "Ljava/util/Collection;" .null := D2 (Or.inl (hw _ (List.mem_of_getElem? (i := 80) rfl))) (ty := (.object "java/util/Collection")) (by decide)
  have f13 : Fld Z h2 b2 "java/util/HashMap" "modCount" "I" (.int (0 : Int32)) := D2 (Or.inl (hw _ (List.mem_of_getElem? (i := 118) rfl))) (ty := .int) (by decide)
  have f14 : Fld Z h2 b2 "java/util/HashMap" "table" "[Ljava/util/HashMap$Node;" .null := D2 (Or.inl (hw _ (List.mem_of_getElem? (i := 122) rfl))) (ty := (.array (.object "java/util/HashMap$Node"))) (by decide)
  refine g_dup 9 X2 hx (hb hby d1_8) rfl rfl ?_
  refine g_callI 12 X2 hx hZ (y := (⟨"java/util/HashMap", "<init>", "()V"⟩ : MethodName)) rfl hown (hw _ (List.mem_of_getElem? (i := 12) rfl)) (hw _ (List.mem_of_getElem? (i := 13) rfl)) (hw _ (List.mem_of_getElem? (i := 11) rfl)) (hw _ (List.mem_of_getElem? (i := 14) rfl)) (by decide) e2 (rm3 l Z a0 hw [] b2  h2 n0 Zs9 A2 f11 f12 f13 f14 g_b2) (by rw [hml]; rfl) b2 [] [(.ref b2), (.ref a1)] rfl rfl (lenOf pd_0 rfl) 2 (Nat.le_of_eq rfl) (hb hby d1_9) (by decide) (by decide) (by decide) (by decide) rfl ?_
  intro v15 T15 L15 X15 hQ15
  obtain ⟨rfl, N15q, K15, f15_0, f15_1, f15_2, f15_3⟩ := hQ15
  have N15 := Fr.app N0 N15q
  have f16 := f3.keep K15
  have f17 := f4.keep K15 (ninS (Nat.ne_of_lt (Nat.lt_of_lt_of_le i5.lt (Nat.le_of_eq g2.symm))) nin0)
  have f18 := f5.keep K15 (ninS (Nat.ne_of_lt (Nat.lt_of_lt_of_le i5.lt (Nat.le_of_eq g2.symm))) nin0)
  have f19 := f6.keep K15 (ninS (Nat.ne_of_lt (Nat.lt_of_lt_of_le i5.lt (Nat.le_of_eq g2.symm))) nin0)
  have f20 := f7.keep K15 (ninS (Nat.ne_of_lt (Nat.lt_of_lt_of_le i5.lt (Nat.le_of_eq g2.symm))) nin0)
  have f21 := f8.keep K15 (ninS (Nat.ne_of_lt (Nat.lt_of_lt_of_le i5.lt (Nat.le_of_eq g2.symm))) nin0)
  have f22 := A2.keep K15
  have Zs23 : n0 ≤ T15.heap.size := (Nat.le_trans Zs9 K15.1)
  have K24 : Keep h0 T15.heap [a1] := K10.trans K15 (allS (Or.inr sz_b2) all0)
  show Go p e below s ({ frames := 3, cells := 3, slots := 24, locals := 38 } : Room).cells ({ frames := 3, cells := 3, slots := 24, locals := 38 } : Room).slots (Q1n Z a1 q2 h0 n0) T15 (mkF m 12 #[.val (.ref a1), .val (.long q2), .second, .val (.int (0 : Int32))] [(.ref b2), (.ref a1)])
  refine g_putF 15 X15 hx hZ hown (hw _ (List.mem_of_getElem? (i := 25) rfl)) Via.refl rfl f17 f16 (Or.inr ⟨(hw _ (List.mem_of_getElem? (i := 26) rfl)), rfl, hnm⟩) (hw _ (List.mem_of_getElem? (i := 1) rfl)) (ty := (.object "java/util/Map")) (by decide) rfl rfl (hb hby d1_12) rfl ?_
  intro T25 h25 X25 e25 W25
  have f26 := f16.wr W25
  have f27 := f18.other W25 (Or.inr (slot_ne (Or.inr (hw _ (List.mem_of_getElem? (i := 28) rfl))) (Or.inr (hw _ (List.mem_of_getElem? (i := 26) rfl))) (by decide) (t := (.object "java/util/Map")) (t' := (.object "java/util/Map")) (by decide) (by decide)))
  have f28 := f19.other W25 (Or.inr (slot_ne (Or.inr (hw _ (List.mem_of_getElem? (i := 30) rfl))) (Or.inr (hw _ (List.mem_of_getElem? (i := 26) rfl))) (by decide) (t := (.object "java/util/Map")) (t' := (.object "java/util/Map")) (by decide) (by decide)))
  have f29 := f20.other W25 (Or.inr (slot_ne (Or.inl (hw _ (List.mem_of_getElem? (i := 32) rfl))) (Or.inr (hw _ (List.mem_of_getElem? (i := 26) rfl))) (by decide) (t := .long) (t' := (.object "java/util/Map")) (by decide) (by decide)))
  have f30 := f21.other W25 (Or.inr (slot_ne (Or.inl (hw _ (List.mem_of_getElem? (i := 34) rfl))) (Or.inr (hw _ (List.mem_of_getElem? (i := 26) rfl))) (by decide) (t := (.object "java/util/Set")) (t' := (.object "java/util/Map")) (by decide) (by decide)))
  have f31 := f15_0.wr W25
  have f32 := f15_1.other W25 (Or.inl (Ne.symm (Nat.ne_of_lt (Nat.lt_of_lt_of_le i5.lt (Nat.le_of_eq g2.symm)))))
  have f33 := f15_2.other W25 (Or.inl (Ne.symm (Nat.ne_of_lt (Nat.lt_of_lt_of_le i5.lt (Nat.le_of_eq g2.symm)))))
  have f34 := f15_3.other W25 (Or.inl (Ne.symm (Nat.ne_of_lt (Nat.lt_of_lt_of_le i5.lt (Nat.le_of_eq g2.symm)))))
  have Zs35 : n0 ≤ h25.size := (Nat.le_trans Zs23 (Keep.of_wr W25).1)
  have K36 : Keep h0 h25 [a1] := K24.wr W25 (Or.inl (List.mem_of_getElem? (i := 0) rfl))
  have f37 := f17.same W25
  have N38 := Fr.snoc X25 N15 g_a1
  refine g_aloadN 16 X25 hx (hb hby d1_15) rfl (v := (.ref a1)) rfl rfl ?_
  refine g_newO 19 X25 hx hZ hown (hw _ (List.mem_of_getElem? (i := 9) rfl)) (hw _ (List.mem_of_getElem? (i := 10) rfl)) (hw _ (List.mem_of_getElem? (i := 11) rfl)) e25 (hb hby d1_16) (by decide) (by decide) rfl ?_
  intro T39 h39 b39 X39 e39 E39 g39 A39 D39
  have f40 := f26.ext E39
  have f41 := f37.ext E39
  have f42 := f27.ext E39
  have f43 := f28.ext E39
  have f44 := f29.ext E39
  have f45 := f30.ext E39
  have f46 := f31.ext E39
  have f47 := f32.ext E39
  have f48 := f33.ext E39
  have f49 := f34.ext E39
  have Zs50 : n0 ≤ h39.size := (Nat.le_trans Zs35 E39.1)
  have K51 : Keep h0 h39 [a1] := K36.ext E39
  have g_b39 : n0 ≤ b39 := Nat.le_trans Zs35 (Nat.le_of_eq g39.symm)
  have sz_b39 : h0.size ≤ b39 := Nat.le_trans K36.1 (Nat.le_of_eq g39.symm)
  have f52 : Fld Z h39 b39 "java/util/HashMap" "loadFactor" "F" (.float (0 : UInt32)) := D39 (Or.inr (hw _ (List.mem_of_getElem? (i := 24) rfl))) (ty := .float) (by decide)
  have f53 : Fld Z h39 b39 "java/util/AbstractMap" "values" "Ljava/util/Collection;" .null := D39 (Or.inl (hw _ (List.mem_of_getElem? (i := 80) rfl))) (ty := (.object "java/util/Collection")) (by decide)
  have f54 : Fld Z h39 b39 "java/util/HashMap" "modCount" "I" (.int (0 : Int32)) := D39 (Or.inl (hw _ (List.mem_of_getElem? (i := 118) rfl))) (ty := .int) (by decide)
  have f55 : Fld Z h39 b39 "java/util/HashMap" "table" "[Ljava/util/HashMap$Node;" .null := D39 (Or.inl (hw _ (List.mem_of_getElem? (i := 122) rfl))) (ty := (.array (.object "java/util/HashMap$Node"))) (by decide)
  refine g_dup 20 X39 hx (hb hby d1_19) rfl rfl ?_
  refine g_callI 23 X39 hx hZ (y := (⟨"java/util/HashMap", "<init>", "()V"⟩ : MethodName)) rfl hown (hw _ (List.mem_of_getElem? (i := 12) rfl)) (hw _ (List.mem_of_getElem? (i := 13) rfl)) (hw _ (List.mem_of_getElem? (i := 11) rfl)) (hw _ (List.mem_of_getElem? (i := 14) rfl)) (by decide) e39 (rm3 l Z a0 hw [] b39  h39 n0 Zs50 A39 f52 f53 f54 f55 g_b39) (by rw [hml]; rfl) b39 [] [(.ref b39), (.ref a1)] rfl rfl (lenOf pd_0 rfl) 2 (Nat.le_of_eq rfl) (hb hby d1_20) (by decide) (by decide) (by decide) (by decide) rfl ?_
  intro v56 T56 L56 X56 hQ56
  obtain ⟨rfl, N56q, K56, f56_0, f56_1, f56_2, f56_3⟩ := hQ56
  have N56 := Fr.app N38 N56q
  have f57 := f40.keep K56
  have f58 := f41.keep K56 (ninS (Nat.ne_of_lt (Nat.lt_of_lt_of_le f30.lt (Nat.le_of_eq g39.symm))) nin0)
  have f59 := f42.keep K56 (ninS (Nat.ne_of_lt (Nat.lt_of_lt_of_le f30.lt (Nat.le_of_eq g39.symm))) nin0)
  have f60 := f43.keep K56 (ninS (Nat.ne_of_lt (Nat.lt_of_lt_of_le f30.lt (Nat.le_of_eq g39.symm))) nin0)
  have f61 := f44.keep K56 (ninS (Nat.ne_of_lt (Nat.lt_of_lt_of_le f30.lt (Nat.le_of_eq g39.symm))) nin0)
  have f62 := f45.keep K56 (ninS (Nat.ne_of_lt (Nat.lt_of_lt_of_le f30.lt (Nat.le_of_eq g39.symm))) nin0)
  have f63 := f46.keep K56
  have f64 := f47.keep K56 (ninS (Nat.ne_of_lt (Nat.lt_of_lt_of_le f34.lt (Nat.le_of_eq g39.symm))) nin0)
  have f65 := f48.keep K56 (ninS (Nat.ne_of_lt (Nat.lt_of_lt_of_le f34.lt (Nat.le_of_eq g39.symm))) nin0)
  have f66 := f49.keep K56 (ninS (Nat.ne_of_lt (Nat.lt_of_lt_of_le f34.lt (Nat.le_of_eq g39.symm))) nin0)
  have f67 := A39.keep K56
  have Zs68 : n0 ≤ T56.heap.size := (Nat.le_trans Zs50 K56.1)
  have K69 : Keep h0 T56.heap [a1] := K51.trans K56 (allS (Or.inr sz_b39) all0)
  show Go p e below s ({ frames := 3, cells := 3, slots := 24, locals := 38 } : Room).cells ({ frames := 3, cells := 3, slots := 24, locals := 38 } : Room).slots (Q1n Z a1 q2 h0 n0) T56 (mkF m 23 #[.val (.ref a1), .val (.long q2), .second, .val (.int (0 : Int32))] [(.ref b39), (.ref a1)])
  refine g_putF 26 X56 hx hZ hown (hw _ (List.mem_of_getElem? (i := 27) rfl)) Via.refl rfl f59 f57 (Or.inr ⟨(hw _ (List.mem_of_getElem? (i := 28) rfl)), rfl, hnm⟩) (hw _ (List.mem_of_getElem? (i := 1) rfl)) (ty := (.object "java/util/Map")) (by decide) rfl rfl (hb hby d1_23) rfl ?_
  intro T70 h70 X70 e70 W70
  have f71 := f57.wr W70
  have f72 := f58.other W70 (Or.inr (slot_ne (Or.inr (hw _ (List.mem_of_getElem? (i := 26) rfl))) (Or.inr (hw _ (List.mem_of_getElem? (i := 28) rfl))) (by decide) (t := (.object "java/util/Map")) (t' := (.object "java/util/Map")) (by decide) (by decide)))
  have f73 := f60.other W70 (Or.inr (slot_ne (Or.inr (hw _ (List.mem_of_getElem? (i := 30) rfl))) (Or.inr (hw _ (List.mem_of_getElem? (i := 28) rfl))) (by decide) (t := (.object "java/util/Map")) (t' := (.object "java/util/Map")) (by decide) (by decide)))
  have f74 := f61.other W70 (Or.inr (slot_ne (Or.inl (hw _ (List.mem_of_getElem? (i := 32) rfl))) (Or.inr (hw _ (List.mem_of_getElem? (i := 28) rfl))) (by decide) (t := .long) (t' := (.object "java/util/Map")) (by decide) (by decide)))
  have f75 := f62.other W70 (Or.inr (slot_ne (Or.inl (hw _ (List.mem_of_getElem? (i := 34) rfl))) (Or.inr (hw _ (List.mem_of_getElem? (i := 28) rfl))) (by decide) (t := (.object "java/util/Set")) (t' := (.object "java/util/Map")) (by decide) (by decide)))
  have f76 := f63.wr W70
  have f77 := f64.other W70 (Or.inl (Ne.symm (Nat.ne_of_lt (Nat.lt_of_lt_of_le i5.lt (Nat.le_of_eq g2.symm)))))
  have f78 := f65.other W70 (Or.inl (Ne.symm (Nat.ne_of_lt (Nat.lt_of_lt_of_le i5.lt (Nat.le_of_eq g2.symm)))))
  have f79 := f66.other W70 (Or.inl (Ne.symm (Nat.ne_of_lt (Nat.lt_of_lt_of_le i5.lt (Nat.le_of_eq g2.symm)))))
  have f80 := f56_0.wr W70
  have f81 := f56_1.other W70 (Or.inl (Ne.symm (Nat.ne_of_lt (Nat.lt_of_lt_of_le f30.lt (Nat.le_of_eq g39.symm)))))
  have f82 := f56_2.other W70 (Or.inl (Ne.symm (Nat.ne_of_lt (Nat.lt_of_lt_of_le f30.lt (Nat.le_of_eq g39.symm)))))
  have f83 := f56_3.other W70 (Or.inl (Ne.symm (Nat.ne_of_lt (Nat.lt_of_lt_of_le f30.lt (Nat.le_of_eq g39.symm)))))
  have Zs84 : n0 ≤ h70.size := (Nat.le_trans Zs68 (Keep.of_wr W70).1)
  have K85 : Keep h0 h70 [a1] := K69.wr W70 (Or.inl (List.mem_of_getElem? (i := 0) rfl))
  have f86 := f59.same W70
  have N87 := Fr.snoc X70 N56 g_a1
  refine g_aloadN 27 X70 hx (hb hby d1_26) rfl (v := (.ref a1)) rfl rfl ?_
  refine g_newO 30 X70 hx hZ hown (hw _ (List.mem_of_getElem? (i := 9) rfl)) (hw _ (List.mem_of_getElem? (i := 10) rfl)) (hw _ (List.mem_of_getElem? (i := 11) rfl)) e70 (hb hby d1_27) (by decide) (by decide) rfl ?_
  intro T88 h88 b88 X88 e88 E88 g88 A88 D88
  have f89 := f71.ext E88
  have f90 := f72.ext E88
  have f91 := f86.ext E88
  have f92 := f73.ext E88
  have f93 := f74.ext E88
  have f94 := f75.ext E88
  have f95 := f76.ext E88
  have f96 := f77.ext E88
  have f97 := f78.ext E88
  have f98 := f79.ext E88
  have f99 := f80.ext E88
  have f100 := f81.ext E88
  have f101 := f82.ext E88
  have f102 := f83.ext E88
  have Zs103 : n0 ≤ h88.size := (Nat.le_trans Zs84 E88.1)
  have K104 : Keep h0 h88 [a1] := K85.ext E88
  have g_b88 : n0 ≤ b88 := Nat.le_trans Zs84 (Nat.le_of_eq g88.symm)
  have sz_b88 : h0.size ≤ b88 := Nat.le_trans K85.1 (Nat.le_of_eq g88.symm)
  have f105 : Fld Z h88 b88 "java/util/HashMap" "loadFactor" "F" (.float (0 : UInt32)) := D88 (Or.inr (hw _ (List.mem_of_getElem? (i := 24) rfl))) (ty := .float) (by decide)
  have f106 : Fld Z h88 b88 "java/util/AbstractMap" "values" "Ljava/util/Collection;" .null := D88 (Or.inl (hw _ (List.mem_of_getElem? (i := 80) rfl))) (ty := (.object "java/util/Collection")) (by decide)
  have f107 : Fld Z h88 b88 "java/util/HashMap" "modCount" "I" (.int (0 : Int32)) := D88 (Or.inl (hw _ (List.mem_of_getElem? (i := 118) rfl))) (ty := .int) (by decide)
  have f108 : Fld Z h88 b88 "java/util/HashMap" "table" "[Ljava/util/HashMap$Node;" .null := D88 (Or.inl (hw _ (List.mem_of_getElem? (i := 122) rfl))) (ty := (.array (.object "java/util/HashMap$Node"))) (by decide)
  refine g_dup 31 X88 hx (hb hby d1_30) rfl rfl ?_
  refine g_callI 34 X88 hx hZ (y := (⟨"java/util/HashMap", "<init>", "()V"⟩ : MethodName)) rfl hown (hw _ (List.mem_of_getElem? (i := 12) rfl)) (hw _ (List.mem_of_getElem? (i := 13) rfl)) (hw _ (List.mem_of_getElem? (i := 11) rfl)) (hw _ (List.mem_of_getElem? (i := 14) rfl)) (by decide) e88 (rm3 l Z a0 hw [] b88  h88 n0 Zs103 A88 f105 f106 f107 f108 g_b88) (by rw [hml]; rfl) b88 [] [(.ref b88), (.ref a1)] rfl rfl (lenOf pd_0 rfl) 2 (Nat.le_of_eq rfl) (hb hby d1_31) (by decide) (by decide) (by decide) (by decide) rfl ?_
  intro v109 T109 L109 X109 hQ109
  obtain ⟨rfl, N109q, K109, f109_0, f109_1, f109_2, f109_3⟩ := hQ109
  have N109 := Fr.app N87 N109q
  have f110 := f89.keep K109
  have f111 := f90.keep K109 (ninS (Nat.ne_of_lt (Nat.lt_of_lt_of_le f75.lt (Nat.le_of_eq g88.symm))) nin0)
  have f112 := f91.keep K109 (ninS (Nat.ne_of_lt (Nat.lt_of_lt_of_le f75.lt (Nat.le_of_eq g88.symm))) nin0)
  have f113 := f92.keep K109 (ninS (Nat.ne_of_lt (Nat.lt_of_lt_of_le f75.lt (Nat.le_of_eq g88.symm))) nin0)
  have f114 := f93.keep K109 (ninS (Nat.ne_of_lt (Nat.lt_of_lt_of_le f75.lt (Nat.le_of_eq g88.symm))) nin0)
  have f115 := f94.keep K109 (ninS (Nat.ne_of_lt (Nat.lt_of_lt_of_le f75.lt (Nat.le_of_eq g88.symm))) nin0)
  have f116 := f95.keep K109
  have f117 := f96.keep K109 (ninS (Nat.ne_of_lt (Nat.lt_of_lt_of_le f79.lt (Nat.le_of_eq g88.symm))) nin0)
  have f118 := f97.keep K109 (ninS (Nat.ne_of_lt (Nat.lt_of_lt_of_le f79.lt (Nat.le_of_eq g88.symm))) nin0)
  have f119 := f98.keep K109 (ninS (Nat.ne_of_lt (Nat.lt_of_lt_of_le f79.lt (Nat.le_of_eq g88.symm))) nin0)
  have f120 := f99.keep K109
  have f121 := f100.keep K109 (ninS (Nat.ne_of_lt (Nat.lt_of_lt_of_le f83.lt (Nat.le_of_eq g88.symm))) nin0)
  have f122 := f101.keep K109 (ninS (Nat.ne_of_lt (Nat.lt_of_lt_of_le f83.lt (Nat.le_of_eq g88.symm))) nin0)
  have f123 := f102.keep K109 (ninS (Nat.ne_of_lt (Nat.lt_of_lt_of_le f83.lt (Nat.le_of_eq g88.symm))) nin0)
  have f124 := A88.keep K109
  have Zs125 : n0 ≤ T109.heap.size := (Nat.le_trans Zs103 K109.1)
  have K126 : Keep h0 T109.heap [a1] := K104.trans K109 (allS (Or.inr sz_b88) all0)
  show Go p e below s ({ frames := 3, cells := 3, slots := 24, locals := 38 } : Room).cells ({ frames := 3, cells := 3, slots := 24, locals := 38 } : Room).slots (Q1n Z a1 q2 h0 n0) T109 (mkF m 34 #[.val (.ref a1), .val (.long q2), .second, .val (.int (0 : Int32))] [(.ref b88), (.ref a1)])
  refine g_putF 37 X109 hx hZ hown (hw _ (List.mem_of_getElem? (i := 29) rfl)) Via.refl rfl f113 f110 (Or.inr ⟨(hw _ (List.mem_of_getElem? (i := 30) rfl)), rfl, hnm⟩) (hw _ (List.mem_of_getElem? (i := 1) rfl)) (ty := (.object "java/util/Map")) (by decide) rfl rfl (hb hby d1_34) rfl ?_
  intro T127 h127 X127 e127 W127
  have f128 := f110.wr W127
  have f129 := f111.other W127 (Or.inr (slot_ne (Or.inr (hw _ (List.mem_of_getElem? (i := 26) rfl))) (Or.inr (hw _ (List.mem_of_getElem? (i := 30) rfl))) (by decide) (t := (.object "java/util/Map")) (t' := (.object "java/util/Map")) (by decide) (by decide)))
  have f130 := f112.other W127 (Or.inr (slot_ne (Or.inr (hw _ (List.mem_of_getElem? (i := 28) rfl))) (Or.inr (hw _ (List.mem_of_getElem? (i := 30) rfl))) (by decide) (t := (.object "java/util/Map")) (t' := (.object "java/util/Map")) (by decide) (by decide)))
  have f131 := f114.other W127 (Or.inr (slot_ne (Or.inl (hw _ (List.mem_of_getElem? (i := 32) rfl))) (Or.inr (hw _ (List.mem_of_getElem? (i := 30) rfl))) (by decide) (t := .long) (t' := (.object "java/util/Map")) (by decide) (by decide)))
  have f132 := f115.other W127 (Or.inr (slot_ne (Or.inl (hw _ (List.mem_of_getElem? (i := 34) rfl))) (Or.inr (hw _ (List.mem_of_getElem? (i := 30) rfl))) (by decide) (t := (.object "java/util/Set")) (t' := (.object "java/util/Map")) (by decide) (by decide)))
  have f133 := f116.wr W127
  have f134 := f117.other W127 (Or.inl (Ne.symm (Nat.ne_of_lt (Nat.lt_of_lt_of_le i5.lt (Nat.le_of_eq g2.symm)))))
  have f135 := f118.other W127 (Or.inl (Ne.symm (Nat.ne_of_lt (Nat.lt_of_lt_of_le i5.lt (Nat.le_of_eq g2.symm)))))
  have f136 := f119.other W127 (Or.inl (Ne.symm (Nat.ne_of_lt (Nat.lt_of_lt_of_le i5.lt (Nat.le_of_eq g2.symm)))))
  have f137 := f120.wr W127
  have f138 := f121.other W127 (Or.inl (Ne.symm (Nat.ne_of_lt (Nat.lt_of_lt_of_le f30.lt (Nat.le_of_eq g39.symm)))))
  have f139 := f122.other W127 (Or.inl (Ne.symm (Nat.ne_of_lt (Nat.lt_of_lt_of_le f30.lt (Nat.le_of_eq g39.symm)))))
  have f140 := f123.other W127 (Or.inl (Ne.symm (Nat.ne_of_lt (Nat.lt_of_lt_of_le f30.lt (Nat.le_of_eq g39.symm)))))
  have f141 := f109_0.wr W127
  have f142 := f109_1.other W127 (Or.inl (Ne.symm (Nat.ne_of_lt (Nat.lt_of_lt_of_le f75.lt (Nat.le_of_eq g88.symm)))))
  have f143 := f109_2.other W127 (Or.inl (Ne.symm (Nat.ne_of_lt (Nat.lt_of_lt_of_le f75.lt (Nat.le_of_eq g88.symm)))))
  have f144 := f109_3.other W127 (Or.inl (Ne.symm (Nat.ne_of_lt (Nat.lt_of_lt_of_le f75.lt (Nat.le_of_eq g88.symm)))))
  have Zs145 : n0 ≤ h127.size := (Nat.le_trans Zs125 (Keep.of_wr W127).1)
  have K146 : Keep h0 h127 [a1] := K126.wr W127 (Or.inl (List.mem_of_getElem? (i := 0) rfl))
  have f147 := f113.same W127
  have N148 := Fr.snoc X127 N109 g_a1
  refine g_aloadN 38 X127 hx (hb hby d1_37) rfl (v := (.ref a1)) rfl rfl ?_
  refine g_lloadN 39 X127 hx (hb hby d1_38) rfl (v := q2) rfl ?_
  refine g_putF 42 X127 hx hZ hown (hw _ (List.mem_of_getElem? (i := 31) rfl)) Via.refl e127 f131 f128 (Or.inl (hw _ (List.mem_of_getElem? (i := 32) rfl))) (hw _ (List.mem_of_getElem? (i := 1) rfl)) (ty := .long) (by decide) rfl rfl (hb hby d1_39) rfl ?_
  intro T149 h149 X149 e149 W149
  have f150 := f128.wr W149
  have f151 := f129.other W149 (Or.inr (slot_ne (Or.inr (hw _ (List.mem_of_getElem? (i := 26) rfl))) (Or.inl (hw _ (List.mem_of_getElem? (i := 32) rfl))) (by decide) (t := (.object "java/util/Map")) (t' := .long) (by decide) (by decide)))
  have f152 := f130.other W149 (Or.inr (slot_ne (Or.inr (hw _ (List.mem_of_getElem? (i := 28) rfl))) (Or.inl (hw _ (List.mem_of_getElem? (i := 32) rfl))) (by decide) (t := (.object "java/util/Map")) (t' := .long) (by decide) (by decide)))
  have f153 := f147.other W149 (Or.inr (slot_ne (Or.inr (hw _ (List.mem_of_getElem? (i := 30) rfl))) (Or.inl (hw _ (List.mem_of_getElem? (i := 32) rfl))) (by decide) (t := (.object "java/util/Map")) (t' := .long) (by decide) (by decide)))
  have f154 := f132.other W149 (Or.inr (slot_ne (Or.inl (hw _ (List.mem_of_getElem? (i := 34) rfl))) (Or.inl (hw _ (List.mem_of_getElem? (i := 32) rfl))) (by decide) (t := (.object "java/util/Set")) (t' := .long) (by decide) (by decide)))
  have f155 := f133.wr W149
  have f156 := f134.other W149 (Or.inl (Ne.symm (Nat.ne_of_lt (Nat.lt_of_lt_of_le i5.lt (Nat.le_of_eq g2.symm)))))
  have f157 := f135.other W149 (Or.inl (Ne.symm (Nat.ne_of_lt (Nat.lt_of_lt_of_le i5.lt (Nat.le_of_eq g2.symm)))))
  have f158 := f136.other W149 (Or.inl (Ne.symm (Nat.ne_of_lt (Nat.lt_of_lt_of_le i5.lt (Nat.le_of_eq g2.symm)))))
  have f159 := f137.wr W149
  have f160 := f138.other W149 (Or.inl (Ne.symm (Nat.ne_of_lt (Nat.lt_of_lt_of_le f30.lt (Nat.le_of_eq g39.symm)))))
  have f161 := f139.other W149 (Or.inl (Ne.symm (Nat.ne_of_lt (Nat.lt_of_lt_of_le f30.lt (Nat.le_of_eq g39.symm)))))
  have f162 := f140.other W149 (Or.inl (Ne.symm (Nat.ne_of_lt (Nat.lt_of_lt_of_le f30.lt (Nat.le_of_eq g39.symm)))))
  have f163 := f141.wr W149
  have f164 := f142.other W149 (Or.inl (Ne.symm (Nat.ne_of_lt (Nat.lt_of_lt_of_le f75.lt (Nat.le_of_eq g88.symm)))))
  have f165 := f143.other W149 (Or.inl (Ne.symm (Nat.ne_of_lt (Nat.lt_of_lt_of_le f75.lt (Nat.le_of_eq g88.symm)))))
  have f166 := f144.other W149 (Or.inl (Ne.symm (Nat.ne_of_lt (Nat.lt_of_lt_of_le f75.lt (Nat.le_of_eq g88.symm)))))
  have Zs167 : n0 ≤ h149.size := (Nat.le_trans Zs145 (Keep.of_wr W149).1)
  have K168 : Keep h0 h149 [a1] := K146.wr W149 (Or.inl (List.mem_of_getElem? (i := 0) rfl))
  have f169 := f131.same W149
  have N170 := Fr.snoc X149 N148 g_a1
  refine g_aloadN 43 X149 hx (hb hby d1_42) rfl (v := (.ref a1)) rfl rfl ?_
  refine g_iloadN 44 X149 hx (hb hby d1_43) rfl (v := (0 : Int32)) rfl ?_
  refine g_ifYes 57 X149 hx (hb hby d1_44)  ((if0 _ _).trans (teq (rfl : (0 : Int32) = (0 : Int32))).1) (by decide) (by decide) ?_
  refine g_aconst_null 58 X149 hx (hb hby d1_57) rfl ?_
  refine g_putF 61 X149 hx hZ hown (hw _ (List.mem_of_getElem? (i := 33) rfl)) Via.refl e149 f154 f150 (Or.inl (hw _ (List.mem_of_getElem? (i := 34) rfl))) (hw _ (List.mem_of_getElem? (i := 1) rfl)) (ty := (.object "java/util/Set")) (by decide) rfl rfl (hb hby d1_58) rfl ?_
  intro T171 h171 X171 e171 W171
  have f172 := f150.wr W171
  have f173 := f151.other W171 (Or.inr (slot_ne (Or.inr (hw _ (List.mem_of_getElem? (i := 26) rfl))) (Or.inl (hw _ (List.mem_of_getElem? (i := 34) rfl))) (by decide) (t := (.object "java/util/Map")) (t' := (.object "java/util/Set")) (by decide) (by decide)))
  have f174 := f152.other W171 (Or.inr (slot_ne (Or.inr (hw _ (List.mem_of_getElem? (i := 28) rfl))) (Or.inl (hw _ (List.mem_of_getElem? (i := 34) rfl))) (by decide) (t := (.object "java/util/Map")) (t' := (.object "java/util/Set")) (by decide) (by decide)))
  have f175 := f153.other W171 (Or.inr (slot_ne (Or.inr (hw _ (List.mem_of_getElem? (i := 30) rfl))) (Or.inl (hw _ (List.mem_of_getElem? (i := 34) rfl))) (by decide) (t := (.object "java/util/Map")) (t' := (.object "java/util/Set")) (by decide) (by decide)))
  have f176 := f169.other W171 (Or.inr (slot_ne (Or.inl (hw _ (List.mem_of_getElem? (i := 32) rfl))) (Or.inl (hw _ (List.mem_of_getElem? (i := 34) rfl))) (by decide) (t := .long) (t' := (.object "java/util/Set")) (by decide) (by decide)))
  have f177 := f155.wr W171
  have f178 := f156.other W171 (Or.inl (Ne.symm (Nat.ne_of_lt (Nat.lt_of_lt_of_le i5.lt (Nat.le_of_eq g2.symm)))))
  have f179 := f157.other W171 (Or.inl (Ne.symm (Nat.ne_of_lt (Nat.lt_of_lt_of_le i5.lt (Nat.le_of_eq g2.symm)))))
  have f180 := f158.other W171 (Or.inl (Ne.symm (Nat.ne_of_lt (Nat.lt_of_lt_of_le i5.lt (Nat.le_of_eq g2.symm)))))
  have f181 := f159.wr W171
  have f182 := f160.other W171 (Or.inl (Ne.symm (Nat.ne_of_lt (Nat.lt_of_lt_of_le f30.lt (Nat.le_of_eq g39.symm)))))
  have f183 := f161.other W171 (Or.inl (Ne.symm (Nat.ne_of_lt (Nat.lt_of_lt_of_le f30.lt (Nat.le_of_eq g39.symm)))))
  have f184 := f162.other W171 (Or.inl (Ne.symm (Nat.ne_of_lt (Nat.lt_of_lt_of_le f30.lt (Nat.le_of_eq g39.symm)))))
  have f185 := f163.wr W171
  have f186 := f164.other W171 (Or.inl (Ne.symm (Nat.ne_of_lt (Nat.lt_of_lt_of_le f75.lt (Nat.le_of_eq g88.symm)))))
  have f187 := f165.other W171 (Or.inl (Ne.symm (Nat.ne_of_lt (Nat.lt_of_lt_of_le f75.lt (Nat.le_of_eq g88.symm)))))
  have f188 := f166.other W171 (Or.inl (Ne.symm (Nat.ne_of_lt (Nat.lt_of_lt_of_le f75.lt (Nat.le_of_eq g88.symm)))))
  have Zs189 : n0 ≤ h171.size := (Nat.le_trans Zs167 (Keep.of_wr W171).1)
  have K190 : Keep h0 h171 [a1] := K168.wr W171 (Or.inl (List.mem_of_getElem? (i := 0) rfl))
  have f191 := f154.same W171
  have N192 := Fr.snoc X171 N170 g_a1
  exact g_ret0 X171 hx Bd.returns hlk (hb hby d1_61) (by decide) (by decide) (by
      show Q1n Z a1 q2 h0 n0 _ T171.heap _
      rw [e171]
      exact ⟨b2, rfl, N192, K190, g_b2, sz_b2, f172, f191, f173, f177, f178, f179, f180⟩)
def Q1w (Z : State) (a1 : Addr) (q2 : Int64) (h0 : Heap) (n0 : Nat) (v : Option Value) (h : Heap) (L : List Loc) : Prop := ∃ (y0 : Addr) (y1 : Addr), v = none ∧ Fr n0 L ∧ Keep h0 h [a1] ∧ n0 ≤ y0 ∧ h0.size ≤ y0 ∧ n0 ≤ y1 ∧ h0.size ≤ y1 ∧ Exa Z h a1 "com/example/koord/koord/LockTable" ∧ Fld Z h a1 "com/example/koord/koord/LockTable" "accounted" "Ljava/util/Set;" (.ref y1) ∧ Fld Z h a1 "com/example/koord/koord/LockTable" "locks" "Ljava/util/Map;" (.ref y0) ∧ Exa Z h y0 "java/util/HashMap" ∧ Fld Z h y0 "java/util/AbstractMap" "values" "Ljava/util/Collection;" .null ∧ Fld Z h y0 "java/util/HashMap" "modCount" "I" (.int (0 : Int32)) ∧ Fld Z h y0 "java/util/HashMap" "table" "[Ljava/util/HashMap$Node;" .null
theorem ef_rm1w (m : MethodId) (a1 : Addr) (q2 : Int64) : entryFrame m #[(.ref a1), (.long q2), (.int (1 : Int32))] 4 = mkF m 0 #[.val (.ref a1), .val (.long q2), .second, .val (.int (1 : Int32))] [] := by first | (simp [entryFrame, mkF, argsToLocals, Value.category]; done) | rfl
set_option maxRecDepth 65536 in
set_option maxHeartbeats 40000000 in
theorem rm1w (l : Launch) (Z : State) (a0 : Array Value) (hw : ∀ d ∈ tables_1, d.before a0 Z = true) (ws : List Jvm.Cond) (a1 : Addr) (q2 : Int64) (h0 : Heap) (n0 : Nat) (Z0 : n0 ≤ h0.size) (i0 : Exa Z h0 a1 "com/example/koord/koord/LockTable") (i1 : Fld Z h0 a1 "com/example/koord/koord/LockTable" "locks" "Ljava/util/Map;" .null) (i2 : Fld Z h0 a1 "com/example/koord/koord/LockTable" "requestsByOwner" "Ljava/util/Map;" .null) (i3 : Fld Z h0 a1 "com/example/koord/koord/LockTable" "holdsByOwner" "Ljava/util/Map;" .null) (i4 : Fld Z h0 a1 "com/example/koord/koord/LockTable" "lastToken" "J" (.long (0 : Int64))) (i5 : Fld Z h0 a1 "com/example/koord/koord/LockTable" "accounted" "Ljava/util/Set;" .null) (g_a1 : n0 ≤ a1) :
    MetFree l (⟨"com/example/koord/koord/LockTable", "<init>", "(JZ)V"⟩ : MethodName) (head1 (Jvm.Cond.code (⟨"com/example/koord/koord/LockTable", "<init>", "(JZ)V"⟩ : MethodName) prog_11_method_1_code 4 none :: ws) ({ frames := 4, cells := 5, slots := 33, locals := 52 } : Room)) (fun a U => a = #[(.ref a1), (.long q2), (.int (1 : Int32))] ∧ Z.Warmed39 U.vm ∧ U.heap = h0) (fun _ _ _ _ _ => True) (fun _ U o U' => ∃ v L, o = .returned v ∧ (Q1w Z a1 q2 h0 n0) v U'.heap L ∧ FrameEnd U o U' L ({ frames := 4, cells := 5, slots := 33, locals := 52 } : Room).cells ({ frames := 4, cells := 5, slots := 33, locals := 52 } : Room).slots) := by
  refine MetFree.of_bodySF (plainFor_of_name pn_7) hisR ?_
  intro p e s m args below meth c s₁ Bd hml0 hP hK
  obtain ⟨rfl, hZ, hh⟩ := hP
  have hx := Bd.exec
  have hby := Bd.bytes
  have hml : c.maxLocals = 4 := hml0
  have hown : s.vm.findClass "com/example/koord/koord/LockTable" = some m.cls := findClass_of_methodNamed Bd.named
  have hnm := (name_of_methodNamed Bd.named Bd.method).1
  have hlk : meth.locks = false := BodyLoose.notSynchronized Bd
  have X0 : Stand p l e ({ frames := 4, cells := 5, slots := 33, locals := 52 } : Room) s m #[(.ref a1), (.long q2), (.int (1 : Int32))] below meth c s₁ [] 0 0 := Stand.of_body Bd
  have e0 : s₁.heap = h0 := by rw [← hh, Bd.state]; rfl
  have N0 := Fr.nil n0
  have K0 := Keep.refl h0 [a1]
  show Go p e below s ({ frames := 4, cells := 5, slots := 33, locals := 52 } : Room).cells ({ frames := 4, cells := 5, slots := 33, locals := 52 } : Room).slots (Q1w Z a1 q2 h0 n0) s₁ (entryFrame m #[(.ref a1), (.long q2), (.int (1 : Int32))] 4)
  rw [ef_rm1w m a1 q2]
  refine g_aloadN 1 X0 hx (hb hby d1_0) rfl (v := (.ref a1)) rfl rfl ?_
  refine g_initO 4 X0 hx hZ hown (hw _ (List.mem_of_getElem? (i := 6) rfl)) (hw _ (List.mem_of_getElem? (i := 7) rfl)) (hw _ (List.mem_of_getElem? (i := 8) rfl)) e0 (by rw [hml]; rfl) (hb hby d1_1) (by decide) 0 (Nat.le_of_eq rfl) (by decide) rfl ?_
  intro T1 X1 e1
  refine g_aloadN 5 X1 hx (hb hby d1_4) rfl (v := (.ref a1)) rfl rfl ?_
  refine g_newO 8 X1 hx hZ hown (hw _ (List.mem_of_getElem? (i := 9) rfl)) (hw _ (List.mem_of_getElem? (i := 10) rfl)) (hw _ (List.mem_of_getElem? (i := 11) rfl)) e1 (hb hby d1_5) (by decide) (by decide) rfl ?_
  intro T2 h2 b2 X2 e2 E2 g2 A2 D2
  have f3 := i0.ext E2
  have f4 := i1.ext E2
  have f5 := i2.ext E2
  have f6 := i3.ext E2
  have f7 := i4.ext E2
  have f8 := i5.ext E2
  have Zs9 : n0 ≤ h2.size := (Nat.le_trans Z0 E2.1)
  have K10 : Keep h0 h2 [a1] := K0.ext E2
  have g_b2 : n0 ≤ b2 := Nat.le_trans Z0 (Nat.le_of_eq g2.symm)
  have sz_b2 : h0.size ≤ b2 := Nat.le_trans K0.1 (Nat.le_of_eq g2.symm)
  have f11 : Fld Z h2 b2 "java/util/HashMap" "loadFactor" "F" (.float (0 : UInt32)) := D2 (Or.inr (hw _ (List.mem_of_getElem? (i := 24) rfl))) (ty := .float) (by decide)
  have f12 : Fld Z h2 b2 "java/util/AbstractMap" "values" "Ljava/util/Collection;" .null := D2 (Or.inl (hw _ (List.mem_of_getElem? (i := 80) rfl))) (ty := (.object "java/util/Collection")) (by decide)
  have f13 : Fld Z h2 b2 "java/util/HashMap" "modCount" "I" (.int (0 : Int32)) := D2 (Or.inl (hw _ (List.mem_of_getElem? (i := 118) rfl))) (ty := .int) (by decide)
  have f14 : Fld Z h2 b2 "java/util/HashMap" "table" "[Ljava/util/HashMap$Node;" .null := D2 (Or.inl (hw _ (List.mem_of_getElem? (i := 122) rfl))) (ty := (.array (.object "java/util/HashMap$Node"))) (by decide)
  refine g_dup 9 X2 hx (hb hby d1_8) rfl rfl ?_
  refine g_callI 12 X2 hx hZ (y := (⟨"java/util/HashMap", "<init>", "()V"⟩ : MethodName)) rfl hown (hw _ (List.mem_of_getElem? (i := 12) rfl)) (hw _ (List.mem_of_getElem? (i := 13) rfl)) (hw _ (List.mem_of_getElem? (i := 11) rfl)) (hw _ (List.mem_of_getElem? (i := 14) rfl)) (by decide) e2 (rm3 l Z a0 hw [] b2  h2 n0 Zs9 A2 f11 f12 f13 f14 g_b2) (by rw [hml]; rfl) b2 [] [(.ref b2), (.ref a1)] rfl rfl (lenOf pd_0 rfl) 2 (Nat.le_of_eq rfl) (hb hby d1_9) (by decide) (by decide) (by decide) (by decide) rfl ?_
  intro v15 T15 L15 X15 hQ15
  obtain ⟨rfl, N15q, K15, f15_0, f15_1, f15_2, f15_3⟩ := hQ15
  have N15 := Fr.app N0 N15q
  have f16 := f3.keep K15
  have f17 := f4.keep K15 (ninS (Nat.ne_of_lt (Nat.lt_of_lt_of_le i5.lt (Nat.le_of_eq g2.symm))) nin0)
  have f18 := f5.keep K15 (ninS (Nat.ne_of_lt (Nat.lt_of_lt_of_le i5.lt (Nat.le_of_eq g2.symm))) nin0)
  have f19 := f6.keep K15 (ninS (Nat.ne_of_lt (Nat.lt_of_lt_of_le i5.lt (Nat.le_of_eq g2.symm))) nin0)
  have f20 := f7.keep K15 (ninS (Nat.ne_of_lt (Nat.lt_of_lt_of_le i5.lt (Nat.le_of_eq g2.symm))) nin0)
  have f21 := f8.keep K15 (ninS (Nat.ne_of_lt (Nat.lt_of_lt_of_le i5.lt (Nat.le_of_eq g2.symm))) nin0)
  have f22 := A2.keep K15
  have Zs23 : n0 ≤ T15.heap.size := (Nat.le_trans Zs9 K15.1)
  have K24 : Keep h0 T15.heap [a1] := K10.trans K15 (allS (Or.inr sz_b2) all0)
  show Go p e below s ({ frames := 4, cells := 5, slots := 33, locals := 52 } : Room).cells ({ frames := 4, cells := 5, slots := 33, locals := 52 } : Room).slots (Q1w Z a1 q2 h0 n0) T15 (mkF m 12 #[.val (.ref a1), .val (.long q2), .second, .val (.int (1 : Int32))] [(.ref b2), (.ref a1)])
  refine g_putF 15 X15 hx hZ hown (hw _ (List.mem_of_getElem? (i := 25) rfl)) Via.refl rfl f17 f16 (Or.inr ⟨(hw _ (List.mem_of_getElem? (i := 26) rfl)), rfl, hnm⟩) (hw _ (List.mem_of_getElem? (i := 1) rfl)) (ty := (.object "java/util/Map")) (by decide) rfl rfl (hb hby d1_12) rfl ?_
  intro T25 h25 X25 e25 W25
  have f26 := f16.wr W25
  have f27 := f18.other W25 (Or.inr (slot_ne (Or.inr (hw _ (List.mem_of_getElem? (i := 28) rfl))) (Or.inr (hw _ (List.mem_of_getElem? (i := 26) rfl))) (by decide) (t := (.object "java/util/Map")) (t' := (.object "java/util/Map")) (by decide) (by decide)))
  have f28 := f19.other W25 (Or.inr (slot_ne (Or.inr (hw _ (List.mem_of_getElem? (i := 30) rfl))) (Or.inr (hw _ (List.mem_of_getElem? (i := 26) rfl))) (by decide) (t := (.object "java/util/Map")) (t' := (.object "java/util/Map")) (by decide) (by decide)))
  have f29 := f20.other W25 (Or.inr (slot_ne (Or.inl (hw _ (List.mem_of_getElem? (i := 32) rfl))) (Or.inr (hw _ (List.mem_of_getElem? (i := 26) rfl))) (by decide) (t := .long) (t' := (.object "java/util/Map")) (by decide) (by decide)))
  have f30 := f21.other W25 (Or.inr (slot_ne (Or.inl (hw _ (List.mem_of_getElem? (i := 34) rfl))) (Or.inr (hw _ (List.mem_of_getElem? (i := 26) rfl))) (by decide) (t := (.object "java/util/Set")) (t' := (.object "java/util/Map")) (by decide) (by decide)))
  have f31 := f15_0.wr W25
  have f32 := f15_1.other W25 (Or.inl (Ne.symm (Nat.ne_of_lt (Nat.lt_of_lt_of_le i5.lt (Nat.le_of_eq g2.symm)))))
  have f33 := f15_2.other W25 (Or.inl (Ne.symm (Nat.ne_of_lt (Nat.lt_of_lt_of_le i5.lt (Nat.le_of_eq g2.symm)))))
  have f34 := f15_3.other W25 (Or.inl (Ne.symm (Nat.ne_of_lt (Nat.lt_of_lt_of_le i5.lt (Nat.le_of_eq g2.symm)))))
  have Zs35 : n0 ≤ h25.size := (Nat.le_trans Zs23 (Keep.of_wr W25).1)
  have K36 : Keep h0 h25 [a1] := K24.wr W25 (Or.inl (List.mem_of_getElem? (i := 0) rfl))
  have f37 := f17.same W25
  have N38 := Fr.snoc X25 N15 g_a1
  refine g_aloadN 16 X25 hx (hb hby d1_15) rfl (v := (.ref a1)) rfl rfl ?_
  refine g_newO 19 X25 hx hZ hown (hw _ (List.mem_of_getElem? (i := 9) rfl)) (hw _ (List.mem_of_getElem? (i := 10) rfl)) (hw _ (List.mem_of_getElem? (i := 11) rfl)) e25 (hb hby d1_16) (by decide) (by decide) rfl ?_
  intro T39 h39 b39 X39 e39 E39 g39 A39 D39
  have f40 := f26.ext E39
  have f41 := f37.ext E39
  have f42 := f27.ext E39
  have f43 := f28.ext E39
  have f44 := f29.ext E39
  have f45 := f30.ext E39
  have f46 := f31.ext E39
  have f47 := f32.ext E39
  have f48 := f33.ext E39
  have f49 := f34.ext E39
  have Zs50 : n0 ≤ h39.size := (Nat.le_trans Zs35 E39.1)
  have K51 : Keep h0 h39 [a1] := K36.ext E39
  have g_b39 : n0 ≤ b39 := Nat.le_trans Zs35 (Nat.le_of_eq g39.symm)
  have sz_b39 : h0.size ≤ b39 := Nat.le_trans K36.1 (Nat.le_of_eq g39.symm)
  have f52 : Fld Z h39 b39 "java/util/HashMap" "loadFactor" "F" (.float (0 : UInt32)) := D39 (Or.inr (hw _ (List.mem_of_getElem? (i := 24) rfl))) (ty := .float) (by decide)
  have f53 : Fld Z h39 b39 "java/util/AbstractMap" "values" "Ljava/util/Collection;" .null := D39 (Or.inl (hw _ (List.mem_of_getElem? (i := 80) rfl))) (ty := (.object "java/util/Collection")) (by decide)
  have f54 : Fld Z h39 b39 "java/util/HashMap" "modCount" "I" (.int (0 : Int32)) := D39 (Or.inl (hw _ (List.mem_of_getElem? (i := 118) rfl))) (ty := .int) (by decide)
  have f55 : Fld Z h39 b39 "java/util/HashMap" "table" "[Ljava/util/HashMap$Node;" .null := D39 (Or.inl (hw _ (List.mem_of_getElem? (i := 122) rfl))) (ty := (.array (.object "java/util/HashMap$Node"))) (by decide)
  refine g_dup 20 X39 hx (hb hby d1_19) rfl rfl ?_
  refine g_callI 23 X39 hx hZ (y := (⟨"java/util/HashMap", "<init>", "()V"⟩ : MethodName)) rfl hown (hw _ (List.mem_of_getElem? (i := 12) rfl)) (hw _ (List.mem_of_getElem? (i := 13) rfl)) (hw _ (List.mem_of_getElem? (i := 11) rfl)) (hw _ (List.mem_of_getElem? (i := 14) rfl)) (by decide) e39 (rm3 l Z a0 hw [] b39  h39 n0 Zs50 A39 f52 f53 f54 f55 g_b39) (by rw [hml]; rfl) b39 [] [(.ref b39), (.ref a1)] rfl rfl (lenOf pd_0 rfl) 2 (Nat.le_of_eq rfl) (hb hby d1_20) (by decide) (by decide) (by decide) (by decide) rfl ?_
  intro v56 T56 L56 X56 hQ56
  obtain ⟨rfl, N56q, K56, f56_0, f56_1, f56_2, f56_3⟩ := hQ56
  have N56 := Fr.app N38 N56q
  have f57 := f40.keep K56
  have f58 := f41.keep K56 (ninS (Nat.ne_of_lt (Nat.lt_of_lt_of_le f30.lt (Nat.le_of_eq g39.symm))) nin0)
  have f59 := f42.keep K56 (ninS (Nat.ne_of_lt (Nat.lt_of_lt_of_le f30.lt (Nat.le_of_eq g39.symm))) nin0)
  have f60 := f43.keep K56 (ninS (Nat.ne_of_lt (Nat.lt_of_lt_of_le f30.lt (Nat.le_of_eq g39.symm))) nin0)
  have f61 := f44.keep K56 (ninS (Nat.ne_of_lt (Nat.lt_of_lt_of_le f30.lt (Nat.le_of_eq g39.symm))) nin0)
  have f62 := f45.keep K56 (ninS (Nat.ne_of_lt (Nat.lt_of_lt_of_le f30.lt (Nat.le_of_eq g39.symm))) nin0)
  have f63 := f46.keep K56
  have f64 := f47.keep K56 (ninS (Nat.ne_of_lt (Nat.lt_of_lt_of_le f34.lt (Nat.le_of_eq g39.symm))) nin0)
  have f65 := f48.keep K56 (ninS (Nat.ne_of_lt (Nat.lt_of_lt_of_le f34.lt (Nat.le_of_eq g39.symm))) nin0)
  have f66 := f49.keep K56 (ninS (Nat.ne_of_lt (Nat.lt_of_lt_of_le f34.lt (Nat.le_of_eq g39.symm))) nin0)
  have f67 := A39.keep K56
  have Zs68 : n0 ≤ T56.heap.size := (Nat.le_trans Zs50 K56.1)
  have K69 : Keep h0 T56.heap [a1] := K51.trans K56 (allS (Or.inr sz_b39) all0)
  show Go p e below s ({ frames := 4, cells := 5, slots := 33, locals := 52 } : Room).cells ({ frames := 4, cells := 5, slots := 33, locals := 52 } : Room).slots (Q1w Z a1 q2 h0 n0) T56 (mkF m 23 #[.val (.ref a1), .val (.long q2), .second, .val (.int (1 : Int32))] [(.ref b39), (.ref a1)])
  refine g_putF 26 X56 hx hZ hown (hw _ (List.mem_of_getElem? (i := 27) rfl)) Via.refl rfl f59 f57 (Or.inr ⟨(hw _ (List.mem_of_getElem? (i := 28) rfl)), rfl, hnm⟩) (hw _ (List.mem_of_getElem? (i := 1) rfl)) (ty := (.object "java/util/Map")) (by decide) rfl rfl (hb hby d1_23) rfl ?_
  intro T70 h70 X70 e70 W70
  have f71 := f57.wr W70
  have f72 := f58.other W70 (Or.inr (slot_ne (Or.inr (hw _ (List.mem_of_getElem? (i := 26) rfl))) (Or.inr (hw _ (List.mem_of_getElem? (i := 28) rfl))) (by decide) (t := (.object "java/util/Map")) (t' := (.object "java/util/Map")) (by decide) (by decide)))
  have f73 := f60.other W70 (Or.inr (slot_ne (Or.inr (hw _ (List.mem_of_getElem? (i := 30) rfl))) (Or.inr (hw _ (List.mem_of_getElem? (i := 28) rfl))) (by decide) (t := (.object "java/util/Map")) (t' := (.object "java/util/Map")) (by decide) (by decide)))
  have f74 := f61.other W70 (Or.inr (slot_ne (Or.inl (hw _ (List.mem_of_getElem? (i := 32) rfl))) (Or.inr (hw _ (List.mem_of_getElem? (i := 28) rfl))) (by decide) (t := .long) (t' := (.object "java/util/Map")) (by decide) (by decide)))
  have f75 := f62.other W70 (Or.inr (slot_ne (Or.inl (hw _ (List.mem_of_getElem? (i := 34) rfl))) (Or.inr (hw _ (List.mem_of_getElem? (i := 28) rfl))) (by decide) (t := (.object "java/util/Set")) (t' := (.object "java/util/Map")) (by decide) (by decide)))
  have f76 := f63.wr W70
  have f77 := f64.other W70 (Or.inl (Ne.symm (Nat.ne_of_lt (Nat.lt_of_lt_of_le i5.lt (Nat.le_of_eq g2.symm)))))
  have f78 := f65.other W70 (Or.inl (Ne.symm (Nat.ne_of_lt (Nat.lt_of_lt_of_le i5.lt (Nat.le_of_eq g2.symm)))))
  have f79 := f66.other W70 (Or.inl (Ne.symm (Nat.ne_of_lt (Nat.lt_of_lt_of_le i5.lt (Nat.le_of_eq g2.symm)))))
  have f80 := f56_0.wr W70
  have f81 := f56_1.other W70 (Or.inl (Ne.symm (Nat.ne_of_lt (Nat.lt_of_lt_of_le f30.lt (Nat.le_of_eq g39.symm)))))
  have f82 := f56_2.other W70 (Or.inl (Ne.symm (Nat.ne_of_lt (Nat.lt_of_lt_of_le f30.lt (Nat.le_of_eq g39.symm)))))
  have f83 := f56_3.other W70 (Or.inl (Ne.symm (Nat.ne_of_lt (Nat.lt_of_lt_of_le f30.lt (Nat.le_of_eq g39.symm)))))
  have Zs84 : n0 ≤ h70.size := (Nat.le_trans Zs68 (Keep.of_wr W70).1)
  have K85 : Keep h0 h70 [a1] := K69.wr W70 (Or.inl (List.mem_of_getElem? (i := 0) rfl))
  have f86 := f59.same W70
  have N87 := Fr.snoc X70 N56 g_a1
  refine g_aloadN 27 X70 hx (hb hby d1_26) rfl (v := (.ref a1)) rfl rfl ?_
  refine g_newO 30 X70 hx hZ hown (hw _ (List.mem_of_getElem? (i := 9) rfl)) (hw _ (List.mem_of_getElem? (i := 10) rfl)) (hw _ (List.mem_of_getElem? (i := 11) rfl)) e70 (hb hby d1_27) (by decide) (by decide) rfl ?_
  intro T88 h88 b88 X88 e88 E88 g88 A88 D88
  have f89 := f71.ext E88
  have f90 := f72.ext E88
  have f91 := f86.ext E88
  have f92 := f73.ext E88
  have f93 := f74.ext E88
  have f94 := f75.ext E88
  have f95 := f76.ext E88
  have f96 := f77.ext E88
  have f97 := f78.ext E88
  have f98 := f79.ext E88
  have f99 := f80.ext E88
  have f100 := f81.ext E88
  have f101 := f82.ext E88
  have f102 := f83.ext E88
  have Zs103 : n0 ≤ h88.size := (Nat.le_trans Zs84 E88.1)
  have K104 : Keep h0 h88 [a1] := K85.ext E88
  have g_b88 : n0 ≤ b88 := Nat.le_trans Zs84 (Nat.le_of_eq g88.symm)
  have sz_b88 : h0.size ≤ b88 := Nat.le_trans K85.1 (Nat.le_of_eq g88.symm)
  have f105 : Fld Z h88 b88 "java/util/HashMap" "loadFactor" "F" (.float (0 : UInt32)) := D88 (Or.inr (hw _ (List.mem_of_getElem? (i := 24) rfl))) (ty := .float) (by decide)
  have f106 : Fld Z h88 b88 "java/util/AbstractMap" "values" "Ljava/util/Collection;" .null := D88 (Or.inl (hw _ (List.mem_of_getElem? (i := 80) rfl))) (ty := (.object "java/util/Collection")) (by decide)
  have f107 : Fld Z h88 b88 "java/util/HashMap" "modCount" "I" (.int (0 : Int32)) := D88 (Or.inl (hw _ (List.mem_of_getElem? (i := 118) rfl))) (ty := .int) (by decide)
  have f108 : Fld Z h88 b88 "java/util/HashMap" "table" "[Ljava/util/HashMap$Node;" .null := D88 (Or.inl (hw _ (List.mem_of_getElem? (i := 122) rfl))) (ty := (.array (.object "java/util/HashMap$Node"))) (by decide)
  refine g_dup 31 X88 hx (hb hby d1_30) rfl rfl ?_
  refine g_callI 34 X88 hx hZ (y := (⟨"java/util/HashMap", "<init>", "()V"⟩ : MethodName)) rfl hown (hw _ (List.mem_of_getElem? (i := 12) rfl)) (hw _ (List.mem_of_getElem? (i := 13) rfl)) (hw _ (List.mem_of_getElem? (i := 11) rfl)) (hw _ (List.mem_of_getElem? (i := 14) rfl)) (by decide) e88 (rm3 l Z a0 hw [] b88  h88 n0 Zs103 A88 f105 f106 f107 f108 g_b88) (by rw [hml]; rfl) b88 [] [(.ref b88), (.ref a1)] rfl rfl (lenOf pd_0 rfl) 2 (Nat.le_of_eq rfl) (hb hby d1_31) (by decide) (by decide) (by decide) (by decide) rfl ?_
  intro v109 T109 L109 X109 hQ109
  obtain ⟨rfl, N109q, K109, f109_0, f109_1, f109_2, f109_3⟩ := hQ109
  have N109 := Fr.app N87 N109q
  have f110 := f89.keep K109
  have f111 := f90.keep K109 (ninS (Nat.ne_of_lt (Nat.lt_of_lt_of_le f75.lt (Nat.le_of_eq g88.symm))) nin0)
  have f112 := f91.keep K109 (ninS (Nat.ne_of_lt (Nat.lt_of_lt_of_le f75.lt (Nat.le_of_eq g88.symm))) nin0)
  have f113 := f92.keep K109 (ninS (Nat.ne_of_lt (Nat.lt_of_lt_of_le f75.lt (Nat.le_of_eq g88.symm))) nin0)
  have f114 := f93.keep K109 (ninS (Nat.ne_of_lt (Nat.lt_of_lt_of_le f75.lt (Nat.le_of_eq g88.symm))) nin0)
  have f115 := f94.keep K109 (ninS (Nat.ne_of_lt (Nat.lt_of_lt_of_le f75.lt (Nat.le_of_eq g88.symm))) nin0)
  have f116 := f95.keep K109
  have f117 := f96.keep K109 (ninS (Nat.ne_of_lt (Nat.lt_of_lt_of_le f79.lt (Nat.le_of_eq g88.symm))) nin0)
  have f118 := f97.keep K109 (ninS (Nat.ne_of_lt (Nat.lt_of_lt_of_le f79.lt (Nat.le_of_eq g88.symm))) nin0)
  have f119 := f98.keep K109 (ninS (Nat.ne_of_lt (Nat.lt_of_lt_of_le f79.lt (Nat.le_of_eq g88.symm))) nin0)
  have f120 := f99.keep K109
  have f121 := f100.keep K109 (ninS (Nat.ne_of_lt (Nat.lt_of_lt_of_le f83.lt (Nat.le_of_eq g88.symm))) nin0)
  have f122 := f101.keep K109 (ninS (Nat.ne_of_lt (Nat.lt_of_lt_of_le f83.lt (Nat.le_of_eq g88.symm))) nin0)
  have f123 := f102.keep K109 (ninS (Nat.ne_of_lt (Nat.lt_of_lt_of_le f83.lt (Nat.le_of_eq g88.symm))) nin0)
  have f124 := A88.keep K109
  have Zs125 : n0 ≤ T109.heap.size := (Nat.le_trans Zs103 K109.1)
  have K126 : Keep h0 T109.heap [a1] := K104.trans K109 (allS (Or.inr sz_b88) all0)
  show Go p e below s ({ frames := 4, cells := 5, slots := 33, locals := 52 } : Room).cells ({ frames := 4, cells := 5, slots := 33, locals := 52 } : Room).slots (Q1w Z a1 q2 h0 n0) T109 (mkF m 34 #[.val (.ref a1), .val (.long q2), .second, .val (.int (1 : Int32))] [(.ref b88), (.ref a1)])
  refine g_putF 37 X109 hx hZ hown (hw _ (List.mem_of_getElem? (i := 29) rfl)) Via.refl rfl f113 f110 (Or.inr ⟨(hw _ (List.mem_of_getElem? (i := 30) rfl)), rfl, hnm⟩) (hw _ (List.mem_of_getElem? (i := 1) rfl)) (ty := (.object "java/util/Map")) (by decide) rfl rfl (hb hby d1_34) rfl ?_
  intro T127 h127 X127 e127 W127
  have f128 := f110.wr W127
  have f129 := f111.other W127 (Or.inr (slot_ne (Or.inr (hw _ (List.mem_of_getElem? (i := 26) rfl))) (Or.inr (hw _ (List.mem_of_getElem? (i := 30) rfl))) (by decide) (t := (.object "java/util/Map")) (t' := (.object "java/util/Map")) (by decide) (by decide)))
  have f130 := f112.other W127 (Or.inr (slot_ne (Or.inr (hw _ (List.mem_of_getElem? (i := 28) rfl))) (Or.inr (hw _ (List.mem_of_getElem? (i := 30) rfl))) (by decide) (t := (.object "java/util/Map")) (t' := (.object "java/util/Map")) (by decide) (by decide)))
  have f131 := f114.other W127 (Or.inr (slot_ne (Or.inl (hw _ (List.mem_of_getElem? (i := 32) rfl))) (Or.inr (hw _ (List.mem_of_getElem? (i := 30) rfl))) (by decide) (t := .long) (t' := (.object "java/util/Map")) (by decide) (by decide)))
  have f132 := f115.other W127 (Or.inr (slot_ne (Or.inl (hw _ (List.mem_of_getElem? (i := 34) rfl))) (Or.inr (hw _ (List.mem_of_getElem? (i := 30) rfl))) (by decide) (t := (.object "java/util/Set")) (t' := (.object "java/util/Map")) (by decide) (by decide)))
  have f133 := f116.wr W127
  have f134 := f117.other W127 (Or.inl (Ne.symm (Nat.ne_of_lt (Nat.lt_of_lt_of_le i5.lt (Nat.le_of_eq g2.symm)))))
  have f135 := f118.other W127 (Or.inl (Ne.symm (Nat.ne_of_lt (Nat.lt_of_lt_of_le i5.lt (Nat.le_of_eq g2.symm)))))
  have f136 := f119.other W127 (Or.inl (Ne.symm (Nat.ne_of_lt (Nat.lt_of_lt_of_le i5.lt (Nat.le_of_eq g2.symm)))))
  have f137 := f120.wr W127
  have f138 := f121.other W127 (Or.inl (Ne.symm (Nat.ne_of_lt (Nat.lt_of_lt_of_le f30.lt (Nat.le_of_eq g39.symm)))))
  have f139 := f122.other W127 (Or.inl (Ne.symm (Nat.ne_of_lt (Nat.lt_of_lt_of_le f30.lt (Nat.le_of_eq g39.symm)))))
  have f140 := f123.other W127 (Or.inl (Ne.symm (Nat.ne_of_lt (Nat.lt_of_lt_of_le f30.lt (Nat.le_of_eq g39.symm)))))
  have f141 := f109_0.wr W127
  have f142 := f109_1.other W127 (Or.inl (Ne.symm (Nat.ne_of_lt (Nat.lt_of_lt_of_le f75.lt (Nat.le_of_eq g88.symm)))))
  have f143 := f109_2.other W127 (Or.inl (Ne.symm (Nat.ne_of_lt (Nat.lt_of_lt_of_le f75.lt (Nat.le_of_eq g88.symm)))))
  have f144 := f109_3.other W127 (Or.inl (Ne.symm (Nat.ne_of_lt (Nat.lt_of_lt_of_le f75.lt (Nat.le_of_eq g88.symm)))))
  have Zs145 : n0 ≤ h127.size := (Nat.le_trans Zs125 (Keep.of_wr W127).1)
  have K146 : Keep h0 h127 [a1] := K126.wr W127 (Or.inl (List.mem_of_getElem? (i := 0) rfl))
  have f147 := f113.same W127
  have N148 := Fr.snoc X127 N109 g_a1
  refine g_aloadN 38 X127 hx (hb hby d1_37) rfl (v := (.ref a1)) rfl rfl ?_
  refine g_lloadN 39 X127 hx (hb hby d1_38) rfl (v := q2) rfl ?_
  refine g_putF 42 X127 hx hZ hown (hw _ (List.mem_of_getElem? (i := 31) rfl)) Via.refl e127 f131 f128 (Or.inl (hw _ (List.mem_of_getElem? (i := 32) rfl))) (hw _ (List.mem_of_getElem? (i := 1) rfl)) (ty := .long) (by decide) rfl rfl (hb hby d1_39) rfl ?_
  intro T149 h149 X149 e149 W149
  have f150 := f128.wr W149
  have f151 := f129.other W149 (Or.inr (slot_ne (Or.inr (hw _ (List.mem_of_getElem? (i := 26) rfl))) (Or.inl (hw _ (List.mem_of_getElem? (i := 32) rfl))) (by decide) (t := (.object "java/util/Map")) (t' := .long) (by decide) (by decide)))
  have f152 := f130.other W149 (Or.inr (slot_ne (Or.inr (hw _ (List.mem_of_getElem? (i := 28) rfl))) (Or.inl (hw _ (List.mem_of_getElem? (i := 32) rfl))) (by decide) (t := (.object "java/util/Map")) (t' := .long) (by decide) (by decide)))
  have f153 := f147.other W149 (Or.inr (slot_ne (Or.inr (hw _ (List.mem_of_getElem? (i := 30) rfl))) (Or.inl (hw _ (List.mem_of_getElem? (i := 32) rfl))) (by decide) (t := (.object "java/util/Map")) (t' := .long) (by decide) (by decide)))
  have f154 := f132.other W149 (Or.inr (slot_ne (Or.inl (hw _ (List.mem_of_getElem? (i := 34) rfl))) (Or.inl (hw _ (List.mem_of_getElem? (i := 32) rfl))) (by decide) (t := (.object "java/util/Set")) (t' := .long) (by decide) (by decide)))
  have f155 := f133.wr W149
  have f156 := f134.other W149 (Or.inl (Ne.symm (Nat.ne_of_lt (Nat.lt_of_lt_of_le i5.lt (Nat.le_of_eq g2.symm)))))
  have f157 := f135.other W149 (Or.inl (Ne.symm (Nat.ne_of_lt (Nat.lt_of_lt_of_le i5.lt (Nat.le_of_eq g2.symm)))))
  have f158 := f136.other W149 (Or.inl (Ne.symm (Nat.ne_of_lt (Nat.lt_of_lt_of_le i5.lt (Nat.le_of_eq g2.symm)))))
  have f159 := f137.wr W149
  have f160 := f138.other W149 (Or.inl (Ne.symm (Nat.ne_of_lt (Nat.lt_of_lt_of_le f30.lt (Nat.le_of_eq g39.symm)))))
  have f161 := f139.other W149 (Or.inl (Ne.symm (Nat.ne_of_lt (Nat.lt_of_lt_of_le f30.lt (Nat.le_of_eq g39.symm)))))
  have f162 := f140.other W149 (Or.inl (Ne.symm (Nat.ne_of_lt (Nat.lt_of_lt_of_le f30.lt (Nat.le_of_eq g39.symm)))))
  have f163 := f141.wr W149
  have f164 := f142.other W149 (Or.inl (Ne.symm (Nat.ne_of_lt (Nat.lt_of_lt_of_le f75.lt (Nat.le_of_eq g88.symm)))))
  have f165 := f143.other W149 (Or.inl (Ne.symm (Nat.ne_of_lt (Nat.lt_of_lt_of_le f75.lt (Nat.le_of_eq g88.symm)))))
  have f166 := f144.other W149 (Or.inl (Ne.symm (Nat.ne_of_lt (Nat.lt_of_lt_of_le f75.lt (Nat.le_of_eq g88.symm)))))
  have Zs167 : n0 ≤ h149.size := (Nat.le_trans Zs145 (Keep.of_wr W149).1)
  have K168 : Keep h0 h149 [a1] := K146.wr W149 (Or.inl (List.mem_of_getElem? (i := 0) rfl))
  have f169 := f131.same W149
  have N170 := Fr.snoc X149 N148 g_a1
  refine g_aloadN 43 X149 hx (hb hby d1_42) rfl (v := (.ref a1)) rfl rfl ?_
  refine g_iloadN 44 X149 hx (hb hby d1_43) rfl (v := (1 : Int32)) rfl ?_
  refine g_ifNo 47 X149 hx (hb hby d1_44)  ((if0 _ _).trans (feq (by decide : ¬ ((1 : Int32) = (0 : Int32)))).1) rfl ?_
  refine g_newO 50 X149 hx hZ hown (hw _ (List.mem_of_getElem? (i := 138) rfl)) (hw _ (List.mem_of_getElem? (i := 139) rfl)) (hw _ (List.mem_of_getElem? (i := 140) rfl)) e149 (hb hby d1_47) (by decide) (by decide) rfl ?_
  intro T171 h171 b171 X171 e171 E171 g171 A171 D171
  have f172 := f150.ext E171
  have f173 := f151.ext E171
  have f174 := f152.ext E171
  have f175 := f153.ext E171
  have f176 := f169.ext E171
  have f177 := f154.ext E171
  have f178 := f155.ext E171
  have f179 := f156.ext E171
  have f180 := f157.ext E171
  have f181 := f158.ext E171
  have f182 := f159.ext E171
  have f183 := f160.ext E171
  have f184 := f161.ext E171
  have f185 := f162.ext E171
  have f186 := f163.ext E171
  have f187 := f164.ext E171
  have f188 := f165.ext E171
  have f189 := f166.ext E171
  have Zs190 : n0 ≤ h171.size := (Nat.le_trans Zs167 E171.1)
  have K191 : Keep h0 h171 [a1] := K168.ext E171
  have g_b171 : n0 ≤ b171 := Nat.le_trans Zs167 (Nat.le_of_eq g171.symm)
  have sz_b171 : h0.size ≤ b171 := Nat.le_trans K168.1 (Nat.le_of_eq g171.symm)
  have f192 : Fld Z h171 b171 "java/util/HashSet" "map" "Ljava/util/HashMap;" .null := D171 (Or.inl (hw _ (List.mem_of_getElem? (i := 156) rfl))) (ty := (.object "java/util/HashMap")) (by decide)
  refine g_dup 51 X171 hx (hb hby d1_50) rfl rfl ?_
  refine g_callI 54 X171 hx hZ (y := (⟨"java/util/HashSet", "<init>", "()V"⟩ : MethodName)) rfl hown (hw _ (List.mem_of_getElem? (i := 141) rfl)) (hw _ (List.mem_of_getElem? (i := 142) rfl)) (hw _ (List.mem_of_getElem? (i := 140) rfl)) (hw _ (List.mem_of_getElem? (i := 143) rfl)) (by decide) e171 (rm16 l Z a0 hw [] b171  h171 n0 Zs190 A171 f192 g_b171) (by rw [hml]; rfl) b171 [] [(.ref b171), (.ref a1)] rfl rfl (lenOf pd_0 rfl) 2 (Nat.le_of_eq rfl) (hb hby d1_51) (by decide) (by decide) (by decide) (by decide) rfl ?_
  intro v193 T193 L193 X193 hQ193
  obtain ⟨rfl, N193q, K193, f193_0⟩ := hQ193
  have N193 := Fr.app N170 N193q
  have f194 := f172.keep K193
  have f195 := f173.keep K193 (ninS (Nat.ne_of_lt (Nat.lt_of_lt_of_le f154.lt (Nat.le_of_eq g171.symm))) nin0)
  have f196 := f174.keep K193 (ninS (Nat.ne_of_lt (Nat.lt_of_lt_of_le f154.lt (Nat.le_of_eq g171.symm))) nin0)
  have f197 := f175.keep K193 (ninS (Nat.ne_of_lt (Nat.lt_of_lt_of_le f154.lt (Nat.le_of_eq g171.symm))) nin0)
  have f198 := f176.keep K193 (ninS (Nat.ne_of_lt (Nat.lt_of_lt_of_le f154.lt (Nat.le_of_eq g171.symm))) nin0)
  have f199 := f177.keep K193 (ninS (Nat.ne_of_lt (Nat.lt_of_lt_of_le f154.lt (Nat.le_of_eq g171.symm))) nin0)
  have f200 := f178.keep K193
  have f201 := f179.keep K193 (ninS (Nat.ne_of_lt (Nat.lt_of_lt_of_le f158.lt (Nat.le_of_eq g171.symm))) nin0)
  have f202 := f180.keep K193 (ninS (Nat.ne_of_lt (Nat.lt_of_lt_of_le f158.lt (Nat.le_of_eq g171.symm))) nin0)
  have f203 := f181.keep K193 (ninS (Nat.ne_of_lt (Nat.lt_of_lt_of_le f158.lt (Nat.le_of_eq g171.symm))) nin0)
  have f204 := f182.keep K193
  have f205 := f183.keep K193 (ninS (Nat.ne_of_lt (Nat.lt_of_lt_of_le f162.lt (Nat.le_of_eq g171.symm))) nin0)
  have f206 := f184.keep K193 (ninS (Nat.ne_of_lt (Nat.lt_of_lt_of_le f162.lt (Nat.le_of_eq g171.symm))) nin0)
  have f207 := f185.keep K193 (ninS (Nat.ne_of_lt (Nat.lt_of_lt_of_le f162.lt (Nat.le_of_eq g171.symm))) nin0)
  have f208 := f186.keep K193
  have f209 := f187.keep K193 (ninS (Nat.ne_of_lt (Nat.lt_of_lt_of_le f166.lt (Nat.le_of_eq g171.symm))) nin0)
  have f210 := f188.keep K193 (ninS (Nat.ne_of_lt (Nat.lt_of_lt_of_le f166.lt (Nat.le_of_eq g171.symm))) nin0)
  have f211 := f189.keep K193 (ninS (Nat.ne_of_lt (Nat.lt_of_lt_of_le f166.lt (Nat.le_of_eq g171.symm))) nin0)
  have f212 := A171.keep K193
  have Zs213 : n0 ≤ T193.heap.size := (Nat.le_trans Zs190 K193.1)
  have K214 : Keep h0 T193.heap [a1] := K191.trans K193 (allS (Or.inr sz_b171) all0)
  show Go p e below s ({ frames := 4, cells := 5, slots := 33, locals := 52 } : Room).cells ({ frames := 4, cells := 5, slots := 33, locals := 52 } : Room).slots (Q1w Z a1 q2 h0 n0) T193 (mkF m 54 #[.val (.ref a1), .val (.long q2), .second, .val (.int (1 : Int32))] [(.ref b171), (.ref a1)])
  refine g_goto 58 X193 hx (hb hby d1_54) (by decide) (by decide) ?_
  refine g_putF 61 X193 hx hZ hown (hw _ (List.mem_of_getElem? (i := 33) rfl)) Via.refl rfl f199 f194 (Or.inl (hw _ (List.mem_of_getElem? (i := 34) rfl))) (hw _ (List.mem_of_getElem? (i := 1) rfl)) (ty := (.object "java/util/Set")) (by decide) rfl rfl (hb hby d1_58) rfl ?_
  intro T215 h215 X215 e215 W215
  have f216 := f194.wr W215
  have f217 := f195.other W215 (Or.inr (slot_ne (Or.inr (hw _ (List.mem_of_getElem? (i := 26) rfl))) (Or.inl (hw _ (List.mem_of_getElem? (i := 34) rfl))) (by decide) (t := (.object "java/util/Map")) (t' := (.object "java/util/Set")) (by decide) (by decide)))
  have f218 := f196.other W215 (Or.inr (slot_ne (Or.inr (hw _ (List.mem_of_getElem? (i := 28) rfl))) (Or.inl (hw _ (List.mem_of_getElem? (i := 34) rfl))) (by decide) (t := (.object "java/util/Map")) (t' := (.object "java/util/Set")) (by decide) (by decide)))
  have f219 := f197.other W215 (Or.inr (slot_ne (Or.inr (hw _ (List.mem_of_getElem? (i := 30) rfl))) (Or.inl (hw _ (List.mem_of_getElem? (i := 34) rfl))) (by decide) (t := (.object "java/util/Map")) (t' := (.object "java/util/Set")) (by decide) (by decide)))
  have f220 := f198.other W215 (Or.inr (slot_ne (Or.inl (hw _ (List.mem_of_getElem? (i := 32) rfl))) (Or.inl (hw _ (List.mem_of_getElem? (i := 34) rfl))) (by decide) (t := .long) (t' := (.object "java/util/Set")) (by decide) (by decide)))
  have f221 := f200.wr W215
  have f222 := f201.other W215 (Or.inl (Ne.symm (Nat.ne_of_lt (Nat.lt_of_lt_of_le i5.lt (Nat.le_of_eq g2.symm)))))
  have f223 := f202.other W215 (Or.inl (Ne.symm (Nat.ne_of_lt (Nat.lt_of_lt_of_le i5.lt (Nat.le_of_eq g2.symm)))))
  have f224 := f203.other W215 (Or.inl (Ne.symm (Nat.ne_of_lt (Nat.lt_of_lt_of_le i5.lt (Nat.le_of_eq g2.symm)))))
  have f225 := f204.wr W215
  have f226 := f205.other W215 (Or.inl (Ne.symm (Nat.ne_of_lt (Nat.lt_of_lt_of_le f30.lt (Nat.le_of_eq g39.symm)))))
  have f227 := f206.other W215 (Or.inl (Ne.symm (Nat.ne_of_lt (Nat.lt_of_lt_of_le f30.lt (Nat.le_of_eq g39.symm)))))
  have f228 := f207.other W215 (Or.inl (Ne.symm (Nat.ne_of_lt (Nat.lt_of_lt_of_le f30.lt (Nat.le_of_eq g39.symm)))))
  have f229 := f208.wr W215
  have f230 := f209.other W215 (Or.inl (Ne.symm (Nat.ne_of_lt (Nat.lt_of_lt_of_le f75.lt (Nat.le_of_eq g88.symm)))))
  have f231 := f210.other W215 (Or.inl (Ne.symm (Nat.ne_of_lt (Nat.lt_of_lt_of_le f75.lt (Nat.le_of_eq g88.symm)))))
  have f232 := f211.other W215 (Or.inl (Ne.symm (Nat.ne_of_lt (Nat.lt_of_lt_of_le f75.lt (Nat.le_of_eq g88.symm)))))
  have f233 := f193_0.wr W215
  have Zs234 : n0 ≤ h215.size := (Nat.le_trans Zs213 (Keep.of_wr W215).1)
  have K235 : Keep h0 h215 [a1] := K214.wr W215 (Or.inl (List.mem_of_getElem? (i := 0) rfl))
  have f236 := f199.same W215
  have N237 := Fr.snoc X215 N193 g_a1
  exact g_ret0 X215 hx Bd.returns hlk (hb hby d1_61) (by decide) (by decide) (by
      show Q1w Z a1 q2 h0 n0 _ T215.heap _
      rw [e215]
      exact ⟨b2, b171, rfl, N237, K235, g_b2, sz_b2, g_b171, sz_b171, f216, f236, f217, f221, f222, f223, f224⟩)
theorem d5_0 : decode prog_11_method_2_code 0 = .ok (.aload_n 0, 1) := by decide +kernel
theorem d5_1 : decode prog_11_method_2_code 1 = .ok (.getfield 29, 3) := by decide +kernel
theorem d5_4 : decode prog_11_method_2_code 4 = .ok (.ifnull 7, 3) := by decide +kernel
theorem d5_7 : decode prog_11_method_2_code 7 = .ok (.iconst 1, 1) := by decide +kernel
theorem d5_8 : decode prog_11_method_2_code 8 = .ok (.goto 4, 3) := by decide +kernel
theorem d5_11 : decode prog_11_method_2_code 11 = .ok (.iconst 0, 1) := by decide +kernel
theorem d5_12 : decode prog_11_method_2_code 12 = .ok (.ireturn, 1) := by decide +kernel
def Q5n (Z : State) (a1 : Addr) (h0 : Heap) (n0 : Nat) (v : Option Value) (h : Heap) (L : List Loc) : Prop := v = some (.int (0 : Int32)) ∧ Fr n0 L ∧ h = h0
theorem ef_rm5n (m : MethodId) (a1 : Addr) : entryFrame m #[(.ref a1)] 1 = mkF m 0 #[.val (.ref a1)] [] := by first | (simp [entryFrame, mkF, argsToLocals, Value.category]; done) | rfl
set_option maxRecDepth 65536 in
set_option maxHeartbeats 40000000 in
theorem rm5n (l : Launch) (Z : State) (a0 : Array Value) (hw : ∀ d ∈ tables_1, d.before a0 Z = true) (ws : List Jvm.Cond) (a1 : Addr) (h0 : Heap) (n0 : Nat) (Z0 : n0 ≤ h0.size) (i0 : Fld Z h0 a1 "com/example/koord/koord/LockTable" "accounted" "Ljava/util/Set;" .null) :
    MetFree l (⟨"com/example/koord/koord/LockTable", "withholding", "()Z"⟩ : MethodName) (head1 (Jvm.Cond.code (⟨"com/example/koord/koord/LockTable", "withholding", "()Z"⟩ : MethodName) prog_11_method_2_code 1 (some .boolean) :: ws) ({ frames := 0, cells := 0, slots := 0, locals := 0 } : Room)) (fun a U => a = #[(.ref a1)] ∧ Z.Warmed39 U.vm ∧ U.heap = h0) (fun _ _ _ _ _ => True) (fun _ U o U' => ∃ v L, o = .returned v ∧ (Q5n Z a1 h0 n0) v U'.heap L ∧ FrameEnd U o U' L ({ frames := 0, cells := 0, slots := 0, locals := 0 } : Room).cells ({ frames := 0, cells := 0, slots := 0, locals := 0 } : Room).slots) := by
  refine MetFree.of_bodySF (plainFor_of_name pn_7) hisR ?_
  intro p e s m args below meth c s₁ Bd hml0 hP hK
  obtain ⟨rfl, hZ, hh⟩ := hP
  have hx := Bd.exec
  have hby := Bd.bytes
  have hml : c.maxLocals = 1 := hml0
  have hown : s.vm.findClass "com/example/koord/koord/LockTable" = some m.cls := findClass_of_methodNamed Bd.named
  have hnm := (name_of_methodNamed Bd.named Bd.method).1
  have hlk : meth.locks = false := BodyLoose.notSynchronized Bd
  have X0 : Stand p l e ({ frames := 0, cells := 0, slots := 0, locals := 0 } : Room) s m #[(.ref a1)] below meth c s₁ [] 0 0 := Stand.of_body Bd
  have e0 : s₁.heap = h0 := by rw [← hh, Bd.state]; rfl
  have N0 := Fr.nil n0
  show Go p e below s ({ frames := 0, cells := 0, slots := 0, locals := 0 } : Room).cells ({ frames := 0, cells := 0, slots := 0, locals := 0 } : Room).slots (Q5n Z a1 h0 n0) s₁ (entryFrame m #[(.ref a1)] 1)
  rw [ef_rm5n m a1]
  refine g_aloadN 1 X0 hx (hb hby d5_0) rfl (v := (.ref a1)) rfl rfl ?_
  refine g_getF 4 X0 hx hZ hown (hw _ (List.mem_of_getElem? (i := 33) rfl)) Via.refl e0 i0 (hb hby d5_1) rfl ?_
  intro T1 X1 e1
  refine g_ifnullYes 11 X1 hx (b := 0) (hb hby d5_4) (by decide) (by decide) ?_
  refine g_iconst 12 X1 hx (hb hby d5_11) rfl (z := (0 : Int32)) rfl ?_
  exact g_retN X1 hx (t := .boolean) Bd.returns hlk (by simp) rfl (hb hby d5_12) (by decide) (by decide) ⟨rfl, N0, e1⟩
def Q5w (Z : State) (a1 : Addr) (s2 : Addr) (h0 : Heap) (n0 : Nat) (v : Option Value) (h : Heap) (L : List Loc) : Prop := v = some (.int (1 : Int32)) ∧ Fr n0 L ∧ h = h0
theorem ef_rm5w (m : MethodId) (a1 : Addr) : entryFrame m #[(.ref a1)] 1 = mkF m 0 #[.val (.ref a1)] [] := by first | (simp [entryFrame, mkF, argsToLocals, Value.category]; done) | rfl
set_option maxRecDepth 65536 in
set_option maxHeartbeats 40000000 in
theorem rm5w (l : Launch) (Z : State) (a0 : Array Value) (hw : ∀ d ∈ tables_1, d.before a0 Z = true) (ws : List Jvm.Cond) (a1 : Addr) (s2 : Addr) (h0 : Heap) (n0 : Nat) (Z0 : n0 ≤ h0.size) (i0 : Fld Z h0 a1 "com/example/koord/koord/LockTable" "accounted" "Ljava/util/Set;" (.ref s2)) :
    MetFree l (⟨"com/example/koord/koord/LockTable", "withholding", "()Z"⟩ : MethodName) (head1 (Jvm.Cond.code (⟨"com/example/koord/koord/LockTable", "withholding", "()Z"⟩ : MethodName) prog_11_method_2_code 1 (some .boolean) :: ws) ({ frames := 0, cells := 0, slots := 0, locals := 0 } : Room)) (fun a U => a = #[(.ref a1)] ∧ Z.Warmed39 U.vm ∧ U.heap = h0) (fun _ _ _ _ _ => True) (fun _ U o U' => ∃ v L, o = .returned v ∧ (Q5w Z a1 s2 h0 n0) v U'.heap L ∧ FrameEnd U o U' L ({ frames := 0, cells := 0, slots := 0, locals := 0 } : Room).cells ({ frames := 0, cells := 0, slots := 0, locals := 0 } : Room).slots) := by
  refine MetFree.of_bodySF (plainFor_of_name pn_7) hisR ?_
  intro p e s m args below meth c s₁ Bd hml0 hP hK
  obtain ⟨rfl, hZ, hh⟩ := hP
  have hx := Bd.exec
  have hby := Bd.bytes
  have hml : c.maxLocals = 1 := hml0
  have hown : s.vm.findClass "com/example/koord/koord/LockTable" = some m.cls := findClass_of_methodNamed Bd.named
  have hnm := (name_of_methodNamed Bd.named Bd.method).1
  have hlk : meth.locks = false := BodyLoose.notSynchronized Bd
  have X0 : Stand p l e ({ frames := 0, cells := 0, slots := 0, locals := 0 } : Room) s m #[(.ref a1)] below meth c s₁ [] 0 0 := Stand.of_body Bd
  have e0 : s₁.heap = h0 := by rw [← hh, Bd.state]; rfl
  have N0 := Fr.nil n0
  show Go p e below s ({ frames := 0, cells := 0, slots := 0, locals := 0 } : Room).cells ({ frames := 0, cells := 0, slots := 0, locals := 0 } : Room).slots (Q5w Z a1 s2 h0 n0) s₁ (entryFrame m #[(.ref a1)] 1)
  rw [ef_rm5w m a1]
  refine g_aloadN 1 X0 hx (hb hby d5_0) rfl (v := (.ref a1)) rfl rfl ?_
  refine g_getF 4 X0 hx hZ hown (hw _ (List.mem_of_getElem? (i := 33) rfl)) Via.refl e0 i0 (hb hby d5_1) rfl ?_
  intro T1 X1 e1
  refine g_ifnullNo 7 X1 hx (hb hby d5_4) rfl ?_
  refine g_iconst 8 X1 hx (hb hby d5_7) rfl (z := (1 : Int32)) rfl ?_
  refine g_goto 12 X1 hx (hb hby d5_8) (by decide) (by decide) ?_
  exact g_retN X1 hx (t := .boolean) Bd.returns hlk (by simp) rfl (hb hby d5_12) (by decide) (by decide) ⟨rfl, N0, e1⟩
theorem d11_0 : decode jdk_2571_method_1_code 0 = .ok (.aload_n 0, 1) := by decide +kernel
theorem d11_1 : decode jdk_2571_method_1_code 1 = .ok (.aload_n 1, 1) := by decide +kernel
theorem d11_2 : decode jdk_2571_method_1_code 2 = .ok (.putfield 1, 3) := by decide +kernel
theorem d11_5 : decode jdk_2571_method_1_code 5 = .ok (.aload_n 0, 1) := by decide +kernel
theorem d11_6 : decode jdk_2571_method_1_code 6 = .ok (.invokespecial 7, 3) := by decide +kernel
theorem d11_9 : decode jdk_2571_method_1_code 9 = .ok (.return_, 1) := by decide +kernel
def Q11 (Z : State) (a1 : Addr) (a2 : Addr) (h0 : Heap) (n0 : Nat) (v : Option Value) (h : Heap) (L : List Loc) : Prop := v = none ∧ Fr n0 L ∧ Keep h0 h [a1] ∧ Exa Z h a1 "java/util/HashMap$Values" ∧ Fld Z h a1 "java/util/HashMap$Values" "this$0" "Ljava/util/HashMap;" (.ref a2)
theorem pn_8 : plainName "java/util/HashMap$Values" = true := by first | (simp [plainName, overriddenIn]; done) | decide +kernel
theorem ef_rm11 (m : MethodId) (a1 : Addr) (a2 : Addr) : entryFrame m #[(.ref a1), (.ref a2)] 2 = mkF m 0 #[.val (.ref a1), .val (.ref a2)] [] := by first | (simp [entryFrame, mkF, argsToLocals, Value.category]; done) | rfl
set_option maxRecDepth 65536 in
set_option maxHeartbeats 40000000 in
theorem rm11 (l : Launch) (Z : State) (a0 : Array Value) (hw : ∀ d ∈ tables_1, d.before a0 Z = true) (ws : List Jvm.Cond) (a1 : Addr) (a2 : Addr) (h0 : Heap) (n0 : Nat) (Z0 : n0 ≤ h0.size) (i0 : Exa Z h0 a1 "java/util/HashMap$Values") (i1 : Fld Z h0 a1 "java/util/HashMap$Values" "this$0" "Ljava/util/HashMap;" .null) (g_a1 : n0 ≤ a1) :
    MetFree l (⟨"java/util/HashMap$Values", "<init>", "(Ljava/util/HashMap;)V"⟩ : MethodName) (head1 (Jvm.Cond.code (⟨"java/util/HashMap$Values", "<init>", "(Ljava/util/HashMap;)V"⟩ : MethodName) jdk_2571_method_1_code 2 none :: ws) ({ frames := 2, cells := 0, slots := 0, locals := 24 } : Room)) (fun a U => a = #[(.ref a1), (.ref a2)] ∧ Z.Warmed39 U.vm ∧ U.heap = h0) (fun _ _ _ _ _ => True) (fun _ U o U' => ∃ v L, o = .returned v ∧ (Q11 Z a1 a2 h0 n0) v U'.heap L ∧ FrameEnd U o U' L ({ frames := 2, cells := 0, slots := 0, locals := 24 } : Room).cells ({ frames := 2, cells := 0, slots := 0, locals := 24 } : Room).slots) := by
  refine MetFree.of_bodySF (plainFor_of_name pn_8) hisR ?_
  intro p e s m args below meth c s₁ Bd hml0 hP hK
  obtain ⟨rfl, hZ, hh⟩ := hP
  have hx := Bd.exec
  have hby := Bd.bytes
  have hml : c.maxLocals = 2 := hml0
  have hown : s.vm.findClass "java/util/HashMap$Values" = some m.cls := findClass_of_methodNamed Bd.named
  have hnm := (name_of_methodNamed Bd.named Bd.method).1
  have hlk : meth.locks = false := BodyLoose.notSynchronized Bd
  have X0 : Stand p l e ({ frames := 2, cells := 0, slots := 0, locals := 24 } : Room) s m #[(.ref a1), (.ref a2)] below meth c s₁ [] 0 0 := Stand.of_body Bd
  have e0 : s₁.heap = h0 := by rw [← hh, Bd.state]; rfl
  have N0 := Fr.nil n0
  have K0 := Keep.refl h0 [a1]
  show Go p e below s ({ frames := 2, cells := 0, slots := 0, locals := 24 } : Room).cells ({ frames := 2, cells := 0, slots := 0, locals := 24 } : Room).slots (Q11 Z a1 a2 h0 n0) s₁ (entryFrame m #[(.ref a1), (.ref a2)] 2)
  rw [ef_rm11 m a1 a2]
  refine g_aloadN 1 X0 hx (hb hby d11_0) rfl (v := (.ref a1)) rfl rfl ?_
  refine g_aloadN 2 X0 hx (hb hby d11_1) rfl (v := (.ref a2)) rfl rfl ?_
  refine g_putF 5 X0 hx hZ hown (hw _ (List.mem_of_getElem? (i := 88) rfl)) Via.refl e0 i1 i0 (Or.inr ⟨(hw _ (List.mem_of_getElem? (i := 89) rfl)), rfl, hnm⟩) (hw _ (List.mem_of_getElem? (i := 82) rfl)) (ty := (.object "java/util/HashMap")) (by decide) rfl rfl (hb hby d11_2) rfl ?_
  intro T1 h1 X1 e1 W1
  have f2 := i0.wr W1
  have Zs3 : n0 ≤ h1.size := (Nat.le_trans Z0 (Keep.of_wr W1).1)
  have K4 : Keep h0 h1 [a1] := K0.wr W1 (Or.inl (List.mem_of_getElem? (i := 0) rfl))
  have f5 := i1.same W1
  have N6 := Fr.snoc X1 N0 g_a1
  refine g_aloadN 6 X1 hx (hb hby d11_5) rfl (v := (.ref a1)) rfl rfl ?_
  refine g_callI 9 X1 hx hZ (y := (⟨"java/util/AbstractCollection", "<init>", "()V"⟩ : MethodName)) rfl hown (hw _ (List.mem_of_getElem? (i := 90) rfl)) (hw _ (List.mem_of_getElem? (i := 58) rfl)) (hw _ (List.mem_of_getElem? (i := 61) rfl)) (hw _ (List.mem_of_getElem? (i := 62) rfl)) (by decide) e1 (rm9 l Z a0 hw [] a1  h1 n0 Zs3 ) (by rw [hml]; rfl) a1 [] [] rfl rfl (lenOf pd_0 rfl) 0 (Nat.le_of_eq rfl) (hb hby d11_6) (by decide) (by decide) (by decide) (by decide) rfl ?_
  intro v7 T7 L7 X7 hQ7
  obtain ⟨rfl, N7q, e7⟩ := hQ7
  have N7 := Fr.app N6 N7q
  show Go p e below s ({ frames := 2, cells := 0, slots := 0, locals := 24 } : Room).cells ({ frames := 2, cells := 0, slots := 0, locals := 24 } : Room).slots (Q11 Z a1 a2 h0 n0) T7 (mkF m 9 #[.val (.ref a1), .val (.ref a2)] [])
  exact g_ret0 X7 hx Bd.returns hlk (hb hby d11_9) (by decide) (by decide) (by
      show Q11 Z a1 a2 h0 n0 _ T7.heap _
      rw [e7]
      exact ⟨rfl, N7, K4, f2, f5⟩)
theorem pd_1 : parseMethodDescriptor "(Ljava/util/HashMap;)V" = some ⟨[(.object "java/util/HashMap")], none⟩ := by decide +kernel
theorem d10_0 : decode jdk_69_method_28_code 0 = .ok (.aload_n 0, 1) := by decide +kernel
theorem d10_1 : decode jdk_69_method_28_code 1 = .ok (.getfield 259, 3) := by decide +kernel
theorem d10_4 : decode jdk_69_method_28_code 4 = .ok (.astore_n 1, 1) := by decide +kernel
theorem d10_5 : decode jdk_69_method_28_code 5 = .ok (.aload_n 1, 1) := by decide +kernel
theorem d10_6 : decode jdk_69_method_28_code 6 = .ok (.ifnonnull 17, 3) := by decide +kernel
theorem d10_9 : decode jdk_69_method_28_code 9 = .ok (.new 263, 3) := by decide +kernel
theorem d10_12 : decode jdk_69_method_28_code 12 = .ok (.dup, 1) := by decide +kernel
theorem d10_13 : decode jdk_69_method_28_code 13 = .ok (.aload_n 0, 1) := by decide +kernel
theorem d10_14 : decode jdk_69_method_28_code 14 = .ok (.invokespecial 265, 3) := by decide +kernel
theorem d10_17 : decode jdk_69_method_28_code 17 = .ok (.astore_n 1, 1) := by decide +kernel
theorem d10_18 : decode jdk_69_method_28_code 18 = .ok (.aload_n 0, 1) := by decide +kernel
theorem d10_19 : decode jdk_69_method_28_code 19 = .ok (.aload_n 1, 1) := by decide +kernel
theorem d10_20 : decode jdk_69_method_28_code 20 = .ok (.putfield 259, 3) := by decide +kernel
theorem d10_23 : decode jdk_69_method_28_code 23 = .ok (.aload_n 1, 1) := by decide +kernel
theorem d10_24 : decode jdk_69_method_28_code 24 = .ok (.areturn, 1) := by decide +kernel
def Q10 (Z : State) (a1 : Addr) (h0 : Heap) (n0 : Nat) (v : Option Value) (h : Heap) (L : List Loc) : Prop := ∃ (y0 : Addr), v = some (.ref y0) ∧ Fr n0 L ∧ Keep h0 h [a1] ∧ n0 ≤ y0 ∧ h0.size ≤ y0 ∧ Exa Z h a1 "java/util/HashMap" ∧ Fld Z h a1 "java/util/HashMap" "modCount" "I" (.int (0 : Int32)) ∧ Fld Z h a1 "java/util/HashMap" "table" "[Ljava/util/HashMap$Node;" .null ∧ Exa Z h y0 "java/util/HashMap$Values" ∧ Fld Z h y0 "java/util/HashMap$Values" "this$0" "Ljava/util/HashMap;" (.ref a1)
theorem ef_rm10 (m : MethodId) (a1 : Addr) : entryFrame m #[(.ref a1)] 2 = mkF m 0 #[.val (.ref a1), .unset] [] := by first | (simp [entryFrame, mkF, argsToLocals, Value.category]; done) | rfl
set_option maxRecDepth 65536 in
set_option maxHeartbeats 40000000 in
theorem rm10 (l : Launch) (Z : State) (a0 : Array Value) (hw : ∀ d ∈ tables_1, d.before a0 Z = true) (ws : List Jvm.Cond) (a1 : Addr) (h0 : Heap) (n0 : Nat) (Z0 : n0 ≤ h0.size) (i0 : Exa Z h0 a1 "java/util/HashMap") (i1 : Fld Z h0 a1 "java/util/HashMap" "modCount" "I" (.int (0 : Int32))) (i2 : Fld Z h0 a1 "java/util/HashMap" "table" "[Ljava/util/HashMap$Node;" .null) (i3 : Fld Z h0 a1 "java/util/AbstractMap" "values" "Ljava/util/Collection;" .null) (g_a1 : n0 ≤ a1) :
    MetFree l (⟨"java/util/HashMap", "values", "()Ljava/util/Collection;"⟩ : MethodName) (head1 (Jvm.Cond.code (⟨"java/util/HashMap", "values", "()Ljava/util/Collection;"⟩ : MethodName) jdk_69_method_28_code 2 (some (.object "java/util/Collection")) :: ws) ({ frames := 3, cells := 1, slots := 1, locals := 38 } : Room)) (fun a U => a = #[(.ref a1)] ∧ Z.Warmed39 U.vm ∧ U.heap = h0) (fun _ _ _ _ _ => True) (fun _ U o U' => ∃ v L, o = .returned v ∧ (Q10 Z a1 h0 n0) v U'.heap L ∧ FrameEnd U o U' L ({ frames := 3, cells := 1, slots := 1, locals := 38 } : Room).cells ({ frames := 3, cells := 1, slots := 1, locals := 38 } : Room).slots) := by
  refine MetFree.of_bodySF (plainFor_of_name pn_3) hisR ?_
  intro p e s m args below meth c s₁ Bd hml0 hP hK
  obtain ⟨rfl, hZ, hh⟩ := hP
  have hx := Bd.exec
  have hby := Bd.bytes
  have hml : c.maxLocals = 2 := hml0
  have hown : s.vm.findClass "java/util/HashMap" = some m.cls := findClass_of_methodNamed Bd.named
  have hnm := (name_of_methodNamed Bd.named Bd.method).1
  have hlk : meth.locks = false := BodyLoose.notSynchronized Bd
  have X0 : Stand p l e ({ frames := 3, cells := 1, slots := 1, locals := 38 } : Room) s m #[(.ref a1)] below meth c s₁ [] 0 0 := Stand.of_body Bd
  have e0 : s₁.heap = h0 := by rw [← hh, Bd.state]; rfl
  have N0 := Fr.nil n0
  have K0 := Keep.refl h0 [a1]
  show Go p e below s ({ frames := 3, cells := 1, slots := 1, locals := 38 } : Room).cells ({ frames := 3, cells := 1, slots := 1, locals := 38 } : Room).slots (Q10 Z a1 h0 n0) s₁ (entryFrame m #[(.ref a1)] 2)
  rw [ef_rm10 m a1]
  refine g_aloadN 1 X0 hx (hb hby d10_0) rfl (v := (.ref a1)) rfl rfl ?_
  refine g_getF 4 X0 hx hZ hown (hw _ (List.mem_of_getElem? (i := 78) rfl)) (Via.of (hw _ (List.mem_of_getElem? (i := 79) rfl))) e0 i3 (hb hby d10_1) rfl ?_
  intro T1 X1 e1
  refine g_astoreN 5 X1 hx (hb hby d10_4) rfl (Ls' := #[.val (.ref a1), .val .null]) rfl rfl ?_
  refine g_aloadN 6 X1 hx (hb hby d10_5) rfl (v := .null) rfl rfl ?_
  refine g_ifnonnullNo 9 X1 hx (b := 0) (hb hby d10_6) rfl ?_
  refine g_newO 12 X1 hx hZ hown (hw _ (List.mem_of_getElem? (i := 81) rfl)) (hw _ (List.mem_of_getElem? (i := 82) rfl)) (hw _ (List.mem_of_getElem? (i := 83) rfl)) e1 (hb hby d10_9) (by decide) (by decide) rfl ?_
  intro T2 h2 b2 X2 e2 E2 g2 A2 D2
  have f3 := i0.ext E2
  have f4 := i1.ext E2
  have f5 := i2.ext E2
  have f6 := i3.ext E2
  have Zs7 : n0 ≤ h2.size := (Nat.le_trans Z0 E2.1)
  have K8 : Keep h0 h2 [a1] := K0.ext E2
  have g_b2 : n0 ≤ b2 := Nat.le_trans Z0 (Nat.le_of_eq g2.symm)
  have sz_b2 : h0.size ≤ b2 := Nat.le_trans K0.1 (Nat.le_of_eq g2.symm)
  have f9 : Fld Z h2 b2 "java/util/HashMap$Values" "this$0" "Ljava/util/HashMap;" .null := D2 (Or.inr (hw _ (List.mem_of_getElem? (i := 89) rfl))) (ty := (.object "java/util/HashMap")) (by decide)
  refine g_dup 13 X2 hx (hb hby d10_12) rfl rfl ?_
  refine g_aloadN 14 X2 hx (hb hby d10_13) rfl (v := (.ref a1)) rfl rfl ?_
  refine g_callI 17 X2 hx hZ (y := (⟨"java/util/HashMap$Values", "<init>", "(Ljava/util/HashMap;)V"⟩ : MethodName)) rfl hown (hw _ (List.mem_of_getElem? (i := 84) rfl)) (hw _ (List.mem_of_getElem? (i := 85) rfl)) (hw _ (List.mem_of_getElem? (i := 83) rfl)) (hw _ (List.mem_of_getElem? (i := 87) rfl)) (by decide) e2 (rm11 l Z a0 hw [] b2 a1  h2 n0 Zs7 A2 f9 g_b2) (by rw [hml]; rfl) b2 [(.ref a1)] [(.ref b2)] rfl rfl (lenOf pd_1 rfl) 1 (Nat.le_of_eq rfl) (hb hby d10_14) (by decide) (by decide) (by decide) (by decide) rfl ?_
  intro v10 T10 L10 X10 hQ10
  obtain ⟨rfl, N10q, K10, f10_0, f10_1⟩ := hQ10
  have N10 := Fr.app N0 N10q
  have f11 := f3.keep K10
  have f12 := f4.keep K10 (ninS (Nat.ne_of_lt (Nat.lt_of_lt_of_le i3.lt (Nat.le_of_eq g2.symm))) nin0)
  have f13 := f5.keep K10 (ninS (Nat.ne_of_lt (Nat.lt_of_lt_of_le i3.lt (Nat.le_of_eq g2.symm))) nin0)
  have f14 := f6.keep K10 (ninS (Nat.ne_of_lt (Nat.lt_of_lt_of_le i3.lt (Nat.le_of_eq g2.symm))) nin0)
  have f15 := A2.keep K10
  have Zs16 : n0 ≤ T10.heap.size := (Nat.le_trans Zs7 K10.1)
  have K17 : Keep h0 T10.heap [a1] := K8.trans K10 (allS (Or.inr sz_b2) all0)
  show Go p e below s ({ frames := 3, cells := 1, slots := 1, locals := 38 } : Room).cells ({ frames := 3, cells := 1, slots := 1, locals := 38 } : Room).slots (Q10 Z a1 h0 n0) T10 (mkF m 17 #[.val (.ref a1), .val .null] [(.ref b2)])
  refine g_astoreN 18 X10 hx (hb hby d10_17) rfl (Ls' := #[.val (.ref a1), .val (.ref b2)]) rfl rfl ?_
  refine g_aloadN 19 X10 hx (hb hby d10_18) rfl (v := (.ref a1)) rfl rfl ?_
  refine g_aloadN 20 X10 hx (hb hby d10_19) rfl (v := (.ref b2)) rfl rfl ?_
  refine g_putF 23 X10 hx hZ hown (hw _ (List.mem_of_getElem? (i := 78) rfl)) (Via.of (hw _ (List.mem_of_getElem? (i := 79) rfl))) rfl f14 f11 (Or.inl (hw _ (List.mem_of_getElem? (i := 80) rfl))) (hw _ (List.mem_of_getElem? (i := 10) rfl)) (ty := (.object "java/util/Collection")) (by decide) rfl rfl (hb hby d10_20) rfl ?_
  intro T18 h18 X18 e18 W18
  have f19 := f11.wr W18
  have f20 := f12.other W18 (Or.inr (slot_ne (Or.inl (hw _ (List.mem_of_getElem? (i := 118) rfl))) (Or.inl (hw _ (List.mem_of_getElem? (i := 80) rfl))) (by decide) (t := .int) (t' := (.object "java/util/Collection")) (by decide) (by decide)))
  have f21 := f13.other W18 (Or.inr (slot_ne (Or.inl (hw _ (List.mem_of_getElem? (i := 122) rfl))) (Or.inl (hw _ (List.mem_of_getElem? (i := 80) rfl))) (by decide) (t := (.array (.object "java/util/HashMap$Node"))) (t' := (.object "java/util/Collection")) (by decide) (by decide)))
  have f22 := f10_0.wr W18
  have f23 := f10_1.other W18 (Or.inl (Ne.symm (Nat.ne_of_lt (Nat.lt_of_lt_of_le i3.lt (Nat.le_of_eq g2.symm)))))
  have Zs24 : n0 ≤ h18.size := (Nat.le_trans Zs16 (Keep.of_wr W18).1)
  have K25 : Keep h0 h18 [a1] := K17.wr W18 (Or.inl (List.mem_of_getElem? (i := 0) rfl))
  have f26 := f14.same W18
  have N27 := Fr.snoc X18 N10 g_a1
  refine g_aloadN 24 X18 hx (hb hby d10_23) rfl (v := (.ref b2)) rfl rfl ?_
  exact g_retA X18 hx Bd.returns hlk rfl rfl rfl (hb hby d10_24) (by decide) (by decide) (by
      show Q10 Z a1 h0 n0 _ T18.heap _
      rw [e18]
      exact ⟨b2, rfl, N27, K25, g_b2, sz_b2, f19, f20, f21, f22, f23⟩)
theorem d14_0 : decode jdk_99_method_1_code 0 = .ok (.aload_n 0, 1) := by decide +kernel
theorem d14_1 : decode jdk_99_method_1_code 1 = .ok (.aload_n 1, 1) := by decide +kernel
theorem d14_2 : decode jdk_99_method_1_code 2 = .ok (.putfield 1, 3) := by decide +kernel
theorem d14_5 : decode jdk_99_method_1_code 5 = .ok (.aload_n 0, 1) := by decide +kernel
theorem d14_6 : decode jdk_99_method_1_code 6 = .ok (.invokespecial 7, 3) := by decide +kernel
theorem d14_9 : decode jdk_99_method_1_code 9 = .ok (.aload_n 0, 1) := by decide +kernel
theorem d14_10 : decode jdk_99_method_1_code 10 = .ok (.aload_n 1, 1) := by decide +kernel
theorem d14_11 : decode jdk_99_method_1_code 11 = .ok (.getfield 13, 3) := by decide +kernel
theorem d14_14 : decode jdk_99_method_1_code 14 = .ok (.putfield 19, 3) := by decide +kernel
theorem d14_17 : decode jdk_99_method_1_code 17 = .ok (.aload_n 1, 1) := by decide +kernel
theorem d14_18 : decode jdk_99_method_1_code 18 = .ok (.getfield 22, 3) := by decide +kernel
theorem d14_21 : decode jdk_99_method_1_code 21 = .ok (.astore_n 2, 1) := by decide +kernel
theorem d14_22 : decode jdk_99_method_1_code 22 = .ok (.aload_n 0, 1) := by decide +kernel
theorem d14_23 : decode jdk_99_method_1_code 23 = .ok (.aload_n 0, 1) := by decide +kernel
theorem d14_24 : decode jdk_99_method_1_code 24 = .ok (.aconst_null, 1) := by decide +kernel
theorem d14_25 : decode jdk_99_method_1_code 25 = .ok (.dup_x1, 1) := by decide +kernel
theorem d14_26 : decode jdk_99_method_1_code 26 = .ok (.putfield 26, 3) := by decide +kernel
theorem d14_29 : decode jdk_99_method_1_code 29 = .ok (.putfield 30, 3) := by decide +kernel
theorem d14_32 : decode jdk_99_method_1_code 32 = .ok (.aload_n 0, 1) := by decide +kernel
theorem d14_33 : decode jdk_99_method_1_code 33 = .ok (.iconst 0, 1) := by decide +kernel
theorem d14_34 : decode jdk_99_method_1_code 34 = .ok (.putfield 33, 3) := by decide +kernel
theorem d14_37 : decode jdk_99_method_1_code 37 = .ok (.aload_n 2, 1) := by decide +kernel
theorem d14_38 : decode jdk_99_method_1_code 38 = .ok (.ifnull 40, 3) := by decide +kernel
theorem d14_41 : decode jdk_99_method_1_code 41 = .ok (.aload_n 1, 1) := by decide +kernel
theorem d14_42 : decode jdk_99_method_1_code 42 = .ok (.getfield 36, 3) := by decide +kernel
theorem d14_45 : decode jdk_99_method_1_code 45 = .ok (.ifCond .le 33, 3) := by decide +kernel
theorem d14_48 : decode jdk_99_method_1_code 48 = .ok (.aload_n 0, 1) := by decide +kernel
theorem d14_49 : decode jdk_99_method_1_code 49 = .ok (.getfield 33, 3) := by decide +kernel
theorem d14_52 : decode jdk_99_method_1_code 52 = .ok (.aload_n 2, 1) := by decide +kernel
theorem d14_53 : decode jdk_99_method_1_code 53 = .ok (.arraylength, 1) := by decide +kernel
theorem d14_54 : decode jdk_99_method_1_code 54 = .ok (.if_icmp .ge 24, 3) := by decide +kernel
theorem d14_57 : decode jdk_99_method_1_code 57 = .ok (.aload_n 0, 1) := by decide +kernel
theorem d14_58 : decode jdk_99_method_1_code 58 = .ok (.aload_n 2, 1) := by decide +kernel
theorem d14_59 : decode jdk_99_method_1_code 59 = .ok (.aload_n 0, 1) := by decide +kernel
theorem d14_60 : decode jdk_99_method_1_code 60 = .ok (.dup, 1) := by decide +kernel
theorem d14_61 : decode jdk_99_method_1_code 61 = .ok (.getfield 33, 3) := by decide +kernel
theorem d14_64 : decode jdk_99_method_1_code 64 = .ok (.dup_x1, 1) := by decide +kernel
theorem d14_65 : decode jdk_99_method_1_code 65 = .ok (.iconst 1, 1) := by decide +kernel
theorem d14_66 : decode jdk_99_method_1_code 66 = .ok (.iadd, 1) := by decide +kernel
theorem d14_67 : decode jdk_99_method_1_code 67 = .ok (.putfield 33, 3) := by decide +kernel
theorem d14_70 : decode jdk_99_method_1_code 70 = .ok (.aaload, 1) := by decide +kernel
theorem d14_71 : decode jdk_99_method_1_code 71 = .ok (.dup_x1, 1) := by decide +kernel
theorem d14_72 : decode jdk_99_method_1_code 72 = .ok (.putfield 26, 3) := by decide +kernel
theorem d14_75 : decode jdk_99_method_1_code 75 = .ok (.ifnull (-27), 3) := by decide +kernel
theorem d14_78 : decode jdk_99_method_1_code 78 = .ok (.return_, 1) := by decide +kernel
def Q14 (Z : State) (a1 : Addr) (a2 : Addr) (h0 : Heap) (n0 : Nat) (v : Option Value) (h : Heap) (L : List Loc) : Prop := v = none ∧ Fr n0 L ∧ Keep h0 h [a1] ∧ Exa Z h a1 "java/util/HashMap$ValueIterator" ∧ Fld Z h a1 "java/util/HashMap$HashIterator" "next" "Ljava/util/HashMap$Node;" .null
theorem pn_9 : plainName "java/util/HashMap$HashIterator" = true := by first | (simp [plainName, overriddenIn]; done) | decide +kernel
theorem ef_rm14 (m : MethodId) (a1 : Addr) (a2 : Addr) : entryFrame m #[(.ref a1), (.ref a2)] 3 = mkF m 0 #[.val (.ref a1), .val (.ref a2), .unset] [] := by first | (simp [entryFrame, mkF, argsToLocals, Value.category]; done) | rfl
set_option maxRecDepth 65536 in
set_option maxHeartbeats 40000000 in
theorem rm14 (l : Launch) (Z : State) (a0 : Array Value) (hw : ∀ d ∈ tables_1, d.before a0 Z = true) (ws : List Jvm.Cond) (a1 : Addr) (a2 : Addr) (h0 : Heap) (n0 : Nat) (Z0 : n0 ≤ h0.size) (i0 : Exa Z h0 a1 "java/util/HashMap$ValueIterator") (i1 : Fld Z h0 a1 "java/util/HashMap$HashIterator" "this$0" "Ljava/util/HashMap;" .null) (i2 : Fld Z h0 a1 "java/util/HashMap$HashIterator" "expectedModCount" "I" (.int (0 : Int32))) (i3 : Fld Z h0 a1 "java/util/HashMap$HashIterator" "next" "Ljava/util/HashMap$Node;" .null) (i4 : Fld Z h0 a1 "java/util/HashMap$HashIterator" "current" "Ljava/util/HashMap$Node;" .null) (i5 : Fld Z h0 a1 "java/util/HashMap$HashIterator" "index" "I" (.int (0 : Int32))) (i6 : Exa Z h0 a2 "java/util/HashMap") (i7 : Fld Z h0 a2 "java/util/HashMap" "modCount" "I" (.int (0 : Int32))) (i8 : Fld Z h0 a2 "java/util/HashMap" "table" "[Ljava/util/HashMap$Node;" .null) (g_a1 : n0 ≤ a1) (ne_a2_a1 : a2 ≠ a1) :
    MetFree l (⟨"java/util/HashMap$HashIterator", "<init>", "(Ljava/util/HashMap;)V"⟩ : MethodName) (head1 (Jvm.Cond.code (⟨"java/util/HashMap$HashIterator", "<init>", "(Ljava/util/HashMap;)V"⟩ : MethodName) jdk_99_method_1_code 3 none :: ws) ({ frames := 1, cells := 0, slots := 0, locals := 12 } : Room)) (fun a U => a = #[(.ref a1), (.ref a2)] ∧ Z.Warmed39 U.vm ∧ U.heap = h0) (fun _ _ _ _ _ => True) (fun _ U o U' => ∃ v L, o = .returned v ∧ (Q14 Z a1 a2 h0 n0) v U'.heap L ∧ FrameEnd U o U' L ({ frames := 1, cells := 0, slots := 0, locals := 12 } : Room).cells ({ frames := 1, cells := 0, slots := 0, locals := 12 } : Room).slots) := by
  refine MetFree.of_bodySF (plainFor_of_name pn_9) hisR ?_
  intro p e s m args below meth c s₁ Bd hml0 hP hK
  obtain ⟨rfl, hZ, hh⟩ := hP
  have hx := Bd.exec
  have hby := Bd.bytes
  have hml : c.maxLocals = 3 := hml0
  have hown : s.vm.findClass "java/util/HashMap$HashIterator" = some m.cls := findClass_of_methodNamed Bd.named
  have hnm := (name_of_methodNamed Bd.named Bd.method).1
  have hlk : meth.locks = false := BodyLoose.notSynchronized Bd
  have X0 : Stand p l e ({ frames := 1, cells := 0, slots := 0, locals := 12 } : Room) s m #[(.ref a1), (.ref a2)] below meth c s₁ [] 0 0 := Stand.of_body Bd
  have e0 : s₁.heap = h0 := by rw [← hh, Bd.state]; rfl
  have N0 := Fr.nil n0
  have K0 := Keep.refl h0 [a1]
  show Go p e below s ({ frames := 1, cells := 0, slots := 0, locals := 12 } : Room).cells ({ frames := 1, cells := 0, slots := 0, locals := 12 } : Room).slots (Q14 Z a1 a2 h0 n0) s₁ (entryFrame m #[(.ref a1), (.ref a2)] 3)
  rw [ef_rm14 m a1 a2]
  refine g_aloadN 1 X0 hx (hb hby d14_0) rfl (v := (.ref a1)) rfl rfl ?_
  refine g_aloadN 2 X0 hx (hb hby d14_1) rfl (v := (.ref a2)) rfl rfl ?_
  refine g_putF 5 X0 hx hZ hown (hw _ (List.mem_of_getElem? (i := 114) rfl)) Via.refl e0 i1 i0 (Or.inr ⟨(hw _ (List.mem_of_getElem? (i := 115) rfl)), rfl, hnm⟩) (hw _ (List.mem_of_getElem? (i := 102) rfl)) (ty := (.object "java/util/HashMap")) (by decide) rfl rfl (hb hby d14_2) rfl ?_
  intro T1 h1 X1 e1 W1
  have f2 := i0.wr W1
  have f3 := i2.other W1 (Or.inr (slot_ne (Or.inl (hw _ (List.mem_of_getElem? (i := 120) rfl))) (Or.inr (hw _ (List.mem_of_getElem? (i := 115) rfl))) (by decide) (t := .int) (t' := (.object "java/util/HashMap")) (by decide) (by decide)))
  have f4 := i3.other W1 (Or.inr (slot_ne (Or.inl (hw _ (List.mem_of_getElem? (i := 124) rfl))) (Or.inr (hw _ (List.mem_of_getElem? (i := 115) rfl))) (by decide) (t := (.object "java/util/HashMap$Node")) (t' := (.object "java/util/HashMap")) (by decide) (by decide)))
  have f5 := i4.other W1 (Or.inr (slot_ne (Or.inl (hw _ (List.mem_of_getElem? (i := 126) rfl))) (Or.inr (hw _ (List.mem_of_getElem? (i := 115) rfl))) (by decide) (t := (.object "java/util/HashMap$Node")) (t' := (.object "java/util/HashMap")) (by decide) (by decide)))
  have f6 := i5.other W1 (Or.inr (slot_ne (Or.inl (hw _ (List.mem_of_getElem? (i := 128) rfl))) (Or.inr (hw _ (List.mem_of_getElem? (i := 115) rfl))) (by decide) (t := .int) (t' := (.object "java/util/HashMap")) (by decide) (by decide)))
  have f7 := i6.wr W1
  have f8 := i7.other W1 (Or.inl ne_a2_a1)
  have f9 := i8.other W1 (Or.inl ne_a2_a1)
  have Zs10 : n0 ≤ h1.size := (Nat.le_trans Z0 (Keep.of_wr W1).1)
  have K11 : Keep h0 h1 [a1] := K0.wr W1 (Or.inl (List.mem_of_getElem? (i := 0) rfl))
  have f12 := i1.same W1
  have N13 := Fr.snoc X1 N0 g_a1
  refine g_aloadN 6 X1 hx (hb hby d14_5) rfl (v := (.ref a1)) rfl rfl ?_
  refine g_initO 9 X1 hx hZ hown (hw _ (List.mem_of_getElem? (i := 116) rfl)) (hw _ (List.mem_of_getElem? (i := 7) rfl)) (hw _ (List.mem_of_getElem? (i := 8) rfl)) e1 (by rw [hml]; rfl) (hb hby d14_6) (by decide) 0 (Nat.le_of_eq rfl) (by decide) rfl ?_
  intro T14 X14 e14
  refine g_aloadN 10 X14 hx (hb hby d14_9) rfl (v := (.ref a1)) rfl rfl ?_
  refine g_aloadN 11 X14 hx (hb hby d14_10) rfl (v := (.ref a2)) rfl rfl ?_
  refine g_getF 14 X14 hx hZ hown (hw _ (List.mem_of_getElem? (i := 117) rfl)) Via.refl e14 f8 (hb hby d14_11) rfl ?_
  intro T15 X15 e15
  refine g_putF 17 X15 hx hZ hown (hw _ (List.mem_of_getElem? (i := 119) rfl)) Via.refl e15 f3 f2 (Or.inl (hw _ (List.mem_of_getElem? (i := 120) rfl))) (hw _ (List.mem_of_getElem? (i := 102) rfl)) (ty := .int) (by decide) rfl rfl (hb hby d14_14) rfl ?_
  intro T16 h16 X16 e16 W16
  have f17 := f2.wr W16
  have f18 := f12.other W16 (Or.inr (slot_ne (Or.inr (hw _ (List.mem_of_getElem? (i := 115) rfl))) (Or.inl (hw _ (List.mem_of_getElem? (i := 120) rfl))) (by decide) (t := (.object "java/util/HashMap")) (t' := .int) (by decide) (by decide)))
  have f19 := f4.other W16 (Or.inr (slot_ne (Or.inl (hw _ (List.mem_of_getElem? (i := 124) rfl))) (Or.inl (hw _ (List.mem_of_getElem? (i := 120) rfl))) (by decide) (t := (.object "java/util/HashMap$Node")) (t' := .int) (by decide) (by decide)))
  have f20 := f5.other W16 (Or.inr (slot_ne (Or.inl (hw _ (List.mem_of_getElem? (i := 126) rfl))) (Or.inl (hw _ (List.mem_of_getElem? (i := 120) rfl))) (by decide) (t := (.object "java/util/HashMap$Node")) (t' := .int) (by decide) (by decide)))
  have f21 := f6.other W16 (Or.inr (slot_ne (Or.inl (hw _ (List.mem_of_getElem? (i := 128) rfl))) (Or.inl (hw _ (List.mem_of_getElem? (i := 120) rfl))) (by decide) (t := .int) (t' := .int) (by decide) (by decide)))
  have f22 := f7.wr W16
  have f23 := f8.other W16 (Or.inl ne_a2_a1)
  have f24 := f9.other W16 (Or.inl ne_a2_a1)
  have Zs25 : n0 ≤ h16.size := (Nat.le_trans Zs10 (Keep.of_wr W16).1)
  have K26 : Keep h0 h16 [a1] := K11.wr W16 (Or.inl (List.mem_of_getElem? (i := 0) rfl))
  have f27 := f3.same W16
  have N28 := Fr.snoc X16 N13 g_a1
  refine g_aloadN 18 X16 hx (hb hby d14_17) rfl (v := (.ref a2)) rfl rfl ?_
  refine g_getF 21 X16 hx hZ hown (hw _ (List.mem_of_getElem? (i := 121) rfl)) Via.refl e16 f24 (hb hby d14_18) rfl ?_
  intro T29 X29 e29
  refine g_astoreN 22 X29 hx (hb hby d14_21) rfl (Ls' := #[.val (.ref a1), .val (.ref a2), .val .null]) rfl rfl ?_
  refine g_aloadN 23 X29 hx (hb hby d14_22) rfl (v := (.ref a1)) rfl rfl ?_
  refine g_aloadN 24 X29 hx (hb hby d14_23) rfl (v := (.ref a1)) rfl rfl ?_
  refine g_aconst_null 25 X29 hx (hb hby d14_24) rfl ?_
  refine g_dup_x1 26 X29 hx (hb hby d14_25) rfl rfl rfl ?_
  refine g_putF 29 X29 hx hZ hown (hw _ (List.mem_of_getElem? (i := 123) rfl)) Via.refl e29 f19 f17 (Or.inl (hw _ (List.mem_of_getElem? (i := 124) rfl))) (hw _ (List.mem_of_getElem? (i := 102) rfl)) (ty := (.object "java/util/HashMap$Node")) (by decide) rfl rfl (hb hby d14_26) rfl ?_
  intro T30 h30 X30 e30 W30
  have f31 := f17.wr W30
  have f32 := f18.other W30 (Or.inr (slot_ne (Or.inr (hw _ (List.mem_of_getElem? (i := 115) rfl))) (Or.inl (hw _ (List.mem_of_getElem? (i := 124) rfl))) (by decide) (t := (.object "java/util/HashMap")) (t' := (.object "java/util/HashMap$Node")) (by decide) (by decide)))
  have f33 := f27.other W30 (Or.inr (slot_ne (Or.inl (hw _ (List.mem_of_getElem? (i := 120) rfl))) (Or.inl (hw _ (List.mem_of_getElem? (i := 124) rfl))) (by decide) (t := .int) (t' := (.object "java/util/HashMap$Node")) (by decide) (by decide)))
  have f34 := f20.other W30 (Or.inr (slot_ne (Or.inl (hw _ (List.mem_of_getElem? (i := 126) rfl))) (Or.inl (hw _ (List.mem_of_getElem? (i := 124) rfl))) (by decide) (t := (.object "java/util/HashMap$Node")) (t' := (.object "java/util/HashMap$Node")) (by decide) (by decide)))
  have f35 := f21.other W30 (Or.inr (slot_ne (Or.inl (hw _ (List.mem_of_getElem? (i := 128) rfl))) (Or.inl (hw _ (List.mem_of_getElem? (i := 124) rfl))) (by decide) (t := .int) (t' := (.object "java/util/HashMap$Node")) (by decide) (by decide)))
  have f36 := f22.wr W30
  have f37 := f23.other W30 (Or.inl ne_a2_a1)
  have f38 := f24.other W30 (Or.inl ne_a2_a1)
  have Zs39 : n0 ≤ h30.size := (Nat.le_trans Zs25 (Keep.of_wr W30).1)
  have K40 : Keep h0 h30 [a1] := K26.wr W30 (Or.inl (List.mem_of_getElem? (i := 0) rfl))
  have f41 := f19.same W30
  have N42 := Fr.snoc X30 N28 g_a1
  refine g_putF 32 X30 hx hZ hown (hw _ (List.mem_of_getElem? (i := 125) rfl)) Via.refl e30 f34 f31 (Or.inl (hw _ (List.mem_of_getElem? (i := 126) rfl))) (hw _ (List.mem_of_getElem? (i := 102) rfl)) (ty := (.object "java/util/HashMap$Node")) (by decide) rfl rfl (hb hby d14_29) rfl ?_
  intro T43 h43 X43 e43 W43
  have f44 := f31.wr W43
  have f45 := f32.other W43 (Or.inr (slot_ne (Or.inr (hw _ (List.mem_of_getElem? (i := 115) rfl))) (Or.inl (hw _ (List.mem_of_getElem? (i := 126) rfl))) (by decide) (t := (.object "java/util/HashMap")) (t' := (.object "java/util/HashMap$Node")) (by decide) (by decide)))
  have f46 := f33.other W43 (Or.inr (slot_ne (Or.inl (hw _ (List.mem_of_getElem? (i := 120) rfl))) (Or.inl (hw _ (List.mem_of_getElem? (i := 126) rfl))) (by decide) (t := .int) (t' := (.object "java/util/HashMap$Node")) (by decide) (by decide)))
  have f47 := f41.other W43 (Or.inr (slot_ne (Or.inl (hw _ (List.mem_of_getElem? (i := 124) rfl))) (Or.inl (hw _ (List.mem_of_getElem? (i := 126) rfl))) (by decide) (t := (.object "java/util/HashMap$Node")) (t' := (.object "java/util/HashMap$Node")) (by decide) (by decide)))
  have f48 := f35.other W43 (Or.inr (slot_ne (Or.inl (hw _ (List.mem_of_getElem? (i := 128) rfl))) (Or.inl (hw _ (List.mem_of_getElem? (i := 126) rfl))) (by decide) (t := .int) (t' := (.object "java/util/HashMap$Node")) (by decide) (by decide)))
  have f49 := f36.wr W43
  have f50 := f37.other W43 (Or.inl ne_a2_a1)
  have f51 := f38.other W43 (Or.inl ne_a2_a1)
  have Zs52 : n0 ≤ h43.size := (Nat.le_trans Zs39 (Keep.of_wr W43).1)
  have K53 : Keep h0 h43 [a1] := K40.wr W43 (Or.inl (List.mem_of_getElem? (i := 0) rfl))
  have f54 := f34.same W43
  have N55 := Fr.snoc X43 N42 g_a1
  refine g_aloadN 33 X43 hx (hb hby d14_32) rfl (v := (.ref a1)) rfl rfl ?_
  refine g_iconst 34 X43 hx (hb hby d14_33) rfl (z := (0 : Int32)) rfl ?_
  refine g_putF 37 X43 hx hZ hown (hw _ (List.mem_of_getElem? (i := 127) rfl)) Via.refl e43 f48 f44 (Or.inl (hw _ (List.mem_of_getElem? (i := 128) rfl))) (hw _ (List.mem_of_getElem? (i := 102) rfl)) (ty := .int) (by decide) rfl rfl (hb hby d14_34) rfl ?_
  intro T56 h56 X56 e56 W56
  have f57 := f44.wr W56
  have f58 := f45.other W56 (Or.inr (slot_ne (Or.inr (hw _ (List.mem_of_getElem? (i := 115) rfl))) (Or.inl (hw _ (List.mem_of_getElem? (i := 128) rfl))) (by decide) (t := (.object "java/util/HashMap")) (t' := .int) (by decide) (by decide)))
  have f59 := f46.other W56 (Or.inr (slot_ne (Or.inl (hw _ (List.mem_of_getElem? (i := 120) rfl))) (Or.inl (hw _ (List.mem_of_getElem? (i := 128) rfl))) (by decide) (t := .int) (t' := .int) (by decide) (by decide)))
  have f60 := f47.other W56 (Or.inr (slot_ne (Or.inl (hw _ (List.mem_of_getElem? (i := 124) rfl))) (Or.inl (hw _ (List.mem_of_getElem? (i := 128) rfl))) (by decide) (t := (.object "java/util/HashMap$Node")) (t' := .int) (by decide) (by decide)))
  have f61 := f54.other W56 (Or.inr (slot_ne (Or.inl (hw _ (List.mem_of_getElem? (i := 126) rfl))) (Or.inl (hw _ (List.mem_of_getElem? (i := 128) rfl))) (by decide) (t := (.object "java/util/HashMap$Node")) (t' := .int) (by decide) (by decide)))
  have f62 := f49.wr W56
  have f63 := f50.other W56 (Or.inl ne_a2_a1)
  have f64 := f51.other W56 (Or.inl ne_a2_a1)
  have Zs65 : n0 ≤ h56.size := (Nat.le_trans Zs52 (Keep.of_wr W56).1)
  have K66 : Keep h0 h56 [a1] := K53.wr W56 (Or.inl (List.mem_of_getElem? (i := 0) rfl))
  have f67 := f48.same W56
  have N68 := Fr.snoc X56 N55 g_a1
  refine g_aloadN 38 X56 hx (hb hby d14_37) rfl (v := .null) rfl rfl ?_
  refine g_ifnullYes 78 X56 hx (b := 0) (hb hby d14_38) (by decide) (by decide) ?_
  exact g_ret0 X56 hx Bd.returns hlk (hb hby d14_78) (by decide) (by decide) (by
      show Q14 Z a1 a2 h0 n0 _ T56.heap _
      rw [e56]
      exact ⟨rfl, N68, K66, f57, f60⟩)
theorem d13_0 : decode jdk_2569_method_1_code 0 = .ok (.aload_n 0, 1) := by decide +kernel
theorem d13_1 : decode jdk_2569_method_1_code 1 = .ok (.aload_n 1, 1) := by decide +kernel
theorem d13_2 : decode jdk_2569_method_1_code 2 = .ok (.invokespecial 1, 3) := by decide +kernel
theorem d13_5 : decode jdk_2569_method_1_code 5 = .ok (.return_, 1) := by decide +kernel
def Q13 (Z : State) (a1 : Addr) (a2 : Addr) (h0 : Heap) (n0 : Nat) (v : Option Value) (h : Heap) (L : List Loc) : Prop := v = none ∧ Fr n0 L ∧ Keep h0 h [a1] ∧ Exa Z h a1 "java/util/HashMap$ValueIterator" ∧ Fld Z h a1 "java/util/HashMap$HashIterator" "next" "Ljava/util/HashMap$Node;" .null
theorem pn_10 : plainName "java/util/HashMap$ValueIterator" = true := by first | (simp [plainName, overriddenIn]; done) | decide +kernel
theorem ef_rm13 (m : MethodId) (a1 : Addr) (a2 : Addr) : entryFrame m #[(.ref a1), (.ref a2)] 2 = mkF m 0 #[.val (.ref a1), .val (.ref a2)] [] := by first | (simp [entryFrame, mkF, argsToLocals, Value.category]; done) | rfl
set_option maxRecDepth 65536 in
set_option maxHeartbeats 40000000 in
theorem rm13 (l : Launch) (Z : State) (a0 : Array Value) (hw : ∀ d ∈ tables_1, d.before a0 Z = true) (ws : List Jvm.Cond) (a1 : Addr) (a2 : Addr) (h0 : Heap) (n0 : Nat) (Z0 : n0 ≤ h0.size) (i0 : Exa Z h0 a1 "java/util/HashMap$ValueIterator") (i1 : Fld Z h0 a1 "java/util/HashMap$HashIterator" "this$0" "Ljava/util/HashMap;" .null) (i2 : Fld Z h0 a1 "java/util/HashMap$HashIterator" "expectedModCount" "I" (.int (0 : Int32))) (i3 : Fld Z h0 a1 "java/util/HashMap$HashIterator" "next" "Ljava/util/HashMap$Node;" .null) (i4 : Fld Z h0 a1 "java/util/HashMap$HashIterator" "current" "Ljava/util/HashMap$Node;" .null) (i5 : Fld Z h0 a1 "java/util/HashMap$HashIterator" "index" "I" (.int (0 : Int32))) (i6 : Exa Z h0 a2 "java/util/HashMap") (i7 : Fld Z h0 a2 "java/util/HashMap" "modCount" "I" (.int (0 : Int32))) (i8 : Fld Z h0 a2 "java/util/HashMap" "table" "[Ljava/util/HashMap$Node;" .null) (g_a1 : n0 ≤ a1) (ne_a2_a1 : a2 ≠ a1) :
    MetFree l (⟨"java/util/HashMap$ValueIterator", "<init>", "(Ljava/util/HashMap;)V"⟩ : MethodName) (head1 (Jvm.Cond.code (⟨"java/util/HashMap$ValueIterator", "<init>", "(Ljava/util/HashMap;)V"⟩ : MethodName) jdk_2569_method_1_code 2 none :: ws) ({ frames := 2, cells := 0, slots := 0, locals := 26 } : Room)) (fun a U => a = #[(.ref a1), (.ref a2)] ∧ Z.Warmed39 U.vm ∧ U.heap = h0) (fun _ _ _ _ _ => True) (fun _ U o U' => ∃ v L, o = .returned v ∧ (Q13 Z a1 a2 h0 n0) v U'.heap L ∧ FrameEnd U o U' L ({ frames := 2, cells := 0, slots := 0, locals := 26 } : Room).cells ({ frames := 2, cells := 0, slots := 0, locals := 26 } : Room).slots) := by
  refine MetFree.of_bodySF (plainFor_of_name pn_10) hisR ?_
  intro p e s m args below meth c s₁ Bd hml0 hP hK
  obtain ⟨rfl, hZ, hh⟩ := hP
  have hx := Bd.exec
  have hby := Bd.bytes
  have hml : c.maxLocals = 2 := hml0
  have hown : s.vm.findClass "java/util/HashMap$ValueIterator" = some m.cls := findClass_of_methodNamed Bd.named
  have hnm := (name_of_methodNamed Bd.named Bd.method).1
  have hlk : meth.locks = false := BodyLoose.notSynchronized Bd
  have X0 : Stand p l e ({ frames := 2, cells := 0, slots := 0, locals := 26 } : Room) s m #[(.ref a1), (.ref a2)] below meth c s₁ [] 0 0 := Stand.of_body Bd
  have e0 : s₁.heap = h0 := by rw [← hh, Bd.state]; rfl
  have N0 := Fr.nil n0
  have K0 := Keep.refl h0 [a1]
  show Go p e below s ({ frames := 2, cells := 0, slots := 0, locals := 26 } : Room).cells ({ frames := 2, cells := 0, slots := 0, locals := 26 } : Room).slots (Q13 Z a1 a2 h0 n0) s₁ (entryFrame m #[(.ref a1), (.ref a2)] 2)
  rw [ef_rm13 m a1 a2]
  refine g_aloadN 1 X0 hx (hb hby d13_0) rfl (v := (.ref a1)) rfl rfl ?_
  refine g_aloadN 2 X0 hx (hb hby d13_1) rfl (v := (.ref a2)) rfl rfl ?_
  refine g_callI 5 X0 hx hZ (y := (⟨"java/util/HashMap$HashIterator", "<init>", "(Ljava/util/HashMap;)V"⟩ : MethodName)) rfl hown (hw _ (List.mem_of_getElem? (i := 108) rfl)) (hw _ (List.mem_of_getElem? (i := 109) rfl)) (hw _ (List.mem_of_getElem? (i := 112) rfl)) (hw _ (List.mem_of_getElem? (i := 113) rfl)) (by decide) e0 (rm14 l Z a0 hw [] a1 a2  h0 n0 Z0 i0 i1 i2 i3 i4 i5 i6 i7 i8 g_a1 ne_a2_a1) (by rw [hml]; rfl) a1 [(.ref a2)] [] rfl rfl (lenOf pd_1 rfl) 0 (Nat.le_of_eq rfl) (hb hby d13_2) (by decide) (by decide) (by decide) (by decide) rfl ?_
  intro v1 T1 L1 X1 hQ1
  obtain ⟨rfl, N1q, K1, f1_0, f1_1⟩ := hQ1
  have N1 := Fr.app N0 N1q
  have f2 := i0.keep K1
  have f3 := i6.keep K1
  have f4 := i7.keep K1 (ninS ne_a2_a1 nin0)
  have f5 := i8.keep K1 (ninS ne_a2_a1 nin0)
  have Zs6 : n0 ≤ T1.heap.size := (Nat.le_trans Z0 K1.1)
  have K7 : Keep h0 T1.heap [a1] := K0.trans K1 (allS (Or.inl (List.mem_of_getElem? (i := 0) rfl)) all0)
  show Go p e below s ({ frames := 2, cells := 0, slots := 0, locals := 26 } : Room).cells ({ frames := 2, cells := 0, slots := 0, locals := 26 } : Room).slots (Q13 Z a1 a2 h0 n0) T1 (mkF m 5 #[.val (.ref a1), .val (.ref a2)] [])
  exact g_ret0 X1 hx Bd.returns hlk (hb hby d13_5) (by decide) (by decide) (by
      show Q13 Z a1 a2 h0 n0 _ T1.heap _
      skip
      exact ⟨rfl, N1, K7, f1_0, f1_1⟩)
theorem d12_0 : decode jdk_2571_method_4_code 0 = .ok (.new 22, 3) := by decide +kernel
theorem d12_3 : decode jdk_2571_method_4_code 3 = .ok (.dup, 1) := by decide +kernel
theorem d12_4 : decode jdk_2571_method_4_code 4 = .ok (.aload_n 0, 1) := by decide +kernel
theorem d12_5 : decode jdk_2571_method_4_code 5 = .ok (.getfield 1, 3) := by decide +kernel
theorem d12_8 : decode jdk_2571_method_4_code 8 = .ok (.invokespecial 24, 3) := by decide +kernel
theorem d12_11 : decode jdk_2571_method_4_code 11 = .ok (.areturn, 1) := by decide +kernel
def Q12 (Z : State) (a1 : Addr) (m2 : Addr) (h0 : Heap) (n0 : Nat) (v : Option Value) (h : Heap) (L : List Loc) : Prop := ∃ (y0 : Addr), v = some (.ref y0) ∧ Fr n0 L ∧ Keep h0 h [] ∧ n0 ≤ y0 ∧ h0.size ≤ y0 ∧ Exa Z h y0 "java/util/HashMap$ValueIterator" ∧ Fld Z h y0 "java/util/HashMap$HashIterator" "next" "Ljava/util/HashMap$Node;" .null
theorem ef_rm12 (m : MethodId) (a1 : Addr) : entryFrame m #[(.ref a1)] 1 = mkF m 0 #[.val (.ref a1)] [] := by first | (simp [entryFrame, mkF, argsToLocals, Value.category]; done) | rfl
set_option maxRecDepth 65536 in
set_option maxHeartbeats 40000000 in
theorem rm12 (l : Launch) (Z : State) (a0 : Array Value) (hw : ∀ d ∈ tables_1, d.before a0 Z = true) (ws : List Jvm.Cond) (a1 : Addr) (m2 : Addr) (h0 : Heap) (n0 : Nat) (Z0 : n0 ≤ h0.size) (i0 : Fld Z h0 a1 "java/util/HashMap$Values" "this$0" "Ljava/util/HashMap;" (.ref m2)) (i1 : Exa Z h0 m2 "java/util/HashMap") (i2 : Fld Z h0 m2 "java/util/HashMap" "modCount" "I" (.int (0 : Int32))) (i3 : Fld Z h0 m2 "java/util/HashMap" "table" "[Ljava/util/HashMap$Node;" .null) :
    MetFree l (⟨"java/util/HashMap$Values", "iterator", "()Ljava/util/Iterator;"⟩ : MethodName) (head1 (Jvm.Cond.code (⟨"java/util/HashMap$Values", "iterator", "()Ljava/util/Iterator;"⟩ : MethodName) jdk_2571_method_4_code 1 (some (.object "java/util/Iterator")) :: ws) ({ frames := 3, cells := 1, slots := 5, locals := 40 } : Room)) (fun a U => a = #[(.ref a1)] ∧ Z.Warmed39 U.vm ∧ U.heap = h0) (fun _ _ _ _ _ => True) (fun _ U o U' => ∃ v L, o = .returned v ∧ (Q12 Z a1 m2 h0 n0) v U'.heap L ∧ FrameEnd U o U' L ({ frames := 3, cells := 1, slots := 5, locals := 40 } : Room).cells ({ frames := 3, cells := 1, slots := 5, locals := 40 } : Room).slots) := by
  refine MetFree.of_bodySF (plainFor_of_name pn_8) hisR ?_
  intro p e s m args below meth c s₁ Bd hml0 hP hK
  obtain ⟨rfl, hZ, hh⟩ := hP
  have hx := Bd.exec
  have hby := Bd.bytes
  have hml : c.maxLocals = 1 := hml0
  have hown : s.vm.findClass "java/util/HashMap$Values" = some m.cls := findClass_of_methodNamed Bd.named
  have hnm := (name_of_methodNamed Bd.named Bd.method).1
  have hlk : meth.locks = false := BodyLoose.notSynchronized Bd
  have X0 : Stand p l e ({ frames := 3, cells := 1, slots := 5, locals := 40 } : Room) s m #[(.ref a1)] below meth c s₁ [] 0 0 := Stand.of_body Bd
  have e0 : s₁.heap = h0 := by rw [← hh, Bd.state]; rfl
  have N0 := Fr.nil n0
  have K0 := Keep.refl h0 []
  show Go p e below s ({ frames := 3, cells := 1, slots := 5, locals := 40 } : Room).cells ({ frames := 3, cells := 1, slots := 5, locals := 40 } : Room).slots (Q12 Z a1 m2 h0 n0) s₁ (entryFrame m #[(.ref a1)] 1)
  rw [ef_rm12 m a1]
  refine g_newO 3 X0 hx hZ hown (hw _ (List.mem_of_getElem? (i := 101) rfl)) (hw _ (List.mem_of_getElem? (i := 102) rfl)) (hw _ (List.mem_of_getElem? (i := 103) rfl)) e0 (hb hby d12_0) (by decide) (by decide) rfl ?_
  intro T1 h1 b1 X1 e1 E1 g1 A1 D1
  have f2 := i0.ext E1
  have f3 := i1.ext E1
  have f4 := i2.ext E1
  have f5 := i3.ext E1
  have Zs6 : n0 ≤ h1.size := (Nat.le_trans Z0 E1.1)
  have K7 : Keep h0 h1 [] := K0.ext E1
  have g_b1 : n0 ≤ b1 := Nat.le_trans Z0 (Nat.le_of_eq g1.symm)
  have sz_b1 : h0.size ≤ b1 := Nat.le_trans K0.1 (Nat.le_of_eq g1.symm)
  have f8 : Fld Z h1 b1 "java/util/HashMap$HashIterator" "this$0" "Ljava/util/HashMap;" .null := D1 (Or.inr (hw _ (List.mem_of_getElem? (i := 115) rfl))) (ty := (.object "java/util/HashMap")) (by decide)
  have f9 : Fld Z h1 b1 "java/util/HashMap$HashIterator" "expectedModCount" "I" (.int (0 : Int32)) := D1 (Or.inl (hw _ (List.mem_of_getElem? (i := 120) rfl))) (ty := .int) (by decide)
  have f10 : Fld Z h1 b1 "java/util/HashMap$HashIterator" "next" "Ljava/util/HashMap$Node;" .null := D1 (Or.inl (hw _ (List.mem_of_getElem? (i := 124) rfl))) (ty := (.object "java/util/HashMap$Node")) (by decide)
  have f11 : Fld Z h1 b1 "java/util/HashMap$HashIterator" "current" "Ljava/util/HashMap$Node;" .null := D1 (Or.inl (hw _ (List.mem_of_getElem? (i := 126) rfl))) (ty := (.object "java/util/HashMap$Node")) (by decide)
  have f12 : Fld Z h1 b1 "java/util/HashMap$HashIterator" "index" "I" (.int (0 : Int32)) := D1 (Or.inl (hw _ (List.mem_of_getElem? (i := 128) rfl))) (ty := .int) (by decide)
  refine g_dup 4 X1 hx (hb hby d12_3) rfl rfl ?_
  refine g_aloadN 5 X1 hx (hb hby d12_4) rfl (v := (.ref a1)) rfl rfl ?_
  refine g_getF 8 X1 hx hZ hown (hw _ (List.mem_of_getElem? (i := 88) rfl)) Via.refl e1 f2 (hb hby d12_5) rfl ?_
  intro T13 X13 e13
  refine g_callI 11 X13 hx hZ (y := (⟨"java/util/HashMap$ValueIterator", "<init>", "(Ljava/util/HashMap;)V"⟩ : MethodName)) rfl hown (hw _ (List.mem_of_getElem? (i := 104) rfl)) (hw _ (List.mem_of_getElem? (i := 105) rfl)) (hw _ (List.mem_of_getElem? (i := 103) rfl)) (hw _ (List.mem_of_getElem? (i := 107) rfl)) (by decide) e13 (rm13 l Z a0 hw [] b1 m2  h1 n0 Zs6 A1 f8 f9 f10 f11 f12 f3 f4 f5 g_b1 (Nat.ne_of_lt (Nat.lt_of_lt_of_le i3.lt (Nat.le_of_eq g1.symm)))) (by rw [hml]; rfl) b1 [(.ref m2)] [(.ref b1)] rfl rfl (lenOf pd_1 rfl) 1 (Nat.le_of_eq rfl) (hb hby d12_8) (by decide) (by decide) (by decide) (by decide) rfl ?_
  intro v14 T14 L14 X14 hQ14
  obtain ⟨rfl, N14q, K14, f14_0, f14_1⟩ := hQ14
  have N14 := Fr.app N0 N14q
  have f15 := f2.keep K14 (ninS (Nat.ne_of_lt (Nat.lt_of_lt_of_le i0.lt (Nat.le_of_eq g1.symm))) nin0)
  have f16 := f3.keep K14
  have f17 := f4.keep K14 (ninS (Nat.ne_of_lt (Nat.lt_of_lt_of_le i3.lt (Nat.le_of_eq g1.symm))) nin0)
  have f18 := f5.keep K14 (ninS (Nat.ne_of_lt (Nat.lt_of_lt_of_le i3.lt (Nat.le_of_eq g1.symm))) nin0)
  have f19 := A1.keep K14
  have Zs20 : n0 ≤ T14.heap.size := (Nat.le_trans Zs6 K14.1)
  have K21 : Keep h0 T14.heap [] := K7.trans K14 (allS (Or.inr sz_b1) all0)
  show Go p e below s ({ frames := 3, cells := 1, slots := 5, locals := 40 } : Room).cells ({ frames := 3, cells := 1, slots := 5, locals := 40 } : Room).slots (Q12 Z a1 m2 h0 n0) T14 (mkF m 11 #[.val (.ref a1)] [(.ref b1)])
  exact g_retA X14 hx Bd.returns hlk rfl rfl rfl (hb hby d12_11) (by decide) (by decide) (by
      show Q12 Z a1 m2 h0 n0 _ T14.heap _
      skip
      exact ⟨b1, rfl, N14, K21, g_b1, sz_b1, f14_0, f14_1⟩)
theorem d15_0 : decode jdk_99_method_2_code 0 = .ok (.aload_n 0, 1) := by decide +kernel
theorem d15_1 : decode jdk_99_method_2_code 1 = .ok (.getfield 26, 3) := by decide +kernel
theorem d15_4 : decode jdk_99_method_2_code 4 = .ok (.ifnull 7, 3) := by decide +kernel
theorem d15_7 : decode jdk_99_method_2_code 7 = .ok (.iconst 1, 1) := by decide +kernel
theorem d15_8 : decode jdk_99_method_2_code 8 = .ok (.goto 4, 3) := by decide +kernel
theorem d15_11 : decode jdk_99_method_2_code 11 = .ok (.iconst 0, 1) := by decide +kernel
theorem d15_12 : decode jdk_99_method_2_code 12 = .ok (.ireturn, 1) := by decide +kernel
def Q15 (Z : State) (a1 : Addr) (h0 : Heap) (n0 : Nat) (v : Option Value) (h : Heap) (L : List Loc) : Prop := v = some (.int (0 : Int32)) ∧ Fr n0 L ∧ h = h0
theorem ef_rm15 (m : MethodId) (a1 : Addr) : entryFrame m #[(.ref a1)] 1 = mkF m 0 #[.val (.ref a1)] [] := by first | (simp [entryFrame, mkF, argsToLocals, Value.category]; done) | rfl
set_option maxRecDepth 65536 in
set_option maxHeartbeats 40000000 in
theorem rm15 (l : Launch) (Z : State) (a0 : Array Value) (hw : ∀ d ∈ tables_1, d.before a0 Z = true) (ws : List Jvm.Cond) (a1 : Addr) (h0 : Heap) (n0 : Nat) (Z0 : n0 ≤ h0.size) (i0 : Fld Z h0 a1 "java/util/HashMap$HashIterator" "next" "Ljava/util/HashMap$Node;" .null) :
    MetFree l (⟨"java/util/HashMap$HashIterator", "hasNext", "()Z"⟩ : MethodName) (head1 (Jvm.Cond.code (⟨"java/util/HashMap$HashIterator", "hasNext", "()Z"⟩ : MethodName) jdk_99_method_2_code 1 (some .boolean) :: ws) ({ frames := 0, cells := 0, slots := 0, locals := 0 } : Room)) (fun a U => a = #[(.ref a1)] ∧ Z.Warmed39 U.vm ∧ U.heap = h0) (fun _ _ _ _ _ => True) (fun _ U o U' => ∃ v L, o = .returned v ∧ (Q15 Z a1 h0 n0) v U'.heap L ∧ FrameEnd U o U' L ({ frames := 0, cells := 0, slots := 0, locals := 0 } : Room).cells ({ frames := 0, cells := 0, slots := 0, locals := 0 } : Room).slots) := by
  refine MetFree.of_bodySF (plainFor_of_name pn_9) hisR ?_
  intro p e s m args below meth c s₁ Bd hml0 hP hK
  obtain ⟨rfl, hZ, hh⟩ := hP
  have hx := Bd.exec
  have hby := Bd.bytes
  have hml : c.maxLocals = 1 := hml0
  have hown : s.vm.findClass "java/util/HashMap$HashIterator" = some m.cls := findClass_of_methodNamed Bd.named
  have hnm := (name_of_methodNamed Bd.named Bd.method).1
  have hlk : meth.locks = false := BodyLoose.notSynchronized Bd
  have X0 : Stand p l e ({ frames := 0, cells := 0, slots := 0, locals := 0 } : Room) s m #[(.ref a1)] below meth c s₁ [] 0 0 := Stand.of_body Bd
  have e0 : s₁.heap = h0 := by rw [← hh, Bd.state]; rfl
  have N0 := Fr.nil n0
  show Go p e below s ({ frames := 0, cells := 0, slots := 0, locals := 0 } : Room).cells ({ frames := 0, cells := 0, slots := 0, locals := 0 } : Room).slots (Q15 Z a1 h0 n0) s₁ (entryFrame m #[(.ref a1)] 1)
  rw [ef_rm15 m a1]
  refine g_aloadN 1 X0 hx (hb hby d15_0) rfl (v := (.ref a1)) rfl rfl ?_
  refine g_getF 4 X0 hx hZ hown (hw _ (List.mem_of_getElem? (i := 123) rfl)) Via.refl e0 i0 (hb hby d15_1) rfl ?_
  intro T1 X1 e1
  refine g_ifnullYes 11 X1 hx (b := 0) (hb hby d15_4) (by decide) (by decide) ?_
  refine g_iconst 12 X1 hx (hb hby d15_11) rfl (z := (0 : Int32)) rfl ?_
  exact g_retN X1 hx (t := .boolean) Bd.returns hlk (by simp) rfl (hb hby d15_12) (by decide) (by decide) ⟨rfl, N0, e1⟩
theorem pd_2 : parseMethodDescriptor "()Ljava/util/Collection;" = some ⟨[], some (.object "java/util/Collection")⟩ := by decide +kernel
theorem pd_3 : parseMethodDescriptor "()Ljava/util/Iterator;" = some ⟨[], some (.object "java/util/Iterator")⟩ := by decide +kernel
theorem pd_4 : parseMethodDescriptor "()Z" = some ⟨[], some .boolean⟩ := by decide +kernel
theorem d6_0 : decode prog_11_method_12_code 0 = .ok (.aload_n 0, 1) := by decide +kernel
theorem d6_1 : decode prog_11_method_12_code 1 = .ok (.aconst_null, 1) := by decide +kernel
theorem d6_2 : decode prog_11_method_12_code 2 = .ok (.putfield 29, 3) := by decide +kernel
theorem d6_5 : decode prog_11_method_12_code 5 = .ok (.new 198, 3) := by decide +kernel
theorem d6_8 : decode prog_11_method_12_code 8 = .ok (.dup, 1) := by decide +kernel
theorem d6_9 : decode prog_11_method_12_code 9 = .ok (.invokespecial 200, 3) := by decide +kernel
theorem d6_12 : decode prog_11_method_12_code 12 = .ok (.astore_n 1, 1) := by decide +kernel
theorem d6_13 : decode prog_11_method_12_code 13 = .ok (.aload_n 0, 1) := by decide +kernel
theorem d6_14 : decode prog_11_method_12_code 14 = .ok (.getfield 10, 3) := by decide +kernel
theorem d6_17 : decode prog_11_method_12_code 17 = .ok (.invokeinterface 217 1, 5) := by decide +kernel
theorem d6_22 : decode prog_11_method_12_code 22 = .ok (.invokeinterface 221 1, 5) := by decide +kernel
theorem d6_27 : decode prog_11_method_12_code 27 = .ok (.astore_n 2, 1) := by decide +kernel
theorem d6_28 : decode prog_11_method_12_code 28 = .ok (.aload_n 2, 1) := by decide +kernel
theorem d6_29 : decode prog_11_method_12_code 29 = .ok (.invokeinterface 177 1, 5) := by decide +kernel
theorem d6_34 : decode prog_11_method_12_code 34 = .ok (.ifCond .eq 45, 3) := by decide +kernel
theorem d6_37 : decode prog_11_method_12_code 37 = .ok (.aload_n 2, 1) := by decide +kernel
theorem d6_38 : decode prog_11_method_12_code 38 = .ok (.invokeinterface 182 1, 5) := by decide +kernel
theorem d6_43 : decode prog_11_method_12_code 43 = .ok (.checkcast 79, 3) := by decide +kernel
theorem d6_46 : decode prog_11_method_12_code 46 = .ok (.astore_n 3, 1) := by decide +kernel
theorem d6_47 : decode prog_11_method_12_code 47 = .ok (.aload_n 3, 1) := by decide +kernel
theorem d6_48 : decode prog_11_method_12_code 48 = .ok (.getfield 81, 3) := by decide +kernel
theorem d6_51 : decode prog_11_method_12_code 51 = .ok (.ifnonnull 25, 3) := by decide +kernel
theorem d6_54 : decode prog_11_method_12_code 54 = .ok (.aload_n 1, 1) := by decide +kernel
theorem d6_55 : decode prog_11_method_12_code 55 = .ok (.aload_n 0, 1) := by decide +kernel
theorem d6_56 : decode prog_11_method_12_code 56 = .ok (.aload_n 3, 1) := by decide +kernel
theorem d6_57 : decode prog_11_method_12_code 57 = .ok (.aload_n 3, 1) := by decide +kernel
theorem d6_58 : decode prog_11_method_12_code 58 = .ok (.getfield 110, 3) := by decide +kernel
theorem d6_61 : decode prog_11_method_12_code 61 = .ok (.invokevirtual 163, 3) := by decide +kernel
theorem d6_64 : decode prog_11_method_12_code 64 = .ok (.checkcast 67, 3) := by decide +kernel
theorem d6_67 : decode prog_11_method_12_code 67 = .ok (.invokevirtual 124, 3) := by decide +kernel
theorem d6_70 : decode prog_11_method_12_code 70 = .ok (.invokeinterface 224 2, 5) := by decide +kernel
theorem d6_75 : decode prog_11_method_12_code 75 = .ok (.pop, 1) := by decide +kernel
theorem d6_76 : decode prog_11_method_12_code 76 = .ok (.goto (-48), 3) := by decide +kernel
theorem d6_79 : decode prog_11_method_12_code 79 = .ok (.aload_n 1, 1) := by decide +kernel
theorem d6_80 : decode prog_11_method_12_code 80 = .ok (.areturn, 1) := by decide +kernel
def Q6 (Z : State) (a1 : Addr) (m2 : Addr) (u2 : Value) (sd : Addr) (h0 : Heap) (n0 : Nat) (v : Option Value) (h : Heap) (L : List Loc) : Prop := ∃ (y0 : Addr), v = some (.ref y0) ∧ Fr n0 L ∧ Keep h0 h [a1, m2] ∧ n0 ≤ y0 ∧ h0.size ≤ y0 ∧ Exa Z h a1 "com/example/koord/koord/LockTable" ∧ Fld Z h a1 "com/example/koord/koord/LockTable" "accounted" "Ljava/util/Set;" .null ∧ Exa Z h y0 "java/util/ArrayList"
theorem ef_rm6 (m : MethodId) (a1 : Addr) : entryFrame m #[(.ref a1)] 4 = mkF m 0 #[.val (.ref a1), .unset, .unset, .unset] [] := by first | (simp [entryFrame, mkF, argsToLocals, Value.category]; done) | rfl
set_option maxRecDepth 65536 in
set_option maxHeartbeats 40000000 in
theorem rm6 (l : Launch) (Z : State) (a0 : Array Value) (hw : ∀ d ∈ tables_1, d.before a0 Z = true) (ws : List Jvm.Cond) (a1 : Addr) (m2 : Addr) (u2 : Value) (sd : Addr) (h0 : Heap) (n0 : Nat) (Z0 : n0 ≤ h0.size) (i0 : Exa Z h0 a1 "com/example/koord/koord/LockTable") (i1 : Fld Z h0 a1 "com/example/koord/koord/LockTable" "locks" "Ljava/util/Map;" (.ref m2)) (i2 : Fld Z h0 a1 "com/example/koord/koord/LockTable" "accounted" "Ljava/util/Set;" u2) (i3 : Exa Z h0 m2 "java/util/HashMap") (i4 : Fld Z h0 m2 "java/util/HashMap" "modCount" "I" (.int (0 : Int32))) (i5 : Fld Z h0 m2 "java/util/HashMap" "table" "[Ljava/util/HashMap$Node;" .null) (i6 : Fld Z h0 m2 "java/util/AbstractMap" "values" "Ljava/util/Collection;" .null) (i7 : Sta Z h0 "java/util/ArrayList" "DEFAULTCAPACITY_EMPTY_ELEMENTDATA" "[Ljava/lang/Object;" (.ref sd)) (g_a1 : n0 ≤ a1) (g_m2 : n0 ≤ m2) (ne_a1_m2 : a1 ≠ m2) :
    MetFree l (⟨"com/example/koord/koord/LockTable", "grantWithheld", "()Ljava/util/List;"⟩ : MethodName) (head1 (Jvm.Cond.code (⟨"com/example/koord/koord/LockTable", "grantWithheld", "()Ljava/util/List;"⟩ : MethodName) prog_11_method_12_code 4 (some (.object "java/util/List")) :: ws) ({ frames := 4, cells := 3, slots := 9, locals := 52 } : Room)) (fun a U => a = #[(.ref a1)] ∧ Z.Warmed39 U.vm ∧ U.heap = h0) (fun _ _ _ _ _ => True) (fun _ U o U' => ∃ v L, o = .returned v ∧ (Q6 Z a1 m2 u2 sd h0 n0) v U'.heap L ∧ FrameEnd U o U' L ({ frames := 4, cells := 3, slots := 9, locals := 52 } : Room).cells ({ frames := 4, cells := 3, slots := 9, locals := 52 } : Room).slots) := by
  refine MetFree.of_bodySF (plainFor_of_name pn_7) hisR ?_
  intro p e s m args below meth c s₁ Bd hml0 hP hK
  obtain ⟨rfl, hZ, hh⟩ := hP
  have hx := Bd.exec
  have hby := Bd.bytes
  have hml : c.maxLocals = 4 := hml0
  have hown : s.vm.findClass "com/example/koord/koord/LockTable" = some m.cls := findClass_of_methodNamed Bd.named
  have hnm := (name_of_methodNamed Bd.named Bd.method).1
  have hlk : meth.locks = false := BodyLoose.notSynchronized Bd
  have X0 : Stand p l e ({ frames := 4, cells := 3, slots := 9, locals := 52 } : Room) s m #[(.ref a1)] below meth c s₁ [] 0 0 := Stand.of_body Bd
  have e0 : s₁.heap = h0 := by rw [← hh, Bd.state]; rfl
  have N0 := Fr.nil n0
  have K0 := Keep.refl h0 [a1, m2]
  show Go p e below s ({ frames := 4, cells := 3, slots := 9, locals := 52 } : Room).cells ({ frames := 4, cells := 3, slots := 9, locals := 52 } : Room).slots (Q6 Z a1 m2 u2 sd h0 n0) s₁ (entryFrame m #[(.ref a1)] 4)
  rw [ef_rm6 m a1]
  refine g_aloadN 1 X0 hx (hb hby d6_0) rfl (v := (.ref a1)) rfl rfl ?_
  refine g_aconst_null 2 X0 hx (hb hby d6_1) rfl ?_
  refine g_putF 5 X0 hx hZ hown (hw _ (List.mem_of_getElem? (i := 33) rfl)) Via.refl e0 i2 i0 (Or.inl (hw _ (List.mem_of_getElem? (i := 34) rfl))) (hw _ (List.mem_of_getElem? (i := 1) rfl)) (ty := (.object "java/util/Set")) (by decide) rfl rfl (hb hby d6_2) rfl ?_
  intro T1 h1 X1 e1 W1
  have f2 := i0.wr W1
  have f3 := i1.other W1 (Or.inr (slot_ne (Or.inr (hw _ (List.mem_of_getElem? (i := 26) rfl))) (Or.inl (hw _ (List.mem_of_getElem? (i := 34) rfl))) (by decide) (t := (.object "java/util/Map")) (t' := (.object "java/util/Set")) (by decide) (by decide)))
  have f4 := i3.wr W1
  have f5 := i4.other W1 (Or.inl (Ne.symm ne_a1_m2))
  have f6 := i5.other W1 (Or.inl (Ne.symm ne_a1_m2))
  have f7 := i6.other W1 (Or.inl (Ne.symm ne_a1_m2))
  have f8 := i7.wr W1
  have Zs9 : n0 ≤ h1.size := (Nat.le_trans Z0 (Keep.of_wr W1).1)
  have K10 : Keep h0 h1 [a1, m2] := K0.wr W1 (Or.inl (List.mem_of_getElem? (i := 0) rfl))
  have f11 := i2.same W1
  have N12 := Fr.snoc X1 N0 g_a1
  refine g_newO 8 X1 hx hZ hown (hw _ (List.mem_of_getElem? (i := 45) rfl)) (hw _ (List.mem_of_getElem? (i := 46) rfl)) (hw _ (List.mem_of_getElem? (i := 47) rfl)) e1 (hb hby d6_5) (by decide) (by decide) rfl ?_
  intro T13 h13 b13 X13 e13 E13 g13 A13 D13
  have f14 := f2.ext E13
  have f15 := f3.ext E13
  have f16 := f11.ext E13
  have f17 := f4.ext E13
  have f18 := f5.ext E13
  have f19 := f6.ext E13
  have f20 := f7.ext E13
  have f21 := f8.ext E13
  have Zs22 : n0 ≤ h13.size := (Nat.le_trans Zs9 E13.1)
  have K23 : Keep h0 h13 [a1, m2] := K10.ext E13
  have g_b13 : n0 ≤ b13 := Nat.le_trans Zs9 (Nat.le_of_eq g13.symm)
  have sz_b13 : h0.size ≤ b13 := Nat.le_trans K10.1 (Nat.le_of_eq g13.symm)
  have f24 : Fld Z h13 b13 "java/util/AbstractList" "modCount" "I" (.int (0 : Int32)) := D13 (Or.inl (hw _ (List.mem_of_getElem? (i := 65) rfl))) (ty := .int) (by decide)
  have f25 : Fld Z h13 b13 "java/util/ArrayList" "elementData" "[Ljava/lang/Object;" .null := D13 (Or.inl (hw _ (List.mem_of_getElem? (i := 68) rfl))) (ty := (.array (.object "java/lang/Object"))) (by decide)
  refine g_dup 9 X13 hx (hb hby d6_8) rfl rfl ?_
  refine g_callI 12 X13 hx hZ (y := (⟨"java/util/ArrayList", "<init>", "()V"⟩ : MethodName)) rfl hown (hw _ (List.mem_of_getElem? (i := 48) rfl)) (hw _ (List.mem_of_getElem? (i := 49) rfl)) (hw _ (List.mem_of_getElem? (i := 47) rfl)) (hw _ (List.mem_of_getElem? (i := 50) rfl)) (by decide) e13 (rm7 l Z a0 hw [] b13 sd h13 n0 Zs22 A13 f24 f25 f21 g_b13) (by rw [hml]; rfl) b13 [] [(.ref b13)] rfl rfl (lenOf pd_0 rfl) 1 (Nat.le_of_eq rfl) (hb hby d6_9) (by decide) (by decide) (by decide) (by decide) rfl ?_
  intro v26 T26 L26 X26 hQ26
  obtain ⟨rfl, N26q, K26, f26_0⟩ := hQ26
  have N26 := Fr.app N12 N26q
  have f27 := f14.keep K26
  have f28 := f15.keep K26 (ninS (Nat.ne_of_lt (Nat.lt_of_lt_of_le f11.lt (Nat.le_of_eq g13.symm))) nin0)
  have f29 := f16.keep K26 (ninS (Nat.ne_of_lt (Nat.lt_of_lt_of_le f11.lt (Nat.le_of_eq g13.symm))) nin0)
  have f30 := f17.keep K26
  have f31 := f18.keep K26 (ninS (Nat.ne_of_lt (Nat.lt_of_lt_of_le f7.lt (Nat.le_of_eq g13.symm))) nin0)
  have f32 := f19.keep K26 (ninS (Nat.ne_of_lt (Nat.lt_of_lt_of_le f7.lt (Nat.le_of_eq g13.symm))) nin0)
  have f33 := f20.keep K26 (ninS (Nat.ne_of_lt (Nat.lt_of_lt_of_le f7.lt (Nat.le_of_eq g13.symm))) nin0)
  have f34 := own_staKeep f21 K26 (allS ⟨_, A13⟩ all0)
  have f35 := A13.keep K26
  have Zs36 : n0 ≤ T26.heap.size := (Nat.le_trans Zs22 K26.1)
  have K37 : Keep h0 T26.heap [a1, m2] := K23.trans K26 (allS (Or.inr sz_b13) all0)
  show Go p e below s ({ frames := 4, cells := 3, slots := 9, locals := 52 } : Room).cells ({ frames := 4, cells := 3, slots := 9, locals := 52 } : Room).slots (Q6 Z a1 m2 u2 sd h0 n0) T26 (mkF m 12 #[.val (.ref a1), .unset, .unset, .unset] [(.ref b13)])
  refine g_astoreN 13 X26 hx (hb hby d6_12) rfl (Ls' := #[.val (.ref a1), .val (.ref b13), .unset, .unset]) rfl rfl ?_
  refine g_aloadN 14 X26 hx (hb hby d6_13) rfl (v := (.ref a1)) rfl rfl ?_
  refine g_getF 17 X26 hx hZ hown (hw _ (List.mem_of_getElem? (i := 25) rfl)) Via.refl rfl f28 (hb hby d6_14) rfl ?_
  intro T38 X38 e38
  refine g_callF 22 X38 hx hZ (xi := (⟨"java/util/Map", "values", "()Ljava/util/Collection;"⟩ : MethodName)) (y := (⟨"java/util/HashMap", "values", "()Ljava/util/Collection;"⟩ : MethodName)) hown (hw _ (List.mem_of_getElem? (i := 69) rfl)) (hw _ (List.mem_of_getElem? (i := 70) rfl)) (hw _ (List.mem_of_getElem? (i := 71) rfl)) rfl (hw _ (List.mem_of_getElem? (i := 72) rfl)) (hw _ (List.mem_of_getElem? (i := 73) rfl)) (hw _ (List.mem_of_getElem? (i := 74) rfl)) (hw _ (List.mem_of_getElem? (i := 75) rfl)) (hw _ (List.mem_of_getElem? (i := 76) rfl)) (hw _ (List.mem_of_getElem? (i := 11) rfl)) (hw _ (List.mem_of_getElem? (i := 77) rfl)) (by decide) e38 f30 (rm10 l Z a0 hw [] m2  T26.heap n0 Zs36 f30 f31 f32 f33 g_m2) (by rw [hml]; rfl) [] [] rfl rfl (lenOf pd_2 rfl) 0 (Nat.le_of_eq rfl) (hb hby d6_17) (by decide) (by decide) (by decide) (by decide) rfl ?_
  intro v39 T39 L39 X39 hQ39
  obtain ⟨x39_0, rfl, N39q, K39, g_x39_0, szx39_0, f39_0, f39_1, f39_2, f39_3, f39_4⟩ := hQ39
  have N39 := Fr.app N26 N39q
  have sz_x39_0 : h0.size ≤ x39_0 := Nat.le_trans K37.1 szx39_0
  have f40 := f27.keep K39
  have f41 := f28.keep K39 (ninS ne_a1_m2 nin0)
  have f42 := f29.keep K39 (ninS ne_a1_m2 nin0)
  have f43 := f30.keep K39
  have f44 := own_staKeep f34 K39 (allS ⟨_, f30⟩ all0)
  have f45 := f26_0.keep K39
  have Zs46 : n0 ≤ T39.heap.size := (Nat.le_trans Zs36 K39.1)
  have K47 : Keep h0 T39.heap [a1, m2] := K37.trans K39 (allS (Or.inl (List.mem_of_getElem? (i := 1) rfl)) all0)
  show Go p e below s ({ frames := 4, cells := 3, slots := 9, locals := 52 } : Room).cells ({ frames := 4, cells := 3, slots := 9, locals := 52 } : Room).slots (Q6 Z a1 m2 u2 sd h0 n0) T39 (mkF m 22 #[.val (.ref a1), .val (.ref b13), .unset, .unset] [(.ref x39_0)])
  refine g_callF 27 X39 hx hZ (xi := (⟨"java/util/Collection", "iterator", "()Ljava/util/Iterator;"⟩ : MethodName)) (y := (⟨"java/util/HashMap$Values", "iterator", "()Ljava/util/Iterator;"⟩ : MethodName)) hown (hw _ (List.mem_of_getElem? (i := 92) rfl)) (hw _ (List.mem_of_getElem? (i := 93) rfl)) (hw _ (List.mem_of_getElem? (i := 94) rfl)) rfl (hw _ (List.mem_of_getElem? (i := 95) rfl)) (hw _ (List.mem_of_getElem? (i := 96) rfl)) (hw _ (List.mem_of_getElem? (i := 97) rfl)) (hw _ (List.mem_of_getElem? (i := 98) rfl)) (hw _ (List.mem_of_getElem? (i := 99) rfl)) (hw _ (List.mem_of_getElem? (i := 83) rfl)) (hw _ (List.mem_of_getElem? (i := 100) rfl)) (by decide) rfl f39_3 (rm12 l Z a0 hw [] x39_0 m2 T39.heap n0 Zs46 f39_4 f39_0 f39_1 f39_2) (by rw [hml]; rfl) [] [] rfl rfl (lenOf pd_3 rfl) 0 (Nat.le_of_eq rfl) (hb hby d6_22) (by decide) (by decide) (by decide) (by decide) rfl ?_
  intro v48 T48 L48 X48 hQ48
  obtain ⟨x48_0, rfl, N48q, K48, g_x48_0, szx48_0, f48_0, f48_1⟩ := hQ48
  have N48 := Fr.app N39 N48q
  have sz_x48_0 : h0.size ≤ x48_0 := Nat.le_trans K47.1 szx48_0
  have f49 := f40.keep K48
  have f50 := f41.keep K48 nin0
  have f51 := f42.keep K48 nin0
  have f52 := f39_0.keep K48
  have f53 := own_staKeep f44 K48 all0
  have f54 := f45.keep K48
  have f55 := f39_1.keep K48 nin0
  have f56 := f39_2.keep K48 nin0
  have f57 := f39_3.keep K48
  have f58 := f39_4.keep K48 nin0
  have Zs59 : n0 ≤ T48.heap.size := (Nat.le_trans Zs46 K48.1)
  have K60 : Keep h0 T48.heap [a1, m2] := K47.trans K48 all0
  show Go p e below s ({ frames := 4, cells := 3, slots := 9, locals := 52 } : Room).cells ({ frames := 4, cells := 3, slots := 9, locals := 52 } : Room).slots (Q6 Z a1 m2 u2 sd h0 n0) T48 (mkF m 27 #[.val (.ref a1), .val (.ref b13), .unset, .unset] [(.ref x48_0)])
  refine g_astoreN 28 X48 hx (hb hby d6_27) rfl (Ls' := #[.val (.ref a1), .val (.ref b13), .val (.ref x48_0), .unset]) rfl rfl ?_
  refine g_aloadN 29 X48 hx (hb hby d6_28) rfl (v := (.ref x48_0)) rfl rfl ?_
  refine g_callF 34 X48 hx hZ (xi := (⟨"java/util/Iterator", "hasNext", "()Z"⟩ : MethodName)) (y := (⟨"java/util/HashMap$HashIterator", "hasNext", "()Z"⟩ : MethodName)) hown (hw _ (List.mem_of_getElem? (i := 129) rfl)) (hw _ (List.mem_of_getElem? (i := 130) rfl)) (hw _ (List.mem_of_getElem? (i := 131) rfl)) rfl (hw _ (List.mem_of_getElem? (i := 132) rfl)) (hw _ (List.mem_of_getElem? (i := 133) rfl)) (hw _ (List.mem_of_getElem? (i := 134) rfl)) (hw _ (List.mem_of_getElem? (i := 135) rfl)) (hw _ (List.mem_of_getElem? (i := 136) rfl)) (hw _ (List.mem_of_getElem? (i := 112) rfl)) (hw _ (List.mem_of_getElem? (i := 137) rfl)) (by decide) rfl f48_0 (rm15 l Z a0 hw [] x48_0  T48.heap n0 Zs59 f48_1) (by rw [hml]; rfl) [] [] rfl rfl (lenOf pd_4 rfl) 0 (Nat.le_of_eq rfl) (hb hby d6_29) (by decide) (by decide) (by decide) (by decide) rfl ?_
  intro v61 T61 L61 X61 hQ61
  obtain ⟨rfl, N61q, e61⟩ := hQ61
  have N61 := Fr.app N48 N61q
  show Go p e below s ({ frames := 4, cells := 3, slots := 9, locals := 52 } : Room).cells ({ frames := 4, cells := 3, slots := 9, locals := 52 } : Room).slots (Q6 Z a1 m2 u2 sd h0 n0) T61 (mkF m 34 #[.val (.ref a1), .val (.ref b13), .val (.ref x48_0), .unset] [(.int (0 : Int32))])
  refine g_ifYes 79 X61 hx (hb hby d6_34)  ((if0 _ _).trans (teq (rfl : (0 : Int32) = (0 : Int32))).1) (by decide) (by decide) ?_
  refine g_aloadN 80 X61 hx (hb hby d6_79) rfl (v := (.ref b13)) rfl rfl ?_
  exact g_retA X61 hx Bd.returns hlk rfl rfl rfl (hb hby d6_80) (by decide) (by decide) (by
      show Q6 Z a1 m2 u2 sd h0 n0 _ T61.heap _
      rw [e61]
      exact ⟨b13, rfl, N61, K60, g_b13, sz_b13, f49, f51, f54⟩)
theorem pd_5 : parseMethodDescriptor "(JZ)V" = some ⟨[.long, .boolean], none⟩ := by decide +kernel
theorem pd_6 : parseMethodDescriptor "()Ljava/util/List;" = some ⟨[], some (.object "java/util/List")⟩ := by decide +kernel
def Q0 (Z : State) (q1 : Int64) (p2 : Int32) (sd : Addr) (h0 : Heap) (n0 : Nat) (v : Option Value) (h : Heap) (L : List Loc) : Prop := v = some (.int (1 : Int32)) ∧ Fr n0 L
theorem pn_11 : plainName "com/example/koord/koord/LockTableWithholdingPinLaw" = true := by first | (simp [plainName, overriddenIn]; done) | decide +kernel
theorem ef_rm0 (m : MethodId) (q1 : Int64) (p2 : Int32) : entryFrame m #[(.long q1), (.int p2)] maxLocals = mkF m 0 #[.val (.long q1), .second, .val (.int p2), .unset, .unset, .unset, .unset, .unset] [] := by first | (simp [entryFrame, mkF, argsToLocals, Value.category, maxLocals]; done) | rfl
set_option maxRecDepth 65536 in
set_option maxHeartbeats 40000000 in
theorem rm0 (l : Launch) (Z : State) (a0 : Array Value) (hw : ∀ d ∈ tables_1, d.before a0 Z = true) (ws : List Jvm.Cond) (q1 : Int64) (p2 : Int32) (sd : Addr) (h0 : Heap) (n0 : Nat) (Z0 : n0 ≤ h0.size) (SD : Sta Z h0 "java/util/ArrayList" "DEFAULTCAPACITY_EMPTY_ELEMENTDATA" "[Ljava/lang/Object;" (.ref sd)) :
    MetFree l x (head1 (Jvm.Cond.code x code maxLocals ret :: ws) room_1) (fun a U => a = #[(.long q1), (.int p2)] ∧ Z.Warmed39 U.vm ∧ U.heap = h0) (fun _ _ _ _ _ => True) (fun _ U o U' => ∃ v L, o = .returned v ∧ (Q0 Z q1 p2 sd h0 n0) v U'.heap L ∧ FrameEnd U o U' L 32 192) := by
  refine MetFree.of_bodySF (plainFor_of_name pn_11) hisR ?_
  intro p e s m args below meth c s₁ Bd hml0 hP hK
  obtain ⟨rfl, hZ, hh⟩ := hP
  have hx := Bd.exec
  have hby := Bd.bytes
  have hml : c.maxLocals = 8 := hml0
  have hown : s.vm.findClass "com/example/koord/koord/LockTableWithholdingPinLaw" = some m.cls := findClass_of_methodNamed Bd.named
  have hnm := (name_of_methodNamed Bd.named Bd.method).1
  have hlk : meth.locks = false := BodyLoose.notSynchronized Bd
  have X0 : Stand p l e room_1 s m #[(.long q1), (.int p2)] below meth c s₁ [] 0 0 := Stand.of_body Bd
  have e0 : s₁.heap = h0 := by rw [← hh, Bd.state]; rfl
  have N0 := Fr.nil n0
  show Go p e below s 32 192 (Q0 Z q1 p2 sd h0 n0) s₁ (entryFrame m #[(.long q1), (.int p2)] maxLocals)
  rw [ef_rm0 m q1 p2]
  refine g_iloadN 1 X0 hx (hb hby at_0) rfl (v := p2) rfl ?_
  refine g_iconst 2 X0 hx (hb hby at_1) rfl (z := (1 : Int32)) rfl ?_
  obtain ⟨z1, hz1⟩ : ∃ z : Int32, p2 &&& (1 : Int32) = z := ⟨_, rfl⟩
  refine g_iand 3 X0 hx (hb hby at_2) rfl (z := z1) hz1 ?_
  by_cases hc3_1 : z1 = (0 : Int32)
  ·
    refine g_ifYes 10 X0 hx (hb hby at_3)  ((if0 _ _).trans (teq hc3_1).1) (by decide) (by decide) ?_
    refine g_iconst 11 X0 hx (hb hby at_10) rfl (z := (0 : Int32)) rfl ?_
    refine g_istoreN 12 X0 hx (hb hby at_11) rfl (Ls' := #[.val (.long q1), .second, .val (.int p2), .val (.int (0 : Int32)), .unset, .unset, .unset, .unset]) rfl ?_
    refine g_newO 15 X0 hx hZ hown (hw _ (List.mem_of_getElem? (i := 0) rfl)) (hw _ (List.mem_of_getElem? (i := 1) rfl)) (hw _ (List.mem_of_getElem? (i := 2) rfl)) e0 (hb hby at_12) (by decide) (by decide) rfl ?_
    intro T3 h3 b3 X3 e3 E3 g3 A3 D3
    have f4 := SD.ext E3
    have Zs5 : n0 ≤ h3.size := (Nat.le_trans Z0 E3.1)
    have g_b3 : n0 ≤ b3 := Nat.le_trans Z0 (Nat.le_of_eq g3.symm)
    have f6 : Fld Z h3 b3 "com/example/koord/koord/LockTable" "locks" "Ljava/util/Map;" .null := D3 (Or.inr (hw _ (List.mem_of_getElem? (i := 26) rfl))) (ty := (.object "java/util/Map")) (by decide)
    have f7 : Fld Z h3 b3 "com/example/koord/koord/LockTable" "requestsByOwner" "Ljava/util/Map;" .null := D3 (Or.inr (hw _ (List.mem_of_getElem? (i := 28) rfl))) (ty := (.object "java/util/Map")) (by decide)
    have f8 : Fld Z h3 b3 "com/example/koord/koord/LockTable" "holdsByOwner" "Ljava/util/Map;" .null := D3 (Or.inr (hw _ (List.mem_of_getElem? (i := 30) rfl))) (ty := (.object "java/util/Map")) (by decide)
    have f9 : Fld Z h3 b3 "com/example/koord/koord/LockTable" "lastToken" "J" (.long (0 : Int64)) := D3 (Or.inl (hw _ (List.mem_of_getElem? (i := 32) rfl))) (ty := .long) (by decide)
    have f10 : Fld Z h3 b3 "com/example/koord/koord/LockTable" "accounted" "Ljava/util/Set;" .null := D3 (Or.inl (hw _ (List.mem_of_getElem? (i := 34) rfl))) (ty := (.object "java/util/Set")) (by decide)
    refine g_dup 16 X3 hx (hb hby at_15) rfl rfl ?_
    refine g_lloadN 17 X3 hx (hb hby at_16) rfl (v := q1) rfl ?_
    refine g_iloadN 18 X3 hx (hb hby at_17) rfl (v := (0 : Int32)) rfl ?_
    refine g_callI 21 X3 hx hZ (y := (⟨"com/example/koord/koord/LockTable", "<init>", "(JZ)V"⟩ : MethodName)) rfl hown (hw _ (List.mem_of_getElem? (i := 3) rfl)) (hw _ (List.mem_of_getElem? (i := 4) rfl)) (hw _ (List.mem_of_getElem? (i := 2) rfl)) (hw _ (List.mem_of_getElem? (i := 5) rfl)) (by decide) e3 (rm1n l Z a0 hw [] b3 q1  h3 n0 Zs5 A3 f6 f7 f8 f9 f10 g_b3) (by rw [hml]; rfl) b3 [(.long q1), (.int (0 : Int32))] [(.ref b3)] rfl rfl (lenOf pd_5 rfl) 1 (Nat.le_of_eq rfl) (hb hby at_18) (by decide) (by decide) (by decide) (by decide) rfl ?_
    intro v11 T11 L11 X11 hQ11
    obtain ⟨x11_0, rfl, N11q, K11, g_x11_0, szx11_0, f11_0, f11_1, f11_2, f11_3, f11_4, f11_5, f11_6⟩ := hQ11
    have N11 := Fr.app N0 N11q
    have f12 := own_staKeep f4 K11 (allS ⟨_, A3⟩ all0)
    have f13 := A3.keep K11
    have Zs14 : n0 ≤ T11.heap.size := (Nat.le_trans Zs5 K11.1)
    show Go p e below s 32 192 (Q0 Z q1 p2 sd h0 n0) T11 (mkF m 21 #[.val (.long q1), .second, .val (.int p2), .val (.int (0 : Int32)), .unset, .unset, .unset, .unset] [(.ref b3)])
    refine g_astore 23 X11 hx (hb hby at_21) rfl (Ls' := #[.val (.long q1), .second, .val (.int p2), .val (.int (0 : Int32)), .val (.ref b3), .unset, .unset, .unset]) rfl rfl ?_
    refine g_aload 25 X11 hx (hb hby at_23) rfl (v := (.ref b3)) rfl rfl ?_
    refine g_callV 28 X11 hx hZ (y := (⟨"com/example/koord/koord/LockTable", "withholding", "()Z"⟩ : MethodName)) hown (hw _ (List.mem_of_getElem? (i := 35) rfl)) (hw _ (List.mem_of_getElem? (i := 36) rfl)) (hw _ (List.mem_of_getElem? (i := 38) rfl)) (hw _ (List.mem_of_getElem? (i := 37) rfl)) (hw _ (List.mem_of_getElem? (i := 2) rfl)) (hw _ (List.mem_of_getElem? (i := 39) rfl)) (by decide) rfl f11_0 (rm5n l Z a0 hw [] b3  T11.heap n0 Zs14 f11_1) (by rw [hml]; rfl) [] [] rfl rfl (lenOf pd_4 rfl) 0 (Nat.le_of_eq rfl) (hb hby at_25) (by decide) (by decide) (by decide) (by decide) rfl ?_
    intro v15 T15 L15 X15 hQ15
    obtain ⟨rfl, N15q, e15⟩ := hQ15
    have N15 := Fr.app N11 N15q
    show Go p e below s 32 192 (Q0 Z q1 p2 sd h0 n0) T15 (mkF m 28 #[.val (.long q1), .second, .val (.int p2), .val (.int (0 : Int32)), .val (.ref b3), .unset, .unset, .unset] [(.int (0 : Int32))])
    refine g_istore 30 X15 hx (hb hby at_28) rfl (Ls' := #[.val (.long q1), .second, .val (.int p2), .val (.int (0 : Int32)), .val (.ref b3), .val (.int (0 : Int32)), .unset, .unset]) rfl ?_
    refine g_aload 32 X15 hx (hb hby at_30) rfl (v := (.ref b3)) rfl rfl ?_
    refine g_callV 35 X15 hx hZ (y := (⟨"com/example/koord/koord/LockTable", "withholding", "()Z"⟩ : MethodName)) hown (hw _ (List.mem_of_getElem? (i := 35) rfl)) (hw _ (List.mem_of_getElem? (i := 36) rfl)) (hw _ (List.mem_of_getElem? (i := 38) rfl)) (hw _ (List.mem_of_getElem? (i := 37) rfl)) (hw _ (List.mem_of_getElem? (i := 2) rfl)) (hw _ (List.mem_of_getElem? (i := 39) rfl)) (by decide) e15 f11_0 (rm5n l Z a0 hw [] b3  T11.heap n0 Zs14 f11_1) (by rw [hml]; rfl) [] [] rfl rfl (lenOf pd_4 rfl) 0 (Nat.le_of_eq rfl) (hb hby at_32) (by decide) (by decide) (by decide) (by decide) rfl ?_
    intro v16 T16 L16 X16 hQ16
    obtain ⟨rfl, N16q, e16⟩ := hQ16
    have N16 := Fr.app N15 N16q
    show Go p e below s 32 192 (Q0 Z q1 p2 sd h0 n0) T16 (mkF m 35 #[.val (.long q1), .second, .val (.int p2), .val (.int (0 : Int32)), .val (.ref b3), .val (.int (0 : Int32)), .unset, .unset] [(.int (0 : Int32))])
    refine g_istore 37 X16 hx (hb hby at_35) rfl (Ls' := #[.val (.long q1), .second, .val (.int p2), .val (.int (0 : Int32)), .val (.ref b3), .val (.int (0 : Int32)), .val (.int (0 : Int32)), .unset]) rfl ?_
    refine g_aload 39 X16 hx (hb hby at_37) rfl (v := (.ref b3)) rfl rfl ?_
    refine g_callV 42 X16 hx hZ (y := (⟨"com/example/koord/koord/LockTable", "grantWithheld", "()Ljava/util/List;"⟩ : MethodName)) hown (hw _ (List.mem_of_getElem? (i := 40) rfl)) (hw _ (List.mem_of_getElem? (i := 41) rfl)) (hw _ (List.mem_of_getElem? (i := 43) rfl)) (hw _ (List.mem_of_getElem? (i := 42) rfl)) (hw _ (List.mem_of_getElem? (i := 2) rfl)) (hw _ (List.mem_of_getElem? (i := 44) rfl)) (by decide) e16 f11_0 (rm6 l Z a0 hw [] b3 x11_0 .null sd T11.heap n0 Zs14 f11_0 f11_2 f11_1 f11_3 f11_5 f11_6 f11_4 f12 g_b3 g_x11_0 (Nat.ne_of_lt (Nat.lt_of_lt_of_le f10.lt szx11_0))) (by rw [hml]; rfl) [] [] rfl rfl (lenOf pd_6 rfl) 0 (Nat.le_of_eq rfl) (hb hby at_39) (by decide) (by decide) (by decide) (by decide) rfl ?_
    intro v17 T17 L17 X17 hQ17
    obtain ⟨x17_0, rfl, N17q, K17, g_x17_0, szx17_0, f17_0, f17_1, f17_2⟩ := hQ17
    have N17 := Fr.app N16 N17q
    have f18 := own_staKeep f12 K17 (allS ⟨_, f11_0⟩ (allS ⟨_, f11_3⟩ all0))
    have f19 := f11_0.keep K17
    have f20 := f11_3.keep K17
    have Zs21 : n0 ≤ T17.heap.size := (Nat.le_trans Zs14 K17.1)
    show Go p e below s 32 192 (Q0 Z q1 p2 sd h0 n0) T17 (mkF m 42 #[.val (.long q1), .second, .val (.int p2), .val (.int (0 : Int32)), .val (.ref b3), .val (.int (0 : Int32)), .val (.int (0 : Int32)), .unset] [(.ref x17_0)])
    refine g_pop 43 X17 hx (hb hby at_42) rfl rfl ?_
    refine g_aload 45 X17 hx (hb hby at_43) rfl (v := (.ref b3)) rfl rfl ?_
    refine g_callV 48 X17 hx hZ (y := (⟨"com/example/koord/koord/LockTable", "withholding", "()Z"⟩ : MethodName)) hown (hw _ (List.mem_of_getElem? (i := 35) rfl)) (hw _ (List.mem_of_getElem? (i := 36) rfl)) (hw _ (List.mem_of_getElem? (i := 38) rfl)) (hw _ (List.mem_of_getElem? (i := 37) rfl)) (hw _ (List.mem_of_getElem? (i := 2) rfl)) (hw _ (List.mem_of_getElem? (i := 39) rfl)) (by decide) rfl f17_0 (rm5n l Z a0 hw [] b3  T17.heap n0 Zs21 f17_1) (by rw [hml]; rfl) [] [] rfl rfl (lenOf pd_4 rfl) 0 (Nat.le_of_eq rfl) (hb hby at_45) (by decide) (by decide) (by decide) (by decide) rfl ?_
    intro v22 T22 L22 X22 hQ22
    obtain ⟨rfl, N22q, e22⟩ := hQ22
    have N22 := Fr.app N17 N22q
    show Go p e below s 32 192 (Q0 Z q1 p2 sd h0 n0) T22 (mkF m 48 #[.val (.long q1), .second, .val (.int p2), .val (.int (0 : Int32)), .val (.ref b3), .val (.int (0 : Int32)), .val (.int (0 : Int32)), .unset] [(.int (0 : Int32))])
    refine g_istore 50 X22 hx (hb hby at_48) rfl (Ls' := #[.val (.long q1), .second, .val (.int p2), .val (.int (0 : Int32)), .val (.ref b3), .val (.int (0 : Int32)), .val (.int (0 : Int32)), .val (.int (0 : Int32))]) rfl ?_
    refine g_iload 52 X22 hx (hb hby at_50) rfl (v := (0 : Int32)) rfl ?_
    refine g_iloadN 53 X22 hx (hb hby at_52) rfl (v := (0 : Int32)) rfl ?_
    refine g_icmpNo 56 X22 hx (hb hby at_53)  (teq (rfl : (0 : Int32) = (0 : Int32))).2 rfl ?_
    refine g_iload 58 X22 hx (hb hby at_56) rfl (v := (0 : Int32)) rfl ?_
    refine g_iloadN 59 X22 hx (hb hby at_58) rfl (v := (0 : Int32)) rfl ?_
    refine g_icmpNo 62 X22 hx (hb hby at_59)  (teq (rfl : (0 : Int32) = (0 : Int32))).2 rfl ?_
    refine g_iload 64 X22 hx (hb hby at_62) rfl (v := (0 : Int32)) rfl ?_
    refine g_ifNo 67 X22 hx (hb hby at_64)  ((if0 _ _).trans (teq (rfl : (0 : Int32) = (0 : Int32))).2) rfl ?_
    refine g_iconst 68 X22 hx (hb hby at_67) rfl (z := (1 : Int32)) rfl ?_
    refine g_goto 72 X22 hx (hb hby at_68) (by decide) (by decide) ?_
    exact g_retN X22 hx (t := .boolean) Bd.returns hlk (by simp) rfl (hb hby at_72) (by decide) (by decide) ⟨rfl, N22⟩
  ·
    refine g_ifNo 6 X0 hx (hb hby at_3)  ((if0 _ _).trans (feq hc3_1).1) rfl ?_
    refine g_iconst 7 X0 hx (hb hby at_6) rfl (z := (1 : Int32)) rfl ?_
    refine g_goto 11 X0 hx (hb hby at_7) (by decide) (by decide) ?_
    refine g_istoreN 12 X0 hx (hb hby at_11) rfl (Ls' := #[.val (.long q1), .second, .val (.int p2), .val (.int (1 : Int32)), .unset, .unset, .unset, .unset]) rfl ?_
    refine g_newO 15 X0 hx hZ hown (hw _ (List.mem_of_getElem? (i := 0) rfl)) (hw _ (List.mem_of_getElem? (i := 1) rfl)) (hw _ (List.mem_of_getElem? (i := 2) rfl)) e0 (hb hby at_12) (by decide) (by decide) rfl ?_
    intro T23 h23 b23 X23 e23 E23 g23 A23 D23
    have f24 := SD.ext E23
    have Zs25 : n0 ≤ h23.size := (Nat.le_trans Z0 E23.1)
    have g_b23 : n0 ≤ b23 := Nat.le_trans Z0 (Nat.le_of_eq g23.symm)
    have f26 : Fld Z h23 b23 "com/example/koord/koord/LockTable" "locks" "Ljava/util/Map;" .null := D23 (Or.inr (hw _ (List.mem_of_getElem? (i := 26) rfl))) (ty := (.object "java/util/Map")) (by decide)
    have f27 : Fld Z h23 b23 "com/example/koord/koord/LockTable" "requestsByOwner" "Ljava/util/Map;" .null := D23 (Or.inr (hw _ (List.mem_of_getElem? (i := 28) rfl))) (ty := (.object "java/util/Map")) (by decide)
    have f28 : Fld Z h23 b23 "com/example/koord/koord/LockTable" "holdsByOwner" "Ljava/util/Map;" .null := D23 (Or.inr (hw _ (List.mem_of_getElem? (i := 30) rfl))) (ty := (.object "java/util/Map")) (by decide)
    have f29 : Fld Z h23 b23 "com/example/koord/koord/LockTable" "lastToken" "J" (.long (0 : Int64)) := D23 (Or.inl (hw _ (List.mem_of_getElem? (i := 32) rfl))) (ty := .long) (by decide)
    have f30 : Fld Z h23 b23 "com/example/koord/koord/LockTable" "accounted" "Ljava/util/Set;" .null := D23 (Or.inl (hw _ (List.mem_of_getElem? (i := 34) rfl))) (ty := (.object "java/util/Set")) (by decide)
    refine g_dup 16 X23 hx (hb hby at_15) rfl rfl ?_
    refine g_lloadN 17 X23 hx (hb hby at_16) rfl (v := q1) rfl ?_
    refine g_iloadN 18 X23 hx (hb hby at_17) rfl (v := (1 : Int32)) rfl ?_
    refine g_callI 21 X23 hx hZ (y := (⟨"com/example/koord/koord/LockTable", "<init>", "(JZ)V"⟩ : MethodName)) rfl hown (hw _ (List.mem_of_getElem? (i := 3) rfl)) (hw _ (List.mem_of_getElem? (i := 4) rfl)) (hw _ (List.mem_of_getElem? (i := 2) rfl)) (hw _ (List.mem_of_getElem? (i := 5) rfl)) (by decide) e23 (rm1w l Z a0 hw [] b23 q1  h23 n0 Zs25 A23 f26 f27 f28 f29 f30 g_b23) (by rw [hml]; rfl) b23 [(.long q1), (.int (1 : Int32))] [(.ref b23)] rfl rfl (lenOf pd_5 rfl) 1 (Nat.le_of_eq rfl) (hb hby at_18) (by decide) (by decide) (by decide) (by decide) rfl ?_
    intro v31 T31 L31 X31 hQ31
    obtain ⟨x31_0, x31_1, rfl, N31q, K31, g_x31_0, szx31_0, g_x31_1, szx31_1, f31_0, f31_1, f31_2, f31_3, f31_4, f31_5, f31_6⟩ := hQ31
    have N31 := Fr.app N0 N31q
    have f32 := own_staKeep f24 K31 (allS ⟨_, A23⟩ all0)
    have f33 := A23.keep K31
    have Zs34 : n0 ≤ T31.heap.size := (Nat.le_trans Zs25 K31.1)
    show Go p e below s 32 192 (Q0 Z q1 p2 sd h0 n0) T31 (mkF m 21 #[.val (.long q1), .second, .val (.int p2), .val (.int (1 : Int32)), .unset, .unset, .unset, .unset] [(.ref b23)])
    refine g_astore 23 X31 hx (hb hby at_21) rfl (Ls' := #[.val (.long q1), .second, .val (.int p2), .val (.int (1 : Int32)), .val (.ref b23), .unset, .unset, .unset]) rfl rfl ?_
    refine g_aload 25 X31 hx (hb hby at_23) rfl (v := (.ref b23)) rfl rfl ?_
    refine g_callV 28 X31 hx hZ (y := (⟨"com/example/koord/koord/LockTable", "withholding", "()Z"⟩ : MethodName)) hown (hw _ (List.mem_of_getElem? (i := 35) rfl)) (hw _ (List.mem_of_getElem? (i := 36) rfl)) (hw _ (List.mem_of_getElem? (i := 38) rfl)) (hw _ (List.mem_of_getElem? (i := 37) rfl)) (hw _ (List.mem_of_getElem? (i := 2) rfl)) (hw _ (List.mem_of_getElem? (i := 39) rfl)) (by decide) rfl f31_0 (rm5w l Z a0 hw [] b23 x31_1 T31.heap n0 Zs34 f31_1) (by rw [hml]; rfl) [] [] rfl rfl (lenOf pd_4 rfl) 0 (Nat.le_of_eq rfl) (hb hby at_25) (by decide) (by decide) (by decide) (by decide) rfl ?_
    intro v35 T35 L35 X35 hQ35
    obtain ⟨rfl, N35q, e35⟩ := hQ35
    have N35 := Fr.app N31 N35q
    show Go p e below s 32 192 (Q0 Z q1 p2 sd h0 n0) T35 (mkF m 28 #[.val (.long q1), .second, .val (.int p2), .val (.int (1 : Int32)), .val (.ref b23), .unset, .unset, .unset] [(.int (1 : Int32))])
    refine g_istore 30 X35 hx (hb hby at_28) rfl (Ls' := #[.val (.long q1), .second, .val (.int p2), .val (.int (1 : Int32)), .val (.ref b23), .val (.int (1 : Int32)), .unset, .unset]) rfl ?_
    refine g_aload 32 X35 hx (hb hby at_30) rfl (v := (.ref b23)) rfl rfl ?_
    refine g_callV 35 X35 hx hZ (y := (⟨"com/example/koord/koord/LockTable", "withholding", "()Z"⟩ : MethodName)) hown (hw _ (List.mem_of_getElem? (i := 35) rfl)) (hw _ (List.mem_of_getElem? (i := 36) rfl)) (hw _ (List.mem_of_getElem? (i := 38) rfl)) (hw _ (List.mem_of_getElem? (i := 37) rfl)) (hw _ (List.mem_of_getElem? (i := 2) rfl)) (hw _ (List.mem_of_getElem? (i := 39) rfl)) (by decide) e35 f31_0 (rm5w l Z a0 hw [] b23 x31_1 T31.heap n0 Zs34 f31_1) (by rw [hml]; rfl) [] [] rfl rfl (lenOf pd_4 rfl) 0 (Nat.le_of_eq rfl) (hb hby at_32) (by decide) (by decide) (by decide) (by decide) rfl ?_
    intro v36 T36 L36 X36 hQ36
    obtain ⟨rfl, N36q, e36⟩ := hQ36
    have N36 := Fr.app N35 N36q
    show Go p e below s 32 192 (Q0 Z q1 p2 sd h0 n0) T36 (mkF m 35 #[.val (.long q1), .second, .val (.int p2), .val (.int (1 : Int32)), .val (.ref b23), .val (.int (1 : Int32)), .unset, .unset] [(.int (1 : Int32))])
    refine g_istore 37 X36 hx (hb hby at_35) rfl (Ls' := #[.val (.long q1), .second, .val (.int p2), .val (.int (1 : Int32)), .val (.ref b23), .val (.int (1 : Int32)), .val (.int (1 : Int32)), .unset]) rfl ?_
    refine g_aload 39 X36 hx (hb hby at_37) rfl (v := (.ref b23)) rfl rfl ?_
    refine g_callV 42 X36 hx hZ (y := (⟨"com/example/koord/koord/LockTable", "grantWithheld", "()Ljava/util/List;"⟩ : MethodName)) hown (hw _ (List.mem_of_getElem? (i := 40) rfl)) (hw _ (List.mem_of_getElem? (i := 41) rfl)) (hw _ (List.mem_of_getElem? (i := 43) rfl)) (hw _ (List.mem_of_getElem? (i := 42) rfl)) (hw _ (List.mem_of_getElem? (i := 2) rfl)) (hw _ (List.mem_of_getElem? (i := 44) rfl)) (by decide) e36 f31_0 (rm6 l Z a0 hw [] b23 x31_0 (.ref x31_1) sd T31.heap n0 Zs34 f31_0 f31_2 f31_1 f31_3 f31_5 f31_6 f31_4 f32 g_b23 g_x31_0 (Nat.ne_of_lt (Nat.lt_of_lt_of_le f30.lt szx31_0))) (by rw [hml]; rfl) [] [] rfl rfl (lenOf pd_6 rfl) 0 (Nat.le_of_eq rfl) (hb hby at_39) (by decide) (by decide) (by decide) (by decide) rfl ?_
    intro v37 T37 L37 X37 hQ37
    obtain ⟨x37_0, rfl, N37q, K37, g_x37_0, szx37_0, f37_0, f37_1, f37_2⟩ := hQ37
    have N37 := Fr.app N36 N37q
    have f38 := own_staKeep f32 K37 (allS ⟨_, f31_0⟩ (allS ⟨_, f31_3⟩ all0))
    have f39 := f31_0.keep K37
    have f40 := f31_3.keep K37
    have Zs41 : n0 ≤ T37.heap.size := (Nat.le_trans Zs34 K37.1)
    show Go p e below s 32 192 (Q0 Z q1 p2 sd h0 n0) T37 (mkF m 42 #[.val (.long q1), .second, .val (.int p2), .val (.int (1 : Int32)), .val (.ref b23), .val (.int (1 : Int32)), .val (.int (1 : Int32)), .unset] [(.ref x37_0)])
    refine g_pop 43 X37 hx (hb hby at_42) rfl rfl ?_
    refine g_aload 45 X37 hx (hb hby at_43) rfl (v := (.ref b23)) rfl rfl ?_
    refine g_callV 48 X37 hx hZ (y := (⟨"com/example/koord/koord/LockTable", "withholding", "()Z"⟩ : MethodName)) hown (hw _ (List.mem_of_getElem? (i := 35) rfl)) (hw _ (List.mem_of_getElem? (i := 36) rfl)) (hw _ (List.mem_of_getElem? (i := 38) rfl)) (hw _ (List.mem_of_getElem? (i := 37) rfl)) (hw _ (List.mem_of_getElem? (i := 2) rfl)) (hw _ (List.mem_of_getElem? (i := 39) rfl)) (by decide) rfl f37_0 (rm5n l Z a0 hw [] b23  T37.heap n0 Zs41 f37_1) (by rw [hml]; rfl) [] [] rfl rfl (lenOf pd_4 rfl) 0 (Nat.le_of_eq rfl) (hb hby at_45) (by decide) (by decide) (by decide) (by decide) rfl ?_
    intro v42 T42 L42 X42 hQ42
    obtain ⟨rfl, N42q, e42⟩ := hQ42
    have N42 := Fr.app N37 N42q
    show Go p e below s 32 192 (Q0 Z q1 p2 sd h0 n0) T42 (mkF m 48 #[.val (.long q1), .second, .val (.int p2), .val (.int (1 : Int32)), .val (.ref b23), .val (.int (1 : Int32)), .val (.int (1 : Int32)), .unset] [(.int (0 : Int32))])
    refine g_istore 50 X42 hx (hb hby at_48) rfl (Ls' := #[.val (.long q1), .second, .val (.int p2), .val (.int (1 : Int32)), .val (.ref b23), .val (.int (1 : Int32)), .val (.int (1 : Int32)), .val (.int (0 : Int32))]) rfl ?_
    refine g_iload 52 X42 hx (hb hby at_50) rfl (v := (1 : Int32)) rfl ?_
    refine g_iloadN 53 X42 hx (hb hby at_52) rfl (v := (1 : Int32)) rfl ?_
    refine g_icmpNo 56 X42 hx (hb hby at_53)  (teq (rfl : (1 : Int32) = (1 : Int32))).2 rfl ?_
    refine g_iload 58 X42 hx (hb hby at_56) rfl (v := (1 : Int32)) rfl ?_
    refine g_iloadN 59 X42 hx (hb hby at_58) rfl (v := (1 : Int32)) rfl ?_
    refine g_icmpNo 62 X42 hx (hb hby at_59)  (teq (rfl : (1 : Int32) = (1 : Int32))).2 rfl ?_
    refine g_iload 64 X42 hx (hb hby at_62) rfl (v := (0 : Int32)) rfl ?_
    refine g_ifNo 67 X42 hx (hb hby at_64)  ((if0 _ _).trans (teq (rfl : (0 : Int32) = (0 : Int32))).2) rfl ?_
    refine g_iconst 68 X42 hx (hb hby at_67) rfl (z := (1 : Int32)) rfl ?_
    refine g_goto 72 X42 hx (hb hby at_68) (by decide) (by decide) ?_
    exact g_retN X42 hx (t := .boolean) Bd.returns hlk (by simp) rfl (hb hby at_72) (by decide) (by decide) ⟨rfl, N42⟩
set_option maxRecDepth 65536 in
set_option maxHeartbeats 40000000 in
theorem comes_1 {Post : Tables → Env → Array Value → State → Outcome → State → Prop} (hpost : ∀ tb e args s v u, (limb_1_1.after args s (.returned v) u = true ∧ limb_1_2.after args s (.returned v) u = true ∧ True) → FrameEnd s (.returned v) u (Jvm.fieldLocs frame_1_writes args s ++ Jvm.arrayLocs frame_1_arrays args s ++ Jvm.staticLocs frame_1_statics s) 32 192 → Post tb e args s (.returned v) u) :
    ArmFor flags0 classFile x code maxLocals ret World_1 tables_1 room_1 Calls_1 rest_1 Pre_1 Post := by
  intro l hfl _ _ p e ha hc hk s m args below hf hA hF happ hP
  obtain ⟨hcalls, hrest, hpre⟩ := hP
  obtain ⟨-, -, -, hnamed, -, -, -, hat⟩ := (Spec.applies_iff hf).mp happ
  obtain ⟨hg, hn⟩ := and_e (Cond.before_iff.mp (show (Jvm.Cond.and given_1 narrow_1).before args s = true from hpre))
  obtain ⟨hcount, r0⟩ := and_e hg
  obtain ⟨ga0, r1⟩ := and_e r0
  obtain ⟨w0, w1, rfl⟩ : ∃ w0 w1 : Value, args = #[w0, w1] := by
    have hs : args.size = 2 := by simpa [Cond.value, given_1] using hcount
    obtain ⟨L⟩ := args
    match L, hs with
    | [w0, w1], _ => exact ⟨w0, w1, rfl⟩
  have hw := fun d (hd : d ∈ tables_1) => atoms_spec (ws := Jvm.Cond.code x code maxLocals ret :: tables_1) hat d (List.mem_cons_of_mem _ hd)
  obtain ⟨i0, ei0⟩ := isL_v ga0
  obtain rfl : w0 = (.long i0) := Option.some.inj ei0
  obtain ⟨i1, ei1⟩ := is_v r1
  obtain rfl : w1 = (.int i1) := Option.some.inj ei1
  obtain ⟨hsets, hown0⟩ := atoms_of _ (rest_1_c_eq ▸ (show rest_1_c.before _ s = true from hrest))
  obtain ⟨sd, esd⟩ := exa_v (Cond.before_iff.mp (hsets _ (List.mem_of_getElem? (i := 7) rfl)))
  have SD := Sta.start esd (Or.inr ⟨hw _ (List.mem_of_getElem? (i := 47) rfl), hsets _ (List.mem_of_getElem? (i := 2) rfl)⟩)
  obtain ⟨n, o, h1, h2, h3, _, L, rfl, ⟨rfl, N⟩, hq⟩ := rm0 l s _ hw tables_1 i0 i1 sd s.heap s.heap.size (Nat.le_refl _) SD  p e ha hc hk s m _ below hf ((Spec.applies_iff_loose hf).mp happ).1 ⟨rfl, State.Warmed39.refl s, rfl⟩ trivial
  exact ⟨n, _, h1, h2, h3, hpost _ _ _ _ _ _ ⟨Cond.after_iff.mpr rfl, Cond.after_iff.mpr (eq_i res_at (Term.int_eval (1)) rfl), trivial⟩ ⟨hq.1, hq.2.1, (hq.2.2.sift fun y hy => Or.inr (N y hy)).mono (by decide) (by decide)⟩⟩
theorem main_1_1 : Claimed_1_1 := comes_1 fun _ _ _ _ _ _ h hF => ⟨h.1, hF⟩
theorem main_1_2 : Claimed_1_2 := comes_1 fun _ _ _ _ _ _ h hF => ⟨h.2.1, hF⟩
end Jvm.Pilot.@@N@@
namespace Jvm.Pilot.@@N@@
open Jvm Jvm.ClassFile Sem Op Lib Jvm.Free Jvm.Stand Jvm.Pilot.@@N@@.Jvm.D
/-! MADE BY PROGRAM (witnessworld.py) out of the Statement's table words and the real class files: 28 classes; the members and pool entries that the words name. The judged class is class 1, her method 1. -/
namespace start1
open Jvm.ClassFile
def u (s : String) : CpInfo := .utf8 (stringToUtf16 s)
/-- a pool by its gaps: so many unusable entries, then the entry; so many at the end -/
def gap : Nat → List CpInfo → List CpInfo
  | 0, r => r
  | n + 1, r => .unusable :: gap n r
def poolList (es : List (Nat × CpInfo)) (last : Nat) : List CpInfo := es.foldr (fun e r => gap e.1 (e.2 :: r)) (gap last [])
def pool (es : List (Nat × CpInfo)) (last : Nat) : Array CpInfo := ⟨poolList es last⟩
def fileOf (pool : Array CpInfo) (this : Nat) (attrs : Array Attribute := #[]) (ms : Array MethodInfo := #[]) (fl : Nat := 33) (sup : Nat := 0) (ifs : Array Nat := #[]) (fds : Array FieldInfo := #[]) : ClassFile where
  minorVersion := 0
  majorVersion := 65
  constantPool := pool
  accessFlags := fl
  thisClass := this
  superClass := sup
  interfaces := ifs
  fields := fds
  methods := ms
  attributes := attrs
def plain (name : String) (sup : Option ClassId) : Class where
  name := name
  kind := .ordinary
  loader := none
  accessFlags := 33
  super := sup
  interfaces := #[]
  cf := none
  fields := #[]
  methods := #[]
  instanceTypes := #[]
  staticTypes := #[]
  resolved := #[]
  callSites := []
  init := .initialized
  statics := none
  mirror := none

def pool0 : Array CpInfo := pool [(5, u "<init>"), (0, u "()V"), (1, .class_ 10), (1, u "java/lang/Object")] 113

def k0c0 : Code := { maxStack := 0, maxLocals := 1, code := object_method_1_code, exceptionTable := #[], attributes := #[] }
def k0m0 : Method := { name := "<init>", desc := "()V", sig := { parameters := [], returnType := none }, accessFlags := 1, code := some k0c0 }
/-- java/lang/Object -/
def k0 : Class := { plain "java/lang/Object" none with
  accessFlags := 33
  interfaces := #[]
  cf := some (fileOf pool0 8 #[] #[{ accessFlags := 1, nameIndex := 5, descriptorIndex := 6, attributes := #[] }] 33 0 #[] #[])
  fields := #[]
  methods := #[k0m0]
  instanceTypes := #[]
  staticTypes := #[]
  resolved := Array.replicate 124 none
  statics := none }

def pool1 : Array CpInfo := pool [(2, .class_ 4), (1, u "java/lang/Object"), (0, u "<init>"), (0, u "()V"), (0, .class_ 8), (0, u "com/example/koord/koord/LockTable"), (0, .methodref 7 10), (0, .nameAndType 5 11), (0, u "(JZ)V"), (0, .methodref 7 13), (0, .nameAndType 14 15), (0, u "withholding"), (0, u "()Z"), (0, .methodref 7 17), (0, .nameAndType 18 19), (0, u "grantWithheld"), (0, u "()Ljava/util/List;"), (0, .class_ 21), (0, u "com/example/koord/koord/LockTableWithholdingPinLaw"), (2, u "law"), (0, u "(JI)Z")] 3

def k1m0 : Method := { name := "<init>", desc := "()V", sig := { parameters := [], returnType := none }, accessFlags := 1, code := none }
def k1c1 : Code := { maxStack := 5, maxLocals := 8, code := code, exceptionTable := #[], attributes := #[] }
def k1m1 : Method := { name := "law", desc := "(JI)Z", sig := { parameters := [.long, .int], returnType := some .boolean }, accessFlags := 9, code := some k1c1 }
/-- com/example/koord/koord/LockTableWithholdingPinLaw -/
def k1 : Class := { plain "com/example/koord/koord/LockTableWithholdingPinLaw" (some 0) with
  accessFlags := 49
  interfaces := #[]
  cf := some (fileOf pool1 20 #[] #[{ accessFlags := 1, nameIndex := 5, descriptorIndex := 6, attributes := #[] }, { accessFlags := 9, nameIndex := 24, descriptorIndex := 25, attributes := #[] }] 49 2 #[] #[])
  fields := #[]
  methods := #[k1m0, k1m1]
  instanceTypes := #[]
  staticTypes := #[]
  resolved := Array.replicate 29 none
  statics := none }

def pool2 : Array CpInfo := pool [(1, .methodref 2 3), (0, .class_ 4), (0, .nameAndType 5 6), (0, u "java/lang/Object"), (0, u "<init>"), (0, u "()V"), (0, .class_ 8), (0, u "java/util/HashMap"), (0, .methodref 7 3), (0, .fieldref 11 12), (0, .class_ 13), (0, .nameAndType 14 15), (0, u "com/example/koord/koord/LockTable"), (0, u "locks"), (0, u "Ljava/util/Map;"), (0, .fieldref 11 17), (0, .nameAndType 18 15), (0, u "requestsByOwner"), (0, .fieldref 11 20), (0, .nameAndType 21 15), (0, u "holdsByOwner"), (0, .fieldref 11 23), (0, .nameAndType 24 25), (0, u "lastToken"), (0, u "J"), (0, .class_ 27), (0, u "java/util/HashSet"), (0, .methodref 26 3), (0, .fieldref 11 30), (0, .nameAndType 31 32), (0, u "accounted"), (0, u "Ljava/util/Set;"), (1, .class_ 36), (1, u "java/util/Map"), (30, .class_ 68), (0, u "com/example/koord/koord/LockTable$Request"), (10, .class_ 80), (0, u "com/example/koord/koord/LockTable$Entry"), (38, u "()Z"), (54, .nameAndType 175 176), (0, u "iterator"), (0, u "()Ljava/util/Iterator;"), (0, .interfaceMethodref 178 179), (0, .class_ 180), (0, .nameAndType 181 119), (0, u "java/util/Iterator"), (0, u "hasNext"), (16, .class_ 199), (0, u "java/util/ArrayList"), (0, .methodref 198 3), (16, .interfaceMethodref 34 218), (0, .nameAndType 219 220), (0, u "values"), (0, u "()Ljava/util/Collection;"), (0, .interfaceMethodref 222 174), (0, .class_ 223), (0, u "java/util/Collection"), (37, .class_ 262), (0, u "com/example/koord/koord/LockTable$Grant"), (16, u "(JZ)V"), (3, u "withholding"), (18, u "grantWithheld"), (0, u "()Ljava/util/List;")] 72

def k2c0 : Code := { maxStack := 3, maxLocals := 4, code := prog_11_method_1_code, exceptionTable := #[], attributes := #[] }
def k2m0 : Method := { name := "<init>", desc := "(JZ)V", sig := { parameters := [.long, .boolean], returnType := none }, accessFlags := 0, code := some k2c0 }
def k2c1 : Code := { maxStack := 1, maxLocals := 1, code := prog_11_method_2_code, exceptionTable := #[], attributes := #[] }
def k2m1 : Method := { name := "withholding", desc := "()Z", sig := { parameters := [], returnType := some .boolean }, accessFlags := 0, code := some k2c1 }
def k2c2 : Code := { maxStack := 4, maxLocals := 4, code := prog_11_method_12_code, exceptionTable := #[], attributes := #[] }
def k2m2 : Method := { name := "grantWithheld", desc := "()Ljava/util/List;", sig := { parameters := [], returnType := some (.object "java/util/List") }, accessFlags := 0, code := some k2c2 }
/-- com/example/koord/koord/LockTable -/
def k2 : Class := { plain "com/example/koord/koord/LockTable" (some 0) with
  accessFlags := 48
  interfaces := #[]
  cf := some (fileOf pool2 11 #[.nestMembers #[79, 67, 261]] #[{ accessFlags := 0, nameIndex := 5, descriptorIndex := 279, attributes := #[] }, { accessFlags := 0, nameIndex := 283, descriptorIndex := 119, attributes := #[] }, { accessFlags := 0, nameIndex := 302, descriptorIndex := 303, attributes := #[] }] 48 2 #[] #[{ accessFlags := 18, nameIndex := 14, descriptorIndex := 15, attributes := #[] }, { accessFlags := 18, nameIndex := 18, descriptorIndex := 15, attributes := #[] }, { accessFlags := 18, nameIndex := 21, descriptorIndex := 15, attributes := #[] }, { accessFlags := 2, nameIndex := 24, descriptorIndex := 25, attributes := #[] }, { accessFlags := 2, nameIndex := 31, descriptorIndex := 32, attributes := #[] }])
  fields := #[{ name := "locks", type := (.object "java/util/Map"), accessFlags := 18, slot := 0, constantValue := 0 }, { name := "requestsByOwner", type := (.object "java/util/Map"), accessFlags := 18, slot := 1, constantValue := 0 }, { name := "holdsByOwner", type := (.object "java/util/Map"), accessFlags := 18, slot := 2, constantValue := 0 }, { name := "lastToken", type := .long, accessFlags := 2, slot := 3, constantValue := 0 }, { name := "accounted", type := (.object "java/util/Set"), accessFlags := 2, slot := 4, constantValue := 0 }]
  methods := #[k2m0, k2m1, k2m2]
  instanceTypes := #[(.object "java/util/Map"), (.object "java/util/Map"), (.object "java/util/Map"), .long, (.object "java/util/Set")]
  staticTypes := #[]
  resolved := Array.replicate 376 none
  statics := none }

def pool3 : Array CpInfo := pool [(2, .class_ 4), (1, u "java/util/Map"), (31, .class_ 37), (0, u "java/util/Map$Entry"), (55, .class_ 94), (0, u "java/lang/Object"), (38, u "values"), (0, u "()Ljava/util/Collection;")] 128

def k3m0 : Method := { name := "values", desc := "()Ljava/util/Collection;", sig := { parameters := [], returnType := some (.object "java/util/Collection") }, accessFlags := 1025, code := none }
/-- java/util/Map -/
def k3 : Class := { plain "java/util/Map" (some 0) with
  accessFlags := 1537
  interfaces := #[]
  cf := some (fileOf pool3 2 #[.nestMembers #[36]] #[{ accessFlags := 1025, nameIndex := 133, descriptorIndex := 134, attributes := #[] }] 1537 93 #[] #[])
  fields := #[]
  methods := #[k3m0]
  instanceTypes := #[]
  staticTypes := #[]
  resolved := Array.replicate 263 none
  statics := none }

def pool4 : Array CpInfo := pool [(1, .methodref 2 3), (0, .class_ 4), (0, .nameAndType 5 6), (0, u "java/lang/Object"), (0, u "<init>"), (0, u "()V"), (1, .class_ 10), (1, u "java/util/AbstractMap"), (42, .class_ 54), (0, u "java/util/Map"), (9, u "keySet"), (0, u "Ljava/util/Set;"), (0, .class_ 67), (0, u "java/util/AbstractMap$1"), (5, u "values"), (0, u "Ljava/util/Collection;"), (0, .class_ 76), (0, u "java/util/AbstractMap$2"), (104, .class_ 182), (0, u "java/util/AbstractMap$ViewCollection"), (0, .class_ 184), (0, u "java/util/AbstractMap$SimpleImmutableEntry"), (0, .class_ 186), (0, u "java/util/AbstractMap$SimpleEntry"), (0, .class_ 188), (0, u "java/util/AbstractMap$2$1"), (0, .class_ 190), (0, u "java/util/AbstractMap$1$1")] 5

def k4c0 : Code := { maxStack := 1, maxLocals := 1, code := jdk_71_method_1_code, exceptionTable := #[], attributes := #[] }
def k4m0 : Method := { name := "<init>", desc := "()V", sig := { parameters := [], returnType := none }, accessFlags := 4, code := some k4c0 }
/-- java/util/AbstractMap -/
def k4 : Class := { plain "java/util/AbstractMap" (some 0) with
  accessFlags := 1057
  interfaces := #[3]
  cf := some (fileOf pool4 8 #[.nestMembers #[181, 183, 185, 75, 187, 66, 189]] #[{ accessFlags := 4, nameIndex := 5, descriptorIndex := 6, attributes := #[] }] 1057 2 #[53] #[{ accessFlags := 128, nameIndex := 64, descriptorIndex := 65, attributes := #[] }, { accessFlags := 128, nameIndex := 73, descriptorIndex := 74, attributes := #[] }])
  fields := #[{ name := "keySet", type := (.object "java/util/Set"), accessFlags := 128, slot := 0, constantValue := 0 }, { name := "values", type := (.object "java/util/Collection"), accessFlags := 128, slot := 1, constantValue := 0 }]
  methods := #[k4m0]
  instanceTypes := #[(.object "java/util/Set"), (.object "java/util/Collection")]
  staticTypes := #[]
  resolved := Array.replicate 196 none
  statics := none }

def pool5 : Array CpInfo := pool [(1, .class_ 2), (0, u "java/lang/Cloneable"), (0, .class_ 4), (0, u "java/lang/Object")] 2

/-- java/lang/Cloneable -/
def k5 : Class := { plain "java/lang/Cloneable" (some 0) with
  accessFlags := 1537
  interfaces := #[]
  cf := some (fileOf pool5 1 #[] #[] 1537 3 #[] #[])
  fields := #[]
  methods := #[]
  instanceTypes := #[]
  staticTypes := #[]
  resolved := Array.replicate 7 none
  statics := none }

def pool6 : Array CpInfo := pool [(1, .class_ 2), (0, u "java/io/Serializable"), (0, .class_ 4), (0, u "java/lang/Object")] 2

/-- java/io/Serializable -/
def k6 : Class := { plain "java/io/Serializable" (some 0) with
  accessFlags := 1537
  interfaces := #[]
  cf := some (fileOf pool6 1 #[] #[] 1537 3 #[] #[])
  fields := #[]
  methods := #[]
  instanceTypes := #[]
  staticTypes := #[]
  resolved := Array.replicate 7 none
  statics := none }

def pool7 : Array CpInfo := pool [(40, .class_ 41), (0, u "java/util/HashMap"), (1, .methodref 44 45), (0, .class_ 46), (0, .nameAndType 47 48), (0, u "java/util/AbstractMap"), (0, u "<init>"), (0, u "()V"), (32, .fieldref 40 82), (0, .nameAndType 83 84), (0, u "loadFactor"), (0, u "F"), (5, u "threshold"), (0, u "I"), (0, .float 1061158912), (8, .class_ 103), (1, u "java/util/Map"), (0, u "size"), (2, u "table"), (0, u "[Ljava/util/HashMap$Node;"), (14, u "entrySet"), (39, .class_ 165), (1, u "java/util/HashMap$Node"), (14, .class_ 181), (0, u "java/util/HashMap$TreeNode"), (22, u "modCount"), (37, u "Ljava/util/Set;"), (0, .class_ 244), (0, u "java/util/HashMap$KeySet"), (1, .nameAndType 47 247), (0, u "(Ljava/util/HashMap;)V"), (11, .fieldref 40 260), (0, .nameAndType 261 262), (0, u "values"), (0, u "Ljava/util/Collection;"), (0, .class_ 264), (0, u "java/util/HashMap$Values"), (0, .methodref 263 246), (2, .class_ 269), (0, u "java/util/HashMap$EntrySet"), (76, .class_ 348), (1, u "java/util/HashMap$UnsafeHolder"), (43, .class_ 393), (0, u "java/lang/Cloneable"), (0, .class_ 395), (0, u "java/io/Serializable"), (0, u "serialVersionUID"), (0, u "J"), (3, u "DEFAULT_INITIAL_CAPACITY"), (1, u "MAXIMUM_CAPACITY"), (0, u "DEFAULT_LOAD_FACTOR"), (0, u "TREEIFY_THRESHOLD"), (1, u "UNTREEIFY_THRESHOLD"), (1, u "MIN_TREEIFY_CAPACITY"), (106, u "()Ljava/util/Collection;"), (79, .class_ 597), (0, u "java/util/HashMap$EntrySpliterator"), (0, .class_ 599), (0, u "java/util/HashMap$ValueSpliterator"), (0, .class_ 601), (0, u "java/util/HashMap$KeySpliterator"), (0, .class_ 603), (0, u "java/util/HashMap$HashMapSpliterator"), (0, .class_ 605), (0, u "java/util/HashMap$EntryIterator"), (0, .class_ 607), (0, u "java/util/HashMap$ValueIterator"), (0, .class_ 609), (0, u "java/util/HashMap$KeyIterator"), (0, .class_ 611), (0, u "java/util/HashMap$HashIterator")] 17

def k7c0 : Code := { maxStack := 2, maxLocals := 1, code := jdk_69_method_7_code, exceptionTable := #[], attributes := #[] }
def k7m0 : Method := { name := "<init>", desc := "()V", sig := { parameters := [], returnType := none }, accessFlags := 1, code := some k7c0 }
def k7c1 : Code := { maxStack := 3, maxLocals := 2, code := jdk_69_method_28_code, exceptionTable := #[], attributes := #[] }
def k7m1 : Method := { name := "values", desc := "()Ljava/util/Collection;", sig := { parameters := [], returnType := some (.object "java/util/Collection") }, accessFlags := 1, code := some k7c1 }
/-- java/util/HashMap -/
def k7 : Class := { plain "java/util/HashMap" (some 4) with
  accessFlags := 33
  interfaces := #[3, 5, 6]
  cf := some (fileOf pool7 40 #[.nestMembers #[180, 596, 598, 600, 602, 604, 606, 608, 610, 346, 268, 263, 243, 163]] #[{ accessFlags := 1, nameIndex := 47, descriptorIndex := 48, attributes := #[] }, { accessFlags := 1, nameIndex := 261, descriptorIndex := 516, attributes := #[] }] 33 44 #[101, 392, 394] #[{ accessFlags := 26, nameIndex := 396, descriptorIndex := 397, attributes := #[] }, { accessFlags := 24, nameIndex := 401, descriptorIndex := 91, attributes := #[] }, { accessFlags := 24, nameIndex := 403, descriptorIndex := 91, attributes := #[] }, { accessFlags := 24, nameIndex := 404, descriptorIndex := 84, attributes := #[] }, { accessFlags := 24, nameIndex := 405, descriptorIndex := 91, attributes := #[] }, { accessFlags := 24, nameIndex := 407, descriptorIndex := 91, attributes := #[] }, { accessFlags := 24, nameIndex := 409, descriptorIndex := 91, attributes := #[] }, { accessFlags := 128, nameIndex := 107, descriptorIndex := 108, attributes := #[] }, { accessFlags := 128, nameIndex := 123, descriptorIndex := 242, attributes := #[] }, { accessFlags := 128, nameIndex := 104, descriptorIndex := 91, attributes := #[] }, { accessFlags := 128, nameIndex := 204, descriptorIndex := 91, attributes := #[] }, { accessFlags := 0, nameIndex := 90, descriptorIndex := 91, attributes := #[] }, { accessFlags := 16, nameIndex := 83, descriptorIndex := 84, attributes := #[] }])
  fields := #[{ name := "serialVersionUID", type := .long, accessFlags := 26, slot := 0, constantValue := 0 }, { name := "DEFAULT_INITIAL_CAPACITY", type := .int, accessFlags := 24, slot := 1, constantValue := 0 }, { name := "MAXIMUM_CAPACITY", type := .int, accessFlags := 24, slot := 2, constantValue := 0 }, { name := "DEFAULT_LOAD_FACTOR", type := .float, accessFlags := 24, slot := 3, constantValue := 0 }, { name := "TREEIFY_THRESHOLD", type := .int, accessFlags := 24, slot := 4, constantValue := 0 }, { name := "UNTREEIFY_THRESHOLD", type := .int, accessFlags := 24, slot := 5, constantValue := 0 }, { name := "MIN_TREEIFY_CAPACITY", type := .int, accessFlags := 24, slot := 6, constantValue := 0 }, { name := "table", type := (.array (.object "java/util/HashMap$Node")), accessFlags := 128, slot := 2, constantValue := 0 }, { name := "entrySet", type := (.object "java/util/Set"), accessFlags := 128, slot := 3, constantValue := 0 }, { name := "size", type := .int, accessFlags := 128, slot := 4, constantValue := 0 }, { name := "modCount", type := .int, accessFlags := 128, slot := 5, constantValue := 0 }, { name := "threshold", type := .int, accessFlags := 0, slot := 6, constantValue := 0 }, { name := "loadFactor", type := .float, accessFlags := 16, slot := 7, constantValue := 0 }]
  methods := #[k7m0, k7m1]
  instanceTypes := #[(.object "java/util/Set"), (.object "java/util/Collection"), (.array (.object "java/util/HashMap$Node")), (.object "java/util/Set"), .int, .int, .int, .float]
  staticTypes := #[.long, .int, .int, .float, .int, .int, .int]
  resolved := Array.replicate 629 none
  statics := none }

def pool8 : Array CpInfo := pool [(8, .class_ 10), (1, u "java/lang/Iterable"), (24, .class_ 36), (0, u "java/lang/Object")] 25

/-- java/lang/Iterable -/
def k8 : Class := { plain "java/lang/Iterable" (some 0) with
  accessFlags := 1537
  interfaces := #[]
  cf := some (fileOf pool8 8 #[] #[] 1537 35 #[] #[])
  fields := #[]
  methods := #[]
  instanceTypes := #[]
  staticTypes := #[]
  resolved := Array.replicate 62 none
  statics := none }

def pool9 : Array CpInfo := pool [(10, .class_ 12), (1, u "java/util/Collection"), (10, u "iterator"), (0, u "()Ljava/util/Iterator;"), (35, .class_ 61), (0, u "java/lang/Object"), (0, .class_ 63), (0, u "java/lang/Iterable")] 51

def k9m0 : Method := { name := "iterator", desc := "()Ljava/util/Iterator;", sig := { parameters := [], returnType := some (.object "java/util/Iterator") }, accessFlags := 1025, code := none }
/-- java/util/Collection -/
def k9 : Class := { plain "java/util/Collection" (some 0) with
  accessFlags := 1537
  interfaces := #[8]
  cf := some (fileOf pool9 10 #[] #[{ accessFlags := 1025, nameIndex := 23, descriptorIndex := 24, attributes := #[] }] 1537 60 #[62] #[])
  fields := #[]
  methods := #[k9m0]
  instanceTypes := #[]
  staticTypes := #[]
  resolved := Array.replicate 115 none
  statics := none }

def pool10 : Array CpInfo := pool [(1, .methodref 2 3), (0, .class_ 4), (0, .nameAndType 5 6), (0, u "java/lang/Object"), (0, u "<init>"), (0, u "()V"), (1, .class_ 10), (1, u "java/util/AbstractCollection"), (66, .class_ 78), (0, u "java/util/Collection")] 81

def k10c0 : Code := { maxStack := 1, maxLocals := 1, code := jdk_22_method_1_code, exceptionTable := #[], attributes := #[] }
def k10m0 : Method := { name := "<init>", desc := "()V", sig := { parameters := [], returnType := none }, accessFlags := 4, code := some k10c0 }
/-- java/util/AbstractCollection -/
def k10 : Class := { plain "java/util/AbstractCollection" (some 0) with
  accessFlags := 1057
  interfaces := #[9]
  cf := some (fileOf pool10 8 #[] #[{ accessFlags := 4, nameIndex := 5, descriptorIndex := 6, attributes := #[] }] 1057 2 #[77] #[])
  fields := #[]
  methods := #[k10m0]
  instanceTypes := #[]
  staticTypes := #[]
  resolved := Array.replicate 160 none
  statics := none }

def pool11 : Array CpInfo := pool [(8, .class_ 10), (1, u "java/util/SequencedCollection"), (15, .class_ 27), (0, u "java/lang/Object"), (0, .class_ 29), (0, u "java/util/Collection")] 27

/-- java/util/SequencedCollection -/
def k11 : Class := { plain "java/util/SequencedCollection" (some 0) with
  accessFlags := 1537
  interfaces := #[9]
  cf := some (fileOf pool11 8 #[] #[] 1537 26 #[28] #[])
  fields := #[]
  methods := #[]
  instanceTypes := #[]
  staticTypes := #[]
  resolved := Array.replicate 57 none
  statics := none }

def pool12 : Array CpInfo := pool [(8, .class_ 10), (1, u "java/util/List"), (92, .class_ 104), (0, u "java/lang/Object"), (15, .class_ 121), (0, u "java/util/SequencedCollection")] 129

/-- java/util/List -/
def k12 : Class := { plain "java/util/List" (some 0) with
  accessFlags := 1537
  interfaces := #[11]
  cf := some (fileOf pool12 8 #[] #[] 1537 103 #[120] #[])
  fields := #[]
  methods := #[]
  instanceTypes := #[]
  staticTypes := #[]
  resolved := Array.replicate 251 none
  statics := none }

def pool13 : Array CpInfo := pool [(1, .methodref 2 3), (0, .class_ 4), (0, .nameAndType 5 6), (0, u "java/util/AbstractCollection"), (0, u "<init>"), (0, u "()V"), (0, .fieldref 8 9), (0, .class_ 10), (0, .nameAndType 11 12), (0, u "java/util/AbstractList"), (0, u "modCount"), (0, u "I"), (64, .class_ 78), (0, u "java/util/AbstractList$Itr"), (3, .class_ 83), (0, u "java/util/AbstractList$ListItr"), (9, .class_ 94), (0, u "java/util/AbstractList$RandomAccessSubList"), (3, .class_ 99), (0, u "java/util/AbstractList$SubList"), (33, .class_ 134), (0, u "java/util/List"), (73, .class_ 209), (0, u "java/util/AbstractList$SubList$1"), (0, .class_ 211), (0, u "java/util/AbstractList$RandomAccessSpliterator")] 6

def k13c0 : Code := { maxStack := 2, maxLocals := 1, code := jdk_39_method_1_code, exceptionTable := #[], attributes := #[] }
def k13m0 : Method := { name := "<init>", desc := "()V", sig := { parameters := [], returnType := none }, accessFlags := 4, code := some k13c0 }
/-- java/util/AbstractList -/
def k13 : Class := { plain "java/util/AbstractList" (some 10) with
  accessFlags := 1057
  interfaces := #[12]
  cf := some (fileOf pool13 8 #[.nestMembers #[93, 98, 208, 210, 82, 77]] #[{ accessFlags := 4, nameIndex := 5, descriptorIndex := 6, attributes := #[] }] 1057 2 #[133] #[{ accessFlags := 132, nameIndex := 11, descriptorIndex := 12, attributes := #[] }])
  fields := #[{ name := "modCount", type := .int, accessFlags := 132, slot := 0, constantValue := 0 }]
  methods := #[k13m0]
  instanceTypes := #[.int]
  staticTypes := #[]
  resolved := Array.replicate 218 none
  statics := none }

def pool14 : Array CpInfo := pool [(1, .class_ 2), (0, u "java/util/RandomAccess"), (0, .class_ 4), (0, u "java/lang/Object")] 2

/-- java/util/RandomAccess -/
def k14 : Class := { plain "java/util/RandomAccess" (some 0) with
  accessFlags := 1537
  interfaces := #[]
  cf := some (fileOf pool14 1 #[] #[] 1537 3 #[] #[])
  fields := #[]
  methods := #[]
  instanceTypes := #[]
  staticTypes := #[]
  resolved := Array.replicate 7 none
  statics := none }

def pool15 : Array CpInfo := pool [(1, .methodref 2 3), (0, .class_ 4), (0, .nameAndType 5 6), (0, u "java/util/AbstractList"), (0, u "<init>"), (0, u "()V"), (2, .fieldref 10 11), (0, .class_ 12), (0, .nameAndType 13 14), (0, u "java/util/ArrayList"), (0, u "elementData"), (0, u "[Ljava/lang/Object;"), (2, u "EMPTY_ELEMENTDATA"), (21, .fieldref 10 40), (0, .nameAndType 41 14), (0, u "DEFAULTCAPACITY_EMPTY_ELEMENTDATA"), (8, u "size"), (0, u "I"), (96, .class_ 149), (0, u "java/util/List"), (112, .class_ 263), (0, u "java/util/ArrayList$ListItr"), (3, .class_ 268), (0, u "java/util/ArrayList$Itr"), (7, .class_ 277), (0, u "java/util/ArrayList$SubList"), (12, .class_ 291), (0, u "java/util/ArrayList$ArrayListSpliterator"), (37, .class_ 330), (0, u "java/util/RandomAccess"), (0, .class_ 332), (0, u "java/lang/Cloneable"), (0, .class_ 334), (0, u "java/io/Serializable"), (0, u "serialVersionUID"), (0, u "J"), (3, u "DEFAULT_CAPACITY"), (159, .class_ 501), (0, u "java/util/ArrayList$SubList$2"), (0, .class_ 503), (0, u "java/util/ArrayList$SubList$1")] 5

def k15c0 : Code := { maxStack := 2, maxLocals := 1, code := jdk_38_method_2_code, exceptionTable := #[], attributes := #[] }
def k15m0 : Method := { name := "<init>", desc := "()V", sig := { parameters := [], returnType := none }, accessFlags := 1, code := some k15c0 }
/-- java/util/ArrayList -/
def k15 : Class := { plain "java/util/ArrayList" (some 13) with
  accessFlags := 33
  interfaces := #[12, 14, 5, 6]
  cf := some (fileOf pool15 10 #[.nestMembers #[290, 276, 500, 502, 262, 267]] #[{ accessFlags := 1, nameIndex := 5, descriptorIndex := 6, attributes := #[] }] 33 2 #[148, 329, 331, 333] #[{ accessFlags := 26, nameIndex := 335, descriptorIndex := 336, attributes := #[] }, { accessFlags := 26, nameIndex := 340, descriptorIndex := 51, attributes := #[] }, { accessFlags := 26, nameIndex := 17, descriptorIndex := 14, attributes := #[] }, { accessFlags := 26, nameIndex := 41, descriptorIndex := 14, attributes := #[] }, { accessFlags := 128, nameIndex := 13, descriptorIndex := 14, attributes := #[] }, { accessFlags := 2, nameIndex := 50, descriptorIndex := 51, attributes := #[] }])
  fields := #[{ name := "serialVersionUID", type := .long, accessFlags := 26, slot := 0, constantValue := 0 }, { name := "DEFAULT_CAPACITY", type := .int, accessFlags := 26, slot := 1, constantValue := 0 }, { name := "EMPTY_ELEMENTDATA", type := (.array (.object "java/lang/Object")), accessFlags := 26, slot := 2, constantValue := 0 }, { name := "DEFAULTCAPACITY_EMPTY_ELEMENTDATA", type := (.array (.object "java/lang/Object")), accessFlags := 26, slot := 3, constantValue := 0 }, { name := "elementData", type := (.array (.object "java/lang/Object")), accessFlags := 128, slot := 1, constantValue := 0 }, { name := "size", type := .int, accessFlags := 2, slot := 2, constantValue := 0 }]
  methods := #[k15m0]
  instanceTypes := #[.int, (.array (.object "java/lang/Object")), .int]
  staticTypes := #[.long, .int, (.array (.object "java/lang/Object")), (.array (.object "java/lang/Object"))]
  resolved := Array.replicate 509 none
  statics := some 0 }

def pool16 : Array CpInfo := pool [(1, .fieldref 2 3), (0, .class_ 4), (0, .nameAndType 5 6), (0, u "java/util/HashMap$Values"), (0, u "this$0"), (0, u "Ljava/util/HashMap;"), (0, .methodref 8 9), (0, .class_ 10), (0, .nameAndType 11 12), (0, u "java/util/AbstractCollection"), (0, u "<init>"), (0, u "()V"), (1, .class_ 16), (1, u "java/util/HashMap"), (5, .class_ 23), (0, u "java/util/HashMap$ValueIterator"), (0, .methodref 22 25), (0, .nameAndType 11 26), (0, u "(Ljava/util/HashMap;)V"), (56, u "iterator"), (0, u "()Ljava/util/Iterator;")] 35

def k16c0 : Code := { maxStack := 2, maxLocals := 2, code := jdk_2571_method_1_code, exceptionTable := #[], attributes := #[] }
def k16m0 : Method := { name := "<init>", desc := "(Ljava/util/HashMap;)V", sig := { parameters := [(.object "java/util/HashMap")], returnType := none }, accessFlags := 0, code := some k16c0 }
def k16c1 : Code := { maxStack := 3, maxLocals := 1, code := jdk_2571_method_4_code, exceptionTable := #[], attributes := #[] }
def k16m1 : Method := { name := "iterator", desc := "()Ljava/util/Iterator;", sig := { parameters := [], returnType := some (.object "java/util/Iterator") }, accessFlags := 17, code := some k16c1 }
/-- java/util/HashMap$Values -/
def k16 : Class := { plain "java/util/HashMap$Values" (some 10) with
  accessFlags := 48
  interfaces := #[]
  cf := some (fileOf pool16 2 #[.nestHost 14] #[{ accessFlags := 0, nameIndex := 11, descriptorIndex := 26, attributes := #[] }, { accessFlags := 17, nameIndex := 83, descriptorIndex := 84, attributes := #[] }] 48 8 #[] #[{ accessFlags := 4112, nameIndex := 5, descriptorIndex := 6, attributes := #[] }])
  fields := #[{ name := "this$0", type := (.object "java/util/HashMap"), accessFlags := 4112, slot := 0, constantValue := 0 }]
  methods := #[k16m0, k16m1]
  instanceTypes := #[(.object "java/util/HashMap")]
  staticTypes := #[]
  resolved := Array.replicate 120 none
  statics := none }

def pool17 : Array CpInfo := pool [(1, .fieldref 2 3), (0, .class_ 4), (0, .nameAndType 5 6), (0, u "java/util/HashMap$HashIterator"), (0, u "this$0"), (0, u "Ljava/util/HashMap;"), (0, .methodref 8 9), (0, .class_ 10), (0, .nameAndType 11 12), (0, u "java/lang/Object"), (0, u "<init>"), (0, u "()V"), (0, .fieldref 14 15), (0, .class_ 16), (0, .nameAndType 17 18), (0, u "java/util/HashMap"), (0, u "modCount"), (0, u "I"), (0, .fieldref 2 20), (0, .nameAndType 21 18), (0, u "expectedModCount"), (0, .fieldref 14 23), (0, .nameAndType 24 25), (0, u "table"), (0, u "[Ljava/util/HashMap$Node;"), (0, .fieldref 2 27), (0, .nameAndType 28 29), (0, u "next"), (0, u "Ljava/util/HashMap$Node;"), (0, .fieldref 2 31), (0, .nameAndType 32 29), (0, u "current"), (0, .fieldref 2 34), (0, .nameAndType 35 18), (0, u "index"), (28, u "(Ljava/util/HashMap;)V"), (12, u "hasNext"), (0, u "()Z")] 12

def k17c0 : Code := { maxStack := 6, maxLocals := 3, code := jdk_99_method_1_code, exceptionTable := #[], attributes := #[] }
def k17m0 : Method := { name := "<init>", desc := "(Ljava/util/HashMap;)V", sig := { parameters := [(.object "java/util/HashMap")], returnType := none }, accessFlags := 0, code := some k17c0 }
def k17c1 : Code := { maxStack := 1, maxLocals := 1, code := jdk_99_method_2_code, exceptionTable := #[], attributes := #[] }
def k17m1 : Method := { name := "hasNext", desc := "()Z", sig := { parameters := [], returnType := some .boolean }, accessFlags := 17, code := some k17c1 }
/-- java/util/HashMap$HashIterator -/
def k17 : Class := { plain "java/util/HashMap$HashIterator" (some 0) with
  accessFlags := 1056
  interfaces := #[]
  cf := some (fileOf pool17 2 #[.nestHost 14] #[{ accessFlags := 0, nameIndex := 11, descriptorIndex := 64, attributes := #[] }, { accessFlags := 17, nameIndex := 77, descriptorIndex := 78, attributes := #[] }] 1056 8 #[] #[{ accessFlags := 0, nameIndex := 28, descriptorIndex := 29, attributes := #[] }, { accessFlags := 0, nameIndex := 32, descriptorIndex := 29, attributes := #[] }, { accessFlags := 0, nameIndex := 21, descriptorIndex := 18, attributes := #[] }, { accessFlags := 0, nameIndex := 35, descriptorIndex := 18, attributes := #[] }, { accessFlags := 4112, nameIndex := 5, descriptorIndex := 6, attributes := #[] }])
  fields := #[{ name := "next", type := (.object "java/util/HashMap$Node"), accessFlags := 0, slot := 0, constantValue := 0 }, { name := "current", type := (.object "java/util/HashMap$Node"), accessFlags := 0, slot := 1, constantValue := 0 }, { name := "expectedModCount", type := .int, accessFlags := 0, slot := 2, constantValue := 0 }, { name := "index", type := .int, accessFlags := 0, slot := 3, constantValue := 0 }, { name := "this$0", type := (.object "java/util/HashMap"), accessFlags := 4112, slot := 4, constantValue := 0 }]
  methods := #[k17m0, k17m1]
  instanceTypes := #[(.object "java/util/HashMap$Node"), (.object "java/util/HashMap$Node"), .int, .int, (.object "java/util/HashMap")]
  staticTypes := #[]
  resolved := Array.replicate 91 none
  statics := none }

def pool18 : Array CpInfo := pool [(16, .class_ 18), (1, u "java/util/Iterator"), (0, u "hasNext"), (0, u "()Z"), (10, .class_ 32), (0, u "java/lang/Object")] 20

def k18m0 : Method := { name := "hasNext", desc := "()Z", sig := { parameters := [], returnType := some .boolean }, accessFlags := 1025, code := none }
/-- java/util/Iterator -/
def k18 : Class := { plain "java/util/Iterator" (some 0) with
  accessFlags := 1537
  interfaces := #[]
  cf := some (fileOf pool18 16 #[] #[{ accessFlags := 1025, nameIndex := 19, descriptorIndex := 20, attributes := #[] }] 1537 31 #[] #[])
  fields := #[]
  methods := #[k18m0]
  instanceTypes := #[]
  staticTypes := #[]
  resolved := Array.replicate 53 none
  statics := none }

def pool19 : Array CpInfo := pool [(1, .methodref 2 3), (0, .class_ 4), (0, .nameAndType 5 6), (0, u "java/util/HashMap$HashIterator"), (0, u "<init>"), (0, u "(Ljava/util/HashMap;)V"), (1, .class_ 10), (1, u "java/util/HashMap$ValueIterator"), (8, .class_ 20), (0, u "java/util/Iterator"), (18, .class_ 40), (0, u "java/util/HashMap")] 4

def k19c0 : Code := { maxStack := 2, maxLocals := 2, code := jdk_2569_method_1_code, exceptionTable := #[], attributes := #[] }
def k19m0 : Method := { name := "<init>", desc := "(Ljava/util/HashMap;)V", sig := { parameters := [(.object "java/util/HashMap")], returnType := none }, accessFlags := 0, code := some k19c0 }
/-- java/util/HashMap$ValueIterator -/
def k19 : Class := { plain "java/util/HashMap$ValueIterator" (some 17) with
  accessFlags := 48
  interfaces := #[18]
  cf := some (fileOf pool19 8 #[.nestHost 39] #[{ accessFlags := 0, nameIndex := 5, descriptorIndex := 6, attributes := #[] }] 48 2 #[19] #[])
  fields := #[]
  methods := #[k19m0]
  instanceTypes := #[(.object "java/util/HashMap$Node"), (.object "java/util/HashMap$Node"), .int, .int, (.object "java/util/HashMap")]
  staticTypes := #[]
  resolved := Array.replicate 45 none
  statics := none }

def pool20 : Array CpInfo := pool [(26, .class_ 27), (0, u "java/lang/Object"), (5, .class_ 34), (0, u "java/util/Set"), (1, .class_ 38), (1, u "java/util/Collection")] 105

/-- java/util/Set -/
def k20 : Class := { plain "java/util/Set" (some 0) with
  accessFlags := 1537
  interfaces := #[9]
  cf := some (fileOf pool20 33 #[] #[] 1537 26 #[36] #[])
  fields := #[]
  methods := #[]
  instanceTypes := #[]
  staticTypes := #[]
  resolved := Array.replicate 144 none
  statics := none }

def pool21 : Array CpInfo := pool [(1, .methodref 2 3), (0, .class_ 4), (0, .nameAndType 5 6), (0, u "java/util/AbstractCollection"), (0, u "<init>"), (0, u "()V"), (0, .class_ 8), (0, u "java/util/Set"), (7, .class_ 17), (0, u "java/util/AbstractSet")] 78

def k21c0 : Code := { maxStack := 1, maxLocals := 1, code := jdk_91_method_1_code, exceptionTable := #[], attributes := #[] }
def k21m0 : Method := { name := "<init>", desc := "()V", sig := { parameters := [], returnType := none }, accessFlags := 4, code := some k21c0 }
/-- java/util/AbstractSet -/
def k21 : Class := { plain "java/util/AbstractSet" (some 10) with
  accessFlags := 1057
  interfaces := #[20]
  cf := some (fileOf pool21 16 #[] #[{ accessFlags := 4, nameIndex := 5, descriptorIndex := 6, attributes := #[] }] 1057 2 #[7] #[])
  fields := #[]
  methods := #[k21m0]
  instanceTypes := #[]
  staticTypes := #[]
  resolved := Array.replicate 96 none
  statics := none }

def pool22 : Array CpInfo := pool [(1, .methodref 2 3), (0, .class_ 4), (0, .nameAndType 5 6), (0, u "java/util/AbstractSet"), (0, u "<init>"), (0, u "()V"), (0, .class_ 8), (0, u "java/util/HashMap"), (0, .methodref 7 3), (0, .fieldref 11 12), (0, .class_ 13), (0, .nameAndType 14 15), (0, u "java/util/HashSet"), (0, u "map"), (0, u "Ljava/util/HashMap;"), (34, .class_ 52), (1, u "java/util/Set"), (13, u "PRESENT"), (0, u "Ljava/lang/Object;"), (158, .class_ 227), (0, u "java/lang/Cloneable"), (0, .class_ 229), (0, u "java/io/Serializable"), (0, u "serialVersionUID"), (0, u "J")] 71

def k22c0 : Code := { maxStack := 3, maxLocals := 1, code := jdk_93_method_1_code, exceptionTable := #[], attributes := #[] }
def k22m0 : Method := { name := "<init>", desc := "()V", sig := { parameters := [], returnType := none }, accessFlags := 1, code := some k22c0 }
/-- java/util/HashSet -/
def k22 : Class := { plain "java/util/HashSet" (some 21) with
  accessFlags := 33
  interfaces := #[20, 5, 6]
  cf := some (fileOf pool22 11 #[] #[{ accessFlags := 1, nameIndex := 5, descriptorIndex := 6, attributes := #[] }] 33 2 #[50, 226, 228] #[{ accessFlags := 24, nameIndex := 230, descriptorIndex := 231, attributes := #[] }, { accessFlags := 128, nameIndex := 14, descriptorIndex := 15, attributes := #[] }, { accessFlags := 24, nameIndex := 66, descriptorIndex := 67, attributes := #[] }])
  fields := #[{ name := "serialVersionUID", type := .long, accessFlags := 24, slot := 0, constantValue := 0 }, { name := "map", type := (.object "java/util/HashMap"), accessFlags := 128, slot := 0, constantValue := 0 }, { name := "PRESENT", type := (.object "java/lang/Object"), accessFlags := 24, slot := 1, constantValue := 0 }]
  methods := #[k22m0]
  instanceTypes := #[(.object "java/util/HashMap")]
  staticTypes := #[.long, (.object "java/lang/Object")]
  resolved := Array.replicate 303 none
  statics := none }

/-- the primitive byte -/
def k23 : Class := { plain "byte" none with kind := .primitive 'B', accessFlags := 0x411 }
/-- [B -/
def k24 : Class := { plain "[B" (some 0) with kind := .array 23 .byte, interfaces := #[5, 6], accessFlags := 1041 }

/-- the primitive int -/
def k25 : Class := { plain "int" none with kind := .primitive 'I', accessFlags := 0x411 }
/-- [I -/
def k26 : Class := { plain "[I" (some 0) with kind := .array 25 .int, interfaces := #[5, 6], accessFlags := 1041 }

/-- [Ljava/lang/Object; -/
def k27 : Class := { plain "[Ljava/lang/Object;" (some 0) with kind := .array 0 (.object "java/lang/Object"), interfaces := #[5, 6], accessFlags := 1041 }

def heap : Heap := #[{ cls := 15, slots := #[.long 0, .int 0, .ref 1, .ref 2], vm := .statics 15 },
  { cls := 27, slots := #[], vm := .none },
  { cls := 27, slots := #[], vm := .none }]
def classes : Array Class := #[k0, k1, k2, k3, k4, k5, k6, k7, k8, k9, k10, k11, k12, k13, k14, k15, k16, k17, k18, k19, k20, k21, k22, k23, k24, k25, k26, k27]
def interned : List (Array UInt16 × Addr) := []
def slotsUsed : Nat := 4
def theMethod : MethodId := ⟨1, 1⟩
def args0 : Array Value := #[.long 5, .int 7]
def aboutOver (below : List Frame) : State where
  vm := { classes := classes, interned := interned.toArray }
  heap := heap
  slotsUsed := slotsUsed
  threads := #[{ frames := .invoking theMethod args0 :: below }]
def below0 : List Frame := [.native { method := ⟨0, 0⟩, args := #[] }]
def about1 : State := aboutOver below0
def p0 : Program := .bare "" "" ""
def e0 : Env := launch0.env 0 0 0
theorem w_frames : about1.frames = Frame.invoking theMethod args0 :: below0 := rfl
set_option maxRecDepth 65536 in
theorem w_args : argsFit about1.vm theMethod args0 = true := by decide +kernel
set_option maxRecDepth 65536 in
theorem w_heap : heapFits about1 = true := by decide +kernel
set_option maxRecDepth 65536 in
theorem w_runnable : about1.curStatus? = some .runnable := by decide +kernel
set_option maxRecDepth 65536 in
theorem w_alone : about1.alone = true := by decide +kernel
set_option maxRecDepth 65536 in
theorem w_named : about1.methodNamed? x = some theMethod := by decide +kernel
set_option maxRecDepth 65536 in
theorem w_hears : about1.hears theMethod below0 = true := by decide +kernel
set_option maxRecDepth 65536 in
theorem w_ripe : about1.ripe theMethod args0 below0 = true := by decide +kernel
theorem w_running : about1.status = .running := rfl
set_option maxRecDepth 65536 in
theorem w_room : about1.hasRoom e0.platform room_1 = true :=
  launch0.hasRoom_least _ room_1 (by decide +kernel) (by decide +kernel) (by decide +kernel) (by decide +kernel) (by decide +kernel) (by decide +kernel)
theorem allAtoms_all (ts : List Jvm.Cond) (a : Array Jvm.Value) (st : Jvm.State) : (allAtoms ts).before a st = ts.all (fun c => c.before a st) := by
  induction ts with
  | nil => rfl
  | cons c t ih =>
    show (Jvm.Cond.and c (allAtoms t)).before a st = _
    rw [Jvm.Cond.before_and, ih, List.all_cons]
def words1 : List Jvm.Cond := Jvm.Cond.code x code maxLocals ret :: tables_1
/-- a 'code' word, met by the world's own term for the bytes: nothing is compared byte by byte -/
theorem code_word {y : MethodName} {bytes : ByteArray} {mx : Nat} {rt : Option FieldType} {a : Array Value} {s : State} {m : MethodId} {meth : Method} {c : Code} (h1 : s.methodNamed? y = some m) (h2 : s.vm.method? m = some meth) (h3 : meth.code = some c) (h4 : c.code = bytes)
    (h5 : (c.maxLocals == mx && c.exceptionTable.isEmpty && decide (c.maxStack ≤ mostOperands) && decide (meth.sig.returnType = rt) && !meth.locks && decide (parseMethodDescriptor y.desc = some meth.sig)) = true) : (Jvm.Cond.code y bytes mx rt).before a s = true := by
  simp only [Bool.and_eq_true, beq_iff_eq, Bool.not_eq_true', decide_eq_true_eq] at h5
  obtain ⟨⟨⟨⟨⟨g1, g2⟩, g3⟩, g4⟩, g5⟩, g6⟩ := h5
  simp [Cond.before, Cond.holds, Cond.value, h1, h2, h3, h4, g1, g2, g3, g4, g5, g6]
def isCode : Jvm.Cond → Bool
  | .code _ _ _ _ => true
  | _ => false
theorem all_split {L : List Jvm.Cond} {P : Jvm.Cond → Bool} (h1 : L.all (fun c => isCode c || P c) = true) (h2 : ∀ c ∈ L.filter isCode, P c = true) : L.all P = true := by
  refine List.all_eq_true.mpr fun c hc => ?_
  have h := List.all_eq_true.mp h1 c hc
  rcases Bool.eq_false_or_eq_true (isCode c) with hi | hi
  · exact h2 c (List.mem_filter.mpr ⟨hc, hi⟩)
  · simpa [hi] using h
set_option maxRecDepth 65536 in
theorem w_c0 : (Jvm.Cond.code x code maxLocals ret).before args0 about1 = true := code_word (m := ⟨1, 1⟩) (meth := k1m1) (c := k1c1) (by decide +kernel) rfl rfl rfl (by decide +kernel)
set_option maxRecDepth 65536 in
theorem w_c1 : (Jvm.Cond.code ({ cls := "com/example/koord/koord/LockTable", name := "<init>", desc := "(JZ)V" } : Jvm.MethodName) prog_11_method_1_code (4 : Nat) (Option.none : Option Jvm.ClassFile.FieldType)).before args0 about1 = true := code_word (m := ⟨2, 0⟩) (meth := k2m0) (c := k2c0) (by decide +kernel) rfl rfl rfl (by decide +kernel)
set_option maxRecDepth 65536 in
theorem w_c2 : (Jvm.Cond.code ({ cls := "java/lang/Object", name := "<init>", desc := "()V" } : Jvm.MethodName) object_method_1_code (1 : Nat) (Option.none : Option Jvm.ClassFile.FieldType)).before args0 about1 = true := code_word (m := ⟨0, 0⟩) (meth := k0m0) (c := k0c0) (by decide +kernel) rfl rfl rfl (by decide +kernel)
set_option maxRecDepth 65536 in
theorem w_c3 : (Jvm.Cond.code ({ cls := "java/util/HashMap", name := "<init>", desc := "()V" } : Jvm.MethodName) jdk_69_method_7_code (1 : Nat) (Option.none : Option Jvm.ClassFile.FieldType)).before args0 about1 = true := code_word (m := ⟨7, 0⟩) (meth := k7m0) (c := k7c0) (by decide +kernel) rfl rfl rfl (by decide +kernel)
set_option maxRecDepth 65536 in
theorem w_c4 : (Jvm.Cond.code ({ cls := "java/util/AbstractMap", name := "<init>", desc := "()V" } : Jvm.MethodName) jdk_71_method_1_code (1 : Nat) (Option.none : Option Jvm.ClassFile.FieldType)).before args0 about1 = true := code_word (m := ⟨4, 0⟩) (meth := k4m0) (c := k4c0) (by decide +kernel) rfl rfl rfl (by decide +kernel)
set_option maxRecDepth 65536 in
theorem w_c5 : (Jvm.Cond.code ({ cls := "com/example/koord/koord/LockTable", name := "withholding", desc := "()Z" } : Jvm.MethodName) prog_11_method_2_code (1 : Nat) (Option.some Jvm.ClassFile.FieldType.boolean)).before args0 about1 = true := code_word (m := ⟨2, 1⟩) (meth := k2m1) (c := k2c1) (by decide +kernel) rfl rfl rfl (by decide +kernel)
set_option maxRecDepth 65536 in
theorem w_c6 : (Jvm.Cond.code ({ cls := "com/example/koord/koord/LockTable", name := "grantWithheld", desc := "()Ljava/util/List;" } : Jvm.MethodName) prog_11_method_12_code (4 : Nat) (Option.some (Jvm.ClassFile.FieldType.object "java/util/List"))).before args0 about1 = true := code_word (m := ⟨2, 2⟩) (meth := k2m2) (c := k2c2) (by decide +kernel) rfl rfl rfl (by decide +kernel)
set_option maxRecDepth 65536 in
theorem w_c7 : (Jvm.Cond.code ({ cls := "java/util/ArrayList", name := "<init>", desc := "()V" } : Jvm.MethodName) jdk_38_method_2_code (1 : Nat) (Option.none : Option Jvm.ClassFile.FieldType)).before args0 about1 = true := code_word (m := ⟨15, 0⟩) (meth := k15m0) (c := k15c0) (by decide +kernel) rfl rfl rfl (by decide +kernel)
set_option maxRecDepth 65536 in
theorem w_c8 : (Jvm.Cond.code ({ cls := "java/util/AbstractList", name := "<init>", desc := "()V" } : Jvm.MethodName) jdk_39_method_1_code (1 : Nat) (Option.none : Option Jvm.ClassFile.FieldType)).before args0 about1 = true := code_word (m := ⟨13, 0⟩) (meth := k13m0) (c := k13c0) (by decide +kernel) rfl rfl rfl (by decide +kernel)
set_option maxRecDepth 65536 in
theorem w_c9 : (Jvm.Cond.code ({ cls := "java/util/AbstractCollection", name := "<init>", desc := "()V" } : Jvm.MethodName) jdk_22_method_1_code (1 : Nat) (Option.none : Option Jvm.ClassFile.FieldType)).before args0 about1 = true := code_word (m := ⟨10, 0⟩) (meth := k10m0) (c := k10c0) (by decide +kernel) rfl rfl rfl (by decide +kernel)
set_option maxRecDepth 65536 in
theorem w_c10 : (Jvm.Cond.code ({ cls := "java/util/HashMap", name := "values", desc := "()Ljava/util/Collection;" } : Jvm.MethodName) jdk_69_method_28_code (2 : Nat) (Option.some (Jvm.ClassFile.FieldType.object "java/util/Collection"))).before args0 about1 = true := code_word (m := ⟨7, 1⟩) (meth := k7m1) (c := k7c1) (by decide +kernel) rfl rfl rfl (by decide +kernel)
set_option maxRecDepth 65536 in
theorem w_c11 : (Jvm.Cond.code ({ cls := "java/util/HashMap$Values", name := "<init>", desc := "(Ljava/util/HashMap;)V" } : Jvm.MethodName) jdk_2571_method_1_code (2 : Nat) (Option.none : Option Jvm.ClassFile.FieldType)).before args0 about1 = true := code_word (m := ⟨16, 0⟩) (meth := k16m0) (c := k16c0) (by decide +kernel) rfl rfl rfl (by decide +kernel)
set_option maxRecDepth 65536 in
theorem w_c12 : (Jvm.Cond.code ({ cls := "java/util/HashMap$Values", name := "iterator", desc := "()Ljava/util/Iterator;" } : Jvm.MethodName) jdk_2571_method_4_code (1 : Nat) (Option.some (Jvm.ClassFile.FieldType.object "java/util/Iterator"))).before args0 about1 = true := code_word (m := ⟨16, 1⟩) (meth := k16m1) (c := k16c1) (by decide +kernel) rfl rfl rfl (by decide +kernel)
set_option maxRecDepth 65536 in
theorem w_c13 : (Jvm.Cond.code ({ cls := "java/util/HashMap$ValueIterator", name := "<init>", desc := "(Ljava/util/HashMap;)V" } : Jvm.MethodName) jdk_2569_method_1_code (2 : Nat) (Option.none : Option Jvm.ClassFile.FieldType)).before args0 about1 = true := code_word (m := ⟨19, 0⟩) (meth := k19m0) (c := k19c0) (by decide +kernel) rfl rfl rfl (by decide +kernel)
set_option maxRecDepth 65536 in
theorem w_c14 : (Jvm.Cond.code ({ cls := "java/util/HashMap$HashIterator", name := "<init>", desc := "(Ljava/util/HashMap;)V" } : Jvm.MethodName) jdk_99_method_1_code (3 : Nat) (Option.none : Option Jvm.ClassFile.FieldType)).before args0 about1 = true := code_word (m := ⟨17, 0⟩) (meth := k17m0) (c := k17c0) (by decide +kernel) rfl rfl rfl (by decide +kernel)
set_option maxRecDepth 65536 in
theorem w_c15 : (Jvm.Cond.code ({ cls := "java/util/HashMap$HashIterator", name := "hasNext", desc := "()Z" } : Jvm.MethodName) jdk_99_method_2_code (1 : Nat) (Option.some Jvm.ClassFile.FieldType.boolean)).before args0 about1 = true := code_word (m := ⟨17, 1⟩) (meth := k17m1) (c := k17c1) (by decide +kernel) rfl rfl rfl (by decide +kernel)
set_option maxRecDepth 65536 in
theorem w_c16 : (Jvm.Cond.code ({ cls := "java/util/HashSet", name := "<init>", desc := "()V" } : Jvm.MethodName) jdk_93_method_1_code (1 : Nat) (Option.none : Option Jvm.ClassFile.FieldType)).before args0 about1 = true := code_word (m := ⟨22, 0⟩) (meth := k22m0) (c := k22c0) (by decide +kernel) rfl rfl rfl (by decide +kernel)
set_option maxRecDepth 65536 in
theorem w_c17 : (Jvm.Cond.code ({ cls := "java/util/AbstractSet", name := "<init>", desc := "()V" } : Jvm.MethodName) jdk_91_method_1_code (1 : Nat) (Option.none : Option Jvm.ClassFile.FieldType)).before args0 about1 = true := code_word (m := ⟨21, 0⟩) (meth := k21m0) (c := k21c0) (by decide +kernel) rfl rfl rfl (by decide +kernel)
def codes1 : List Jvm.Cond := [Jvm.Cond.code x code maxLocals ret, Jvm.Cond.code ({ cls := "com/example/koord/koord/LockTable", name := "<init>", desc := "(JZ)V" } : Jvm.MethodName) prog_11_method_1_code (4 : Nat) (Option.none : Option Jvm.ClassFile.FieldType), Jvm.Cond.code ({ cls := "java/lang/Object", name := "<init>", desc := "()V" } : Jvm.MethodName) object_method_1_code (1 : Nat) (Option.none : Option Jvm.ClassFile.FieldType), Jvm.Cond.code ({ cls := "java/util/HashMap", name := "<init>", desc := "()V" } : Jvm.MethodName) jdk_69_method_7_code (1 : Nat) (Option.none : Option Jvm.ClassFile.FieldType), Jvm.Cond.code ({ cls := "java/util/AbstractMap", name := "<init>", desc := "()V" } : Jvm.MethodName) jdk_71_method_1_code (1 : Nat) (Option.none : Option Jvm.ClassFile.FieldType), Jvm.Cond.code ({ cls := "com/example/koord/koord/LockTable", name := "withholding", desc := "()Z" } : Jvm.MethodName) prog_11_method_2_code (1 : Nat) (Option.some Jvm.ClassFile.FieldType.boolean), Jvm.Cond.code ({ cls := "com/example/koord/koord/LockTable", name := "grantWithheld", desc := "()Ljava/util/List;" } : Jvm.MethodName) prog_11_method_12_code (4 : Nat) (Option.some (Jvm.ClassFile.FieldType.object "java/util/List")), Jvm.Cond.code ({ cls := "java/util/ArrayList", name := "<init>", desc := "()V" } : Jvm.MethodName) jdk_38_method_2_code (1 : Nat) (Option.none : Option Jvm.ClassFile.FieldType), Jvm.Cond.code ({ cls := "java/util/AbstractList", name := "<init>", desc := "()V" } : Jvm.MethodName) jdk_39_method_1_code (1 : Nat) (Option.none : Option Jvm.ClassFile.FieldType), Jvm.Cond.code ({ cls := "java/util/AbstractCollection", name := "<init>", desc := "()V" } : Jvm.MethodName) jdk_22_method_1_code (1 : Nat) (Option.none : Option Jvm.ClassFile.FieldType), Jvm.Cond.code ({ cls := "java/util/HashMap", name := "values", desc := "()Ljava/util/Collection;" } : Jvm.MethodName) jdk_69_method_28_code (2 : Nat) (Option.some (Jvm.ClassFile.FieldType.object "java/util/Collection")), Jvm.Cond.code ({ cls := "java/util/HashMap$Values", name := "<init>", desc := "(Ljava/util/HashMap;)V" } : Jvm.MethodName) jdk_2571_method_1_code (2 : Nat) (Option.none : Option Jvm.ClassFile.FieldType), Jvm.Cond.code ({ cls := "java/util/HashMap$Values", name := "iterator", desc := "()Ljava/util/Iterator;" } : Jvm.MethodName) jdk_2571_method_4_code (1 : Nat) (Option.some (Jvm.ClassFile.FieldType.object "java/util/Iterator")), Jvm.Cond.code ({ cls := "java/util/HashMap$ValueIterator", name := "<init>", desc := "(Ljava/util/HashMap;)V" } : Jvm.MethodName) jdk_2569_method_1_code (2 : Nat) (Option.none : Option Jvm.ClassFile.FieldType), Jvm.Cond.code ({ cls := "java/util/HashMap$HashIterator", name := "<init>", desc := "(Ljava/util/HashMap;)V" } : Jvm.MethodName) jdk_99_method_1_code (3 : Nat) (Option.none : Option Jvm.ClassFile.FieldType), Jvm.Cond.code ({ cls := "java/util/HashMap$HashIterator", name := "hasNext", desc := "()Z" } : Jvm.MethodName) jdk_99_method_2_code (1 : Nat) (Option.some Jvm.ClassFile.FieldType.boolean), Jvm.Cond.code ({ cls := "java/util/HashSet", name := "<init>", desc := "()V" } : Jvm.MethodName) jdk_93_method_1_code (1 : Nat) (Option.none : Option Jvm.ClassFile.FieldType), Jvm.Cond.code ({ cls := "java/util/AbstractSet", name := "<init>", desc := "()V" } : Jvm.MethodName) jdk_91_method_1_code (1 : Nat) (Option.none : Option Jvm.ClassFile.FieldType)]
set_option maxRecDepth 65536 in
theorem codes_eq : words1.filter isCode = codes1 := rfl
theorem w_codes : ∀ c ∈ words1.filter isCode, c.before args0 about1 = true := by
  rw [codes_eq]
  intro c hc
  simp only [codes1, List.mem_cons, List.not_mem_nil, or_false] at hc
  rcases hc with rfl | rfl | rfl | rfl | rfl | rfl | rfl | rfl | rfl | rfl | rfl | rfl | rfl | rfl | rfl | rfl | rfl | rfl
  · exact w_c0
  · exact w_c1
  · exact w_c2
  · exact w_c3
  · exact w_c4
  · exact w_c5
  · exact w_c6
  · exact w_c7
  · exact w_c8
  · exact w_c9
  · exact w_c10
  · exact w_c11
  · exact w_c12
  · exact w_c13
  · exact w_c14
  · exact w_c15
  · exact w_c16
  · exact w_c17
set_option maxRecDepth 65536 in
theorem w_t1 : (words1.take 24).all (fun c => isCode c || c.before args0 about1) = true := by decide +kernel
set_option maxRecDepth 65536 in
theorem w_t2 : ((words1.drop 24).take 24).all (fun c => isCode c || c.before args0 about1) = true := by decide +kernel
set_option maxRecDepth 65536 in
theorem w_t3 : (((words1.drop 24).drop 24).take 24).all (fun c => isCode c || c.before args0 about1) = true := by decide +kernel
set_option maxRecDepth 65536 in
theorem w_t4 : ((((words1.drop 24).drop 24).drop 24).take 24).all (fun c => isCode c || c.before args0 about1) = true := by decide +kernel
set_option maxRecDepth 65536 in
theorem w_t5 : (((((words1.drop 24).drop 24).drop 24).drop 24).take 24).all (fun c => isCode c || c.before args0 about1) = true := by decide +kernel
set_option maxRecDepth 65536 in
theorem w_t6 : ((((((words1.drop 24).drop 24).drop 24).drop 24).drop 24).take 24).all (fun c => isCode c || c.before args0 about1) = true := by decide +kernel
set_option maxRecDepth 65536 in
theorem w_t7 : ((((((words1.drop 24).drop 24).drop 24).drop 24).drop 24).drop 24).all (fun c => isCode c || c.before args0 about1) = true := by decide +kernel
theorem w_tables : (allAtoms (Jvm.Cond.code x code maxLocals ret :: tables_1)).before args0 about1 = true := by
  rw [allAtoms_all]
  show words1.all (fun c => c.before args0 about1) = true
  refine all_split ?_ w_codes
  rw [← List.take_append_drop 24 words1, List.all_append, w_t1, ← List.take_append_drop 24 (words1.drop 24), List.all_append, w_t2, ← List.take_append_drop 24 ((words1.drop 24).drop 24), List.all_append, w_t3, ← List.take_append_drop 24 (((words1.drop 24).drop 24).drop 24), List.all_append, w_t4, ← List.take_append_drop 24 ((((words1.drop 24).drop 24).drop 24).drop 24), List.all_append, w_t5, ← List.take_append_drop 24 (((((words1.drop 24).drop 24).drop 24).drop 24).drop 24), List.all_append, w_t6, w_t7]
  rfl
set_option maxRecDepth 65536 in
theorem w_rest : rest_1_c.before args0 about1 = true := by decide +kernel
set_option maxRecDepth 65536 in
theorem w_case : (Jvm.Cond.and given_1 narrow_1).before args0 about1 = true := by decide +kernel
theorem w_applies : (headSpec (Jvm.Cond.code x code maxLocals ret :: tables_1) room_1).applies x e0.platform about1 = true :=
  (Spec.applies_iff w_frames).mpr ⟨w_running, w_runnable, w_alone, w_named, w_hears, w_ripe, w_room, w_tables⟩
theorem atStart : AtStart classFile x code maxLocals ret World_1 tables_1 room_1 Calls_1 rest_1 Pre_1 launch0 p0 e0 about1 theMethod args0 below0 :=
  ⟨lists_1, trivial, launch0.admits_env _ _ _, launch0.least_env, fairChoices_fair.cas, fairChoices_fair.clock, w_frames, w_args, w_heap, w_applies, trivial, w_rest, w_case⟩
end start1
theorem witness_1 : WitnessClaimed_1 := ⟨start1.p0, start1.e0, start1.about1, start1.theMethod, start1.args0, start1.below0, start1.atStart⟩
end Jvm.Pilot.@@N@@
