import JvmDerived
import JvmDerived.Pilot.@@N@@Statement
import JvmDerived.Pilot.@@N@@Code
set_option linter.unusedVariables false
set_option linter.unusedSimpArgs false
namespace Jvm.Pilot.@@N@@
open Jvm Jvm.ClassFile Sem Op Lib Jvm.Free Jvm.Stand Jvm.LawKit Jvm.RoadKit Bundle Jvm.Pilot.@@N@@.Jvm.D
section OwnKit
/-- the run goes on from here to the method's end; what it leaves is Q -/
def Go (p : Program) (e : Env) (below : List Frame) (s : State) (k n : Nat) (Q : Option Value → Heap → List Loc → Prop) (T : State) (g : JFrame) : Prop :=
  ∃ s₂ o, Steps p.tables e below (T.setTop g) s₂ ∧ s₂.status = .running ∧ Ended s₂ below o ∧ ∃ v L, o = .returned v ∧ Q v s₂.heap L ∧ FrameEnd s o s₂ L k n
variable {p : Program} {l : Launch} {e : Env} {R : Room} {s : State} {m : MethodId} {args : Array Value} {below : List Frame} {meth : Method} {c : Code} {T : State} {locs : List Loc} {cells slots : Nat} {k n : Nat} {Q : Option Value → Heap → List Loc → Prop} {pc : Nat} {Ls : Array Slot} {st : List Value} {Z : State} {a0 : Array Value} {h h' : Heap}
theorem Go.via {T' : State} {g g' : JFrame} (q : ∀ t, Steps p.tables e below (T'.setTop g') t → Steps p.tables e below (T.setTop g) t) (H : Go p e below s k n Q T' g') : Go p e below s k n Q T g := by
  obtain ⟨s₂, o, h1, r⟩ := H
  exact ⟨s₂, o, q _ h1, r⟩
theorem tltL {x y : Int64} (q : x < y) : ifCond.holds .lt (lcmpW x y) = true ∧ ifCond.holds .ge (lcmpW x y) = false ∧ ifCond.holds .gt (lcmpW y x) = true ∧ ifCond.holds .le (lcmpW y x) = false := by
  simp only [if0]
  exact ⟨(tlt ((lw_lt x y).mpr q)).1, (tlt ((lw_lt x y).mpr q)).2.1, (tlt ((lw_gt y x).mpr q)).2.2.1, (tlt ((lw_gt y x).mpr q)).2.2.2⟩
theorem fltL {x y : Int64} (q : ¬ x < y) : ifCond.holds .lt (lcmpW x y) = false ∧ ifCond.holds .ge (lcmpW x y) = true ∧ ifCond.holds .gt (lcmpW y x) = false ∧ ifCond.holds .le (lcmpW y x) = true := by
  simp only [if0]
  exact ⟨(flt (mt (lw_lt x y).mp q)).1, (flt (mt (lw_lt x y).mp q)).2.1, (flt (mt (lw_gt y x).mp q)).2.2.1, (flt (mt (lw_gt y x).mp q)).2.2.2⟩
theorem teqL {x y : Int64} (q : x = y) : ifCond.holds .eq (lcmpW x y) = true ∧ ifCond.holds .ne (lcmpW x y) = false := by
  simp only [if0]
  exact ⟨(teq ((lw_eq x y).mpr q)).1, (teq ((lw_eq x y).mpr q)).2⟩
theorem feqL {x y : Int64} (q : ¬ x = y) : ifCond.holds .eq (lcmpW x y) = false ∧ ifCond.holds .ne (lcmpW x y) = true := by
  simp only [if0]
  exact ⟨(feq (mt (lw_eq x y).mp q)).1, (feq (mt (lw_eq x y).mp q)).2⟩
theorem tlt0 {x y : Int32} (q : x < y) : (y = 0 → ifCond.holds .lt x = true ∧ ifCond.holds .ge x = false) ∧ (x = 0 → ifCond.holds .gt y = true ∧ ifCond.holds .le y = false) := by
  refine ⟨fun r => ?_, fun r => ?_⟩ <;> subst r <;> simp only [if0]
  · exact ⟨(tlt q).1, (tlt q).2.1⟩
  · exact ⟨(tlt q).2.2.1, (tlt q).2.2.2⟩
theorem g_iloadN (pc' : Nat) (X : Stand p l e R s m args below meth c T locs cells slots) (hx : p.tables.exec = Jvm.exec) {i : Fin 4} {v : Int32} (hd : decode c.code pc = .ok (.iload_n i, 1)) (hp : pc + 1 = pc') (hl : Ls[i.val]? = some (.val (.int v))) (H : Go p e below s k n Q T (mkF m pc' Ls (.int v :: st))) : Go p e below s k n Q T (mkF m pc Ls st) := by
  subst hp
  exact H.via fun t q => XS.iloadN X.here hx rfl hd hl q
theorem g_iload (pc' : Nat) (X : Stand p l e R s m args below meth c T locs cells slots) (hx : p.tables.exec = Jvm.exec) {i : Nat} {v : Int32} (hd : decode c.code pc = .ok (.iload i, 2)) (hp : pc + 2 = pc') (hl : Ls[i]? = some (.val (.int v))) (H : Go p e below s k n Q T (mkF m pc' Ls (.int v :: st))) : Go p e below s k n Q T (mkF m pc Ls st) := by
  subst hp
  exact H.via fun t q => XS.iload X.here hx rfl hd hl q
theorem g_istoreN (pc' : Nat) (X : Stand p l e R s m args below meth c T locs cells slots) (hx : p.tables.exec = Jvm.exec) {i : Fin 4} {v : Int32} {Ls' : Array Slot} (hd : decode c.code pc = .ok (.istore_n i, 1)) (hp : pc + 1 = pc') (hl : storeLocals Ls i.val (.int v) = some Ls') (H : Go p e below s k n Q T (mkF m pc' Ls' st)) : Go p e below s k n Q T (mkF m pc Ls (.int v :: st)) := by
  subst hp
  exact H.via fun t q => XS.istoreN X.here hx rfl hd rfl hl q
theorem g_istore (pc' : Nat) (X : Stand p l e R s m args below meth c T locs cells slots) (hx : p.tables.exec = Jvm.exec) {i : Nat} {v : Int32} {Ls' : Array Slot} (hd : decode c.code pc = .ok (.istore i, 2)) (hp : pc + 2 = pc') (hl : storeLocals Ls i (.int v) = some Ls') (H : Go p e below s k n Q T (mkF m pc' Ls' st)) : Go p e below s k n Q T (mkF m pc Ls (.int v :: st)) := by
  subst hp
  exact H.via fun t q => XS.istore X.here hx rfl hd rfl hl q
theorem g_lloadN (pc' : Nat) (X : Stand p l e R s m args below meth c T locs cells slots) (hx : p.tables.exec = Jvm.exec) {i : Fin 4} {v : Int64} (hd : decode c.code pc = .ok (.lload_n i, 1)) (hp : pc + 1 = pc') (hl : Ls[i.val]? = some (.val (.long v))) (H : Go p e below s k n Q T (mkF m pc' Ls (.long v :: st))) : Go p e below s k n Q T (mkF m pc Ls st) := by
  subst hp
  exact H.via fun t q => XS.lloadN X.here hx rfl hd hl q
theorem g_lload (pc' : Nat) (X : Stand p l e R s m args below meth c T locs cells slots) (hx : p.tables.exec = Jvm.exec) {i : Nat} {v : Int64} (hd : decode c.code pc = .ok (.lload i, 2)) (hp : pc + 2 = pc') (hl : Ls[i]? = some (.val (.long v))) (H : Go p e below s k n Q T (mkF m pc' Ls (.long v :: st))) : Go p e below s k n Q T (mkF m pc Ls st) := by
  subst hp
  exact H.via fun t q => XS.lload X.here hx rfl hd hl q
theorem g_lstoreN (pc' : Nat) (X : Stand p l e R s m args below meth c T locs cells slots) (hx : p.tables.exec = Jvm.exec) {i : Fin 4} {v : Int64} {Ls' : Array Slot} (hd : decode c.code pc = .ok (.lstore_n i, 1)) (hp : pc + 1 = pc') (hl : storeLocals Ls i.val (.long v) = some Ls') (H : Go p e below s k n Q T (mkF m pc' Ls' st)) : Go p e below s k n Q T (mkF m pc Ls (.long v :: st)) := by
  subst hp
  exact H.via fun t q => XS.lstoreN X.here hx rfl hd rfl hl q
theorem g_lstore (pc' : Nat) (X : Stand p l e R s m args below meth c T locs cells slots) (hx : p.tables.exec = Jvm.exec) {i : Nat} {v : Int64} {Ls' : Array Slot} (hd : decode c.code pc = .ok (.lstore i, 2)) (hp : pc + 2 = pc') (hl : storeLocals Ls i (.long v) = some Ls') (H : Go p e below s k n Q T (mkF m pc' Ls' st)) : Go p e below s k n Q T (mkF m pc Ls (.long v :: st)) := by
  subst hp
  exact H.via fun t q => XS.lstore X.here hx rfl hd rfl hl q
theorem g_aloadN (pc' : Nat) (X : Stand p l e R s m args below meth c T locs cells slots) (hx : p.tables.exec = Jvm.exec) {i : Fin 4} {v : Value} (hd : decode c.code pc = .ok (.aload_n i, 1)) (hp : pc + 1 = pc') (hl : Ls[i.val]? = some (.val v)) (hv : v.isRef = true) (H : Go p e below s k n Q T (mkF m pc' Ls (v :: st))) : Go p e below s k n Q T (mkF m pc Ls st) := by
  subst hp
  exact H.via fun t q => XS.aloadN X.here hx rfl hd hl hv q
theorem g_aload (pc' : Nat) (X : Stand p l e R s m args below meth c T locs cells slots) (hx : p.tables.exec = Jvm.exec) {i : Nat} {v : Value} (hd : decode c.code pc = .ok (.aload i, 2)) (hp : pc + 2 = pc') (hl : Ls[i]? = some (.val v)) (hv : v.isRef = true) (H : Go p e below s k n Q T (mkF m pc' Ls (v :: st))) : Go p e below s k n Q T (mkF m pc Ls st) := by
  subst hp
  exact H.via fun t q => XS.aload X.here hx rfl hd hl hv q
theorem g_astoreN (pc' : Nat) (X : Stand p l e R s m args below meth c T locs cells slots) (hx : p.tables.exec = Jvm.exec) {i : Fin 4} {v : Value} {Ls' : Array Slot} (hd : decode c.code pc = .ok (.astore_n i, 1)) (hp : pc + 1 = pc') (hv : v.isRef = true) (hl : storeLocals Ls i.val v = some Ls') (H : Go p e below s k n Q T (mkF m pc' Ls' st)) : Go p e below s k n Q T (mkF m pc Ls (v :: st)) := by
  subst hp
  exact H.via fun t q => XS.astoreN X.here hx rfl hd rfl hv hl q
theorem g_astore (pc' : Nat) (X : Stand p l e R s m args below meth c T locs cells slots) (hx : p.tables.exec = Jvm.exec) {i : Nat} {v : Value} {Ls' : Array Slot} (hd : decode c.code pc = .ok (.astore i, 2)) (hp : pc + 2 = pc') (hv : v.isRef = true) (hl : storeLocals Ls i v = some Ls') (H : Go p e below s k n Q T (mkF m pc' Ls' st)) : Go p e below s k n Q T (mkF m pc Ls (v :: st)) := by
  subst hp
  exact H.via fun t q => XS.astore X.here hx rfl hd rfl hv hl q
theorem g_iconst (pc' : Nat) (X : Stand p l e R s m args below meth c T locs cells slots) (hx : p.tables.exec = Jvm.exec) {i : Int} {z : Int32} (hd : decode c.code pc = .ok (.iconst i, 1)) (hp : pc + 1 = pc') (hz : Int32.ofInt i = z) (H : Go p e below s k n Q T (mkF m pc' Ls (.int z :: st))) : Go p e below s k n Q T (mkF m pc Ls st) := by
  subst hp hz
  exact H.via fun t q => XS.iconst X.here hx rfl hd q
theorem g_bipush (pc' : Nat) (X : Stand p l e R s m args below meth c T locs cells slots) (hx : p.tables.exec = Jvm.exec) {i : Int} {z : Int32} (hd : decode c.code pc = .ok (.bipush i, 2)) (hp : pc + 2 = pc') (hz : (Int8.ofInt i).toInt32 = z) (H : Go p e below s k n Q T (mkF m pc' Ls (.int z :: st))) : Go p e below s k n Q T (mkF m pc Ls st) := by
  subst hp hz
  exact H.via fun t q => XS.bipush X.here hx rfl hd q
theorem g_sipush (pc' : Nat) (X : Stand p l e R s m args below meth c T locs cells slots) (hx : p.tables.exec = Jvm.exec) {i : Int} {z : Int32} (hd : decode c.code pc = .ok (.sipush i, 3)) (hp : pc + 3 = pc') (hz : (Int16.ofInt i).toInt32 = z) (H : Go p e below s k n Q T (mkF m pc' Ls (.int z :: st))) : Go p e below s k n Q T (mkF m pc Ls st) := by
  subst hp hz
  exact H.via fun t q => XS.sipush X.here hx rfl hd q
theorem g_lconst (pc' : Nat) (X : Stand p l e R s m args below meth c T locs cells slots) (hx : p.tables.exec = Jvm.exec) {i : Fin 2} {z : Int64} (hd : decode c.code pc = .ok (.lconst i, 1)) (hp : pc + 1 = pc') (hz : Int64.ofNat i.val = z) (H : Go p e below s k n Q T (mkF m pc' Ls (.long z :: st))) : Go p e below s k n Q T (mkF m pc Ls st) := by
  subst hp hz
  exact H.via fun t q => XS.lconst X.here hx rfl hd q
theorem g_aconst_null (pc' : Nat) (X : Stand p l e R s m args below meth c T locs cells slots) (hx : p.tables.exec = Jvm.exec) (hd : decode c.code pc = .ok (.aconst_null, 1)) (hp : pc + 1 = pc')  (H : Go p e below s k n Q T (mkF m pc' Ls (.null :: st))) : Go p e below s k n Q T (mkF m pc Ls st) := by
  subst hp
  exact H.via fun t q => XS.aconstNull X.here hx rfl hd q
theorem g_iadd (pc' : Nat) (X : Stand p l e R s m args below meth c T locs cells slots) (hx : p.tables.exec = Jvm.exec) {x y z : Int32} (hd : decode c.code pc = .ok (.iadd, 1)) (hp : pc + 1 = pc') (hz : x + y = z) (H : Go p e below s k n Q T (mkF m pc' Ls (.int z :: st))) : Go p e below s k n Q T (mkF m pc Ls (.int y :: .int x :: st)) := by
  subst hp hz
  exact H.via fun t q => XS.iadd X.here hx rfl hd rfl q
theorem g_isub (pc' : Nat) (X : Stand p l e R s m args below meth c T locs cells slots) (hx : p.tables.exec = Jvm.exec) {x y z : Int32} (hd : decode c.code pc = .ok (.isub, 1)) (hp : pc + 1 = pc') (hz : x - y = z) (H : Go p e below s k n Q T (mkF m pc' Ls (.int z :: st))) : Go p e below s k n Q T (mkF m pc Ls (.int y :: .int x :: st)) := by
  subst hp hz
  exact H.via fun t q => XS.isub X.here hx rfl hd rfl q
theorem g_imul (pc' : Nat) (X : Stand p l e R s m args below meth c T locs cells slots) (hx : p.tables.exec = Jvm.exec) {x y z : Int32} (hd : decode c.code pc = .ok (.imul, 1)) (hp : pc + 1 = pc') (hz : x * y = z) (H : Go p e below s k n Q T (mkF m pc' Ls (.int z :: st))) : Go p e below s k n Q T (mkF m pc Ls (.int y :: .int x :: st)) := by
  subst hp hz
  exact H.via fun t q => XS.imul X.here hx rfl hd rfl q
theorem g_iand (pc' : Nat) (X : Stand p l e R s m args below meth c T locs cells slots) (hx : p.tables.exec = Jvm.exec) {x y z : Int32} (hd : decode c.code pc = .ok (.iand, 1)) (hp : pc + 1 = pc') (hz : x &&& y = z) (H : Go p e below s k n Q T (mkF m pc' Ls (.int z :: st))) : Go p e below s k n Q T (mkF m pc Ls (.int y :: .int x :: st)) := by
  subst hp hz
  exact H.via fun t q => XS.iand X.here hx rfl hd rfl q
theorem g_ior (pc' : Nat) (X : Stand p l e R s m args below meth c T locs cells slots) (hx : p.tables.exec = Jvm.exec) {x y z : Int32} (hd : decode c.code pc = .ok (.ior, 1)) (hp : pc + 1 = pc') (hz : x ||| y = z) (H : Go p e below s k n Q T (mkF m pc' Ls (.int z :: st))) : Go p e below s k n Q T (mkF m pc Ls (.int y :: .int x :: st)) := by
  subst hp hz
  exact H.via fun t q => XS.ior X.here hx rfl hd rfl q
theorem g_ixor (pc' : Nat) (X : Stand p l e R s m args below meth c T locs cells slots) (hx : p.tables.exec = Jvm.exec) {x y z : Int32} (hd : decode c.code pc = .ok (.ixor, 1)) (hp : pc + 1 = pc') (hz : x ^^^ y = z) (H : Go p e below s k n Q T (mkF m pc' Ls (.int z :: st))) : Go p e below s k n Q T (mkF m pc Ls (.int y :: .int x :: st)) := by
  subst hp hz
  exact H.via fun t q => XS.ixor X.here hx rfl hd rfl q
theorem g_ladd (pc' : Nat) (X : Stand p l e R s m args below meth c T locs cells slots) (hx : p.tables.exec = Jvm.exec) {x y z : Int64} (hd : decode c.code pc = .ok (.ladd, 1)) (hp : pc + 1 = pc') (hz : x + y = z) (H : Go p e below s k n Q T (mkF m pc' Ls (.long z :: st))) : Go p e below s k n Q T (mkF m pc Ls (.long y :: .long x :: st)) := by
  subst hp hz
  exact H.via fun t q => XS.ladd X.here hx rfl hd rfl q
theorem g_lsub (pc' : Nat) (X : Stand p l e R s m args below meth c T locs cells slots) (hx : p.tables.exec = Jvm.exec) {x y z : Int64} (hd : decode c.code pc = .ok (.lsub, 1)) (hp : pc + 1 = pc') (hz : x - y = z) (H : Go p e below s k n Q T (mkF m pc' Ls (.long z :: st))) : Go p e below s k n Q T (mkF m pc Ls (.long y :: .long x :: st)) := by
  subst hp hz
  exact H.via fun t q => XS.lsub X.here hx rfl hd rfl q
theorem g_lmul (pc' : Nat) (X : Stand p l e R s m args below meth c T locs cells slots) (hx : p.tables.exec = Jvm.exec) {x y z : Int64} (hd : decode c.code pc = .ok (.lmul, 1)) (hp : pc + 1 = pc') (hz : x * y = z) (H : Go p e below s k n Q T (mkF m pc' Ls (.long z :: st))) : Go p e below s k n Q T (mkF m pc Ls (.long y :: .long x :: st)) := by
  subst hp hz
  exact H.via fun t q => XS.lmul X.here hx rfl hd rfl q
theorem g_land (pc' : Nat) (X : Stand p l e R s m args below meth c T locs cells slots) (hx : p.tables.exec = Jvm.exec) {x y z : Int64} (hd : decode c.code pc = .ok (.land, 1)) (hp : pc + 1 = pc') (hz : x &&& y = z) (H : Go p e below s k n Q T (mkF m pc' Ls (.long z :: st))) : Go p e below s k n Q T (mkF m pc Ls (.long y :: .long x :: st)) := by
  subst hp hz
  exact H.via fun t q => XS.land X.here hx rfl hd rfl q
theorem g_lor (pc' : Nat) (X : Stand p l e R s m args below meth c T locs cells slots) (hx : p.tables.exec = Jvm.exec) {x y z : Int64} (hd : decode c.code pc = .ok (.lor, 1)) (hp : pc + 1 = pc') (hz : x ||| y = z) (H : Go p e below s k n Q T (mkF m pc' Ls (.long z :: st))) : Go p e below s k n Q T (mkF m pc Ls (.long y :: .long x :: st)) := by
  subst hp hz
  exact H.via fun t q => XS.lor X.here hx rfl hd rfl q
theorem g_lxor (pc' : Nat) (X : Stand p l e R s m args below meth c T locs cells slots) (hx : p.tables.exec = Jvm.exec) {x y z : Int64} (hd : decode c.code pc = .ok (.lxor, 1)) (hp : pc + 1 = pc') (hz : x ^^^ y = z) (H : Go p e below s k n Q T (mkF m pc' Ls (.long z :: st))) : Go p e below s k n Q T (mkF m pc Ls (.long y :: .long x :: st)) := by
  subst hp hz
  exact H.via fun t q => XS.lxor X.here hx rfl hd rfl q
theorem g_ishl (pc' : Nat) (X : Stand p l e R s m args below meth c T locs cells slots) (hx : p.tables.exec = Jvm.exec) {x y z : Int32} (hd : decode c.code pc = .ok (.ishl, 1)) (hp : pc + 1 = pc') (hz : x <<< (y &&& 31) = z) (H : Go p e below s k n Q T (mkF m pc' Ls (.int z :: st))) : Go p e below s k n Q T (mkF m pc Ls (.int y :: .int x :: st)) := by
  subst hp hz
  exact H.via fun t q => XS.ishl X.here hx rfl hd rfl q
theorem g_ishr (pc' : Nat) (X : Stand p l e R s m args below meth c T locs cells slots) (hx : p.tables.exec = Jvm.exec) {x y z : Int32} (hd : decode c.code pc = .ok (.ishr, 1)) (hp : pc + 1 = pc') (hz : x >>> (y &&& 31) = z) (H : Go p e below s k n Q T (mkF m pc' Ls (.int z :: st))) : Go p e below s k n Q T (mkF m pc Ls (.int y :: .int x :: st)) := by
  subst hp hz
  exact H.via fun t q => XS.ishr X.here hx rfl hd rfl q
theorem g_iushr (pc' : Nat) (X : Stand p l e R s m args below meth c T locs cells slots) (hx : p.tables.exec = Jvm.exec) {x y z : Int32} (hd : decode c.code pc = .ok (.iushr, 1)) (hp : pc + 1 = pc') (hz : (x.toUInt32 >>> (y &&& 31).toUInt32).toInt32 = z) (H : Go p e below s k n Q T (mkF m pc' Ls (.int z :: st))) : Go p e below s k n Q T (mkF m pc Ls (.int y :: .int x :: st)) := by
  subst hp hz
  exact H.via fun t q => XS.iushr X.here hx rfl hd rfl q
theorem g_lshl (pc' : Nat) (X : Stand p l e R s m args below meth c T locs cells slots) (hx : p.tables.exec = Jvm.exec) {x z : Int64} {y : Int32} (hd : decode c.code pc = .ok (.lshl, 1)) (hp : pc + 1 = pc') (hz : x <<< (y &&& 0x3f).toInt64 = z) (H : Go p e below s k n Q T (mkF m pc' Ls (.long z :: st))) : Go p e below s k n Q T (mkF m pc Ls (.int y :: .long x :: st)) := by
  subst hp hz
  exact H.via fun t q => XS.lshl X.here hx rfl hd rfl q
theorem g_lshr (pc' : Nat) (X : Stand p l e R s m args below meth c T locs cells slots) (hx : p.tables.exec = Jvm.exec) {x z : Int64} {y : Int32} (hd : decode c.code pc = .ok (.lshr, 1)) (hp : pc + 1 = pc') (hz : x >>> (y &&& 0x3f).toInt64 = z) (H : Go p e below s k n Q T (mkF m pc' Ls (.long z :: st))) : Go p e below s k n Q T (mkF m pc Ls (.int y :: .long x :: st)) := by
  subst hp hz
  exact H.via fun t q => XS.lshr X.here hx rfl hd rfl q
theorem g_lushr (pc' : Nat) (X : Stand p l e R s m args below meth c T locs cells slots) (hx : p.tables.exec = Jvm.exec) {x z : Int64} {y : Int32} (hd : decode c.code pc = .ok (.lushr, 1)) (hp : pc + 1 = pc') (hz : (x.toUInt64 >>> (y &&& 0x3f).toInt64.toUInt64).toInt64 = z) (H : Go p e below s k n Q T (mkF m pc' Ls (.long z :: st))) : Go p e below s k n Q T (mkF m pc Ls (.int y :: .long x :: st)) := by
  subst hp hz
  exact H.via fun t q => XS.lushr X.here hx rfl hd rfl q
theorem g_idiv (pc' : Nat) (X : Stand p l e R s m args below meth c T locs cells slots) (hx : p.tables.exec = Jvm.exec) {x y z : Int32} (hd : decode c.code pc = .ok (.idiv, 1)) (hp : pc + 1 = pc') (hy : y ≠ 0) (hz : x / y = z) (H : Go p e below s k n Q T (mkF m pc' Ls (.int z :: st))) : Go p e below s k n Q T (mkF m pc Ls (.int y :: .int x :: st)) := by
  subst hp hz
  exact H.via fun t q => XS.idiv X.here hx rfl hd rfl hy q
theorem g_irem (pc' : Nat) (X : Stand p l e R s m args below meth c T locs cells slots) (hx : p.tables.exec = Jvm.exec) {x y z : Int32} (hd : decode c.code pc = .ok (.irem, 1)) (hp : pc + 1 = pc') (hy : y ≠ 0) (hz : x % y = z) (H : Go p e below s k n Q T (mkF m pc' Ls (.int z :: st))) : Go p e below s k n Q T (mkF m pc Ls (.int y :: .int x :: st)) := by
  subst hp hz
  exact H.via fun t q => iremM X hx rfl hd rfl hy q
theorem g_ldiv (pc' : Nat) (X : Stand p l e R s m args below meth c T locs cells slots) (hx : p.tables.exec = Jvm.exec) {x y z : Int64} (hd : decode c.code pc = .ok (.ldiv, 1)) (hp : pc + 1 = pc') (hy : y ≠ 0) (hz : x / y = z) (H : Go p e below s k n Q T (mkF m pc' Ls (.long z :: st))) : Go p e below s k n Q T (mkF m pc Ls (.long y :: .long x :: st)) := by
  subst hp hz
  exact H.via fun t q => XS.ldiv X.here hx rfl hd rfl hy q
theorem g_lrem (pc' : Nat) (X : Stand p l e R s m args below meth c T locs cells slots) (hx : p.tables.exec = Jvm.exec) {x y z : Int64} (hd : decode c.code pc = .ok (.lrem, 1)) (hp : pc + 1 = pc') (hy : y ≠ 0) (hz : x % y = z) (H : Go p e below s k n Q T (mkF m pc' Ls (.long z :: st))) : Go p e below s k n Q T (mkF m pc Ls (.long y :: .long x :: st)) := by
  subst hp hz
  exact H.via fun t q => XS.lrem X.here hx rfl hd rfl hy (by rw [lrem_mod]; exact q)
theorem g_ineg (pc' : Nat) (X : Stand p l e R s m args below meth c T locs cells slots) (hx : p.tables.exec = Jvm.exec) {x : Int32} {z : Int32} (hd : decode c.code pc = .ok (.ineg, 1)) (hp : pc + 1 = pc') (hz : -x = z) (H : Go p e below s k n Q T (mkF m pc' Ls (.int z :: st))) : Go p e below s k n Q T (mkF m pc Ls (.int x :: st)) := by
  subst hp hz
  exact H.via fun t q => XS.ineg X.here hx rfl hd rfl q
theorem g_lneg (pc' : Nat) (X : Stand p l e R s m args below meth c T locs cells slots) (hx : p.tables.exec = Jvm.exec) {x : Int64} {z : Int64} (hd : decode c.code pc = .ok (.lneg, 1)) (hp : pc + 1 = pc') (hz : -x = z) (H : Go p e below s k n Q T (mkF m pc' Ls (.long z :: st))) : Go p e below s k n Q T (mkF m pc Ls (.long x :: st)) := by
  subst hp hz
  exact H.via fun t q => XS.lneg X.here hx rfl hd rfl q
theorem g_i2l (pc' : Nat) (X : Stand p l e R s m args below meth c T locs cells slots) (hx : p.tables.exec = Jvm.exec) {x : Int32} {z : Int64} (hd : decode c.code pc = .ok (.i2l, 1)) (hp : pc + 1 = pc') (hz : x.toInt64 = z) (H : Go p e below s k n Q T (mkF m pc' Ls (.long z :: st))) : Go p e below s k n Q T (mkF m pc Ls (.int x :: st)) := by
  subst hp hz
  exact H.via fun t q => XS.i2l X.here hx rfl hd rfl q
theorem g_l2i (pc' : Nat) (X : Stand p l e R s m args below meth c T locs cells slots) (hx : p.tables.exec = Jvm.exec) {x : Int64} {z : Int32} (hd : decode c.code pc = .ok (.l2i, 1)) (hp : pc + 1 = pc') (hz : x.toInt32 = z) (H : Go p e below s k n Q T (mkF m pc' Ls (.int z :: st))) : Go p e below s k n Q T (mkF m pc Ls (.long x :: st)) := by
  subst hp hz
  exact H.via fun t q => XS.l2i X.here hx rfl hd rfl q
theorem g_i2b (pc' : Nat) (X : Stand p l e R s m args below meth c T locs cells slots) (hx : p.tables.exec = Jvm.exec) {x : Int32} {z : Int32} (hd : decode c.code pc = .ok (.i2b, 1)) (hp : pc + 1 = pc') (hz : x.toInt8.toInt32 = z) (H : Go p e below s k n Q T (mkF m pc' Ls (.int z :: st))) : Go p e below s k n Q T (mkF m pc Ls (.int x :: st)) := by
  subst hp hz
  exact H.via fun t q => XS.i2b X.here hx rfl hd rfl q
theorem g_i2s (pc' : Nat) (X : Stand p l e R s m args below meth c T locs cells slots) (hx : p.tables.exec = Jvm.exec) {x : Int32} {z : Int32} (hd : decode c.code pc = .ok (.i2s, 1)) (hp : pc + 1 = pc') (hz : x.toInt16.toInt32 = z) (H : Go p e below s k n Q T (mkF m pc' Ls (.int z :: st))) : Go p e below s k n Q T (mkF m pc Ls (.int x :: st)) := by
  subst hp hz
  exact H.via fun t q => XS.i2s X.here hx rfl hd rfl q
theorem g_i2c (pc' : Nat) (X : Stand p l e R s m args below meth c T locs cells slots) (hx : p.tables.exec = Jvm.exec) {x : Int32} {z : Int32} (hd : decode c.code pc = .ok (.i2c, 1)) (hp : pc + 1 = pc') (hz : x.toUInt32.toUInt16.toUInt32.toInt32 = z) (H : Go p e below s k n Q T (mkF m pc' Ls (.int z :: st))) : Go p e below s k n Q T (mkF m pc Ls (.int x :: st)) := by
  subst hp hz
  exact H.via fun t q => XS.i2c X.here hx rfl hd rfl q
theorem g_dup (pc' : Nat) (X : Stand p l e R s m args below meth c T locs cells slots) (hx : p.tables.exec = Jvm.exec) {v : Value} (hd : decode c.code pc = .ok (.dup, 1)) (hp : pc + 1 = pc') (hv : v.category = 1) (H : Go p e below s k n Q T (mkF m pc' Ls (v :: v :: st))) : Go p e below s k n Q T (mkF m pc Ls (v :: st)) := by
  subst hp
  exact H.via fun t q => XS.dup X.here hx rfl hd rfl hv q
theorem g_pop (pc' : Nat) (X : Stand p l e R s m args below meth c T locs cells slots) (hx : p.tables.exec = Jvm.exec) {v : Value} (hd : decode c.code pc = .ok (.pop, 1)) (hp : pc + 1 = pc') (hv : v.category = 1) (H : Go p e below s k n Q T (mkF m pc' Ls st)) : Go p e below s k n Q T (mkF m pc Ls (v :: st)) := by
  subst hp
  exact H.via fun t q => XS.pop X.here hx rfl hd rfl hv q
theorem g_dup_x1 (pc' : Nat) (X : Stand p l e R s m args below meth c T locs cells slots) (hx : p.tables.exec = Jvm.exec) {v w : Value} (hd : decode c.code pc = .ok (.dup_x1, 1)) (hp : pc + 1 = pc') (hv : v.category = 1) (hw : w.category = 1) (H : Go p e below s k n Q T (mkF m pc' Ls (v :: w :: v :: st))) : Go p e below s k n Q T (mkF m pc Ls (v :: w :: st)) := by
  subst hp
  exact H.via fun t q => XS.dupX1 X.here hx rfl hd rfl hv hw q
theorem g_dup2 (pc' : Nat) (X : Stand p l e R s m args below meth c T locs cells slots) (hx : p.tables.exec = Jvm.exec) {v w : Value} (hd : decode c.code pc = .ok (.dup2, 1)) (hp : pc + 1 = pc') (hv : v.category = 1) (hw : w.category = 1) (H : Go p e below s k n Q T (mkF m pc' Ls (v :: w :: v :: w :: st))) : Go p e below s k n Q T (mkF m pc Ls (v :: w :: st)) := by
  subst hp
  exact H.via fun t q => XT.dup2 X.here hx rfl hd rfl hv hw q
theorem g_iinc (pc' : Nat) (X : Stand p l e R s m args below meth c T locs cells slots) (hx : p.tables.exec = Jvm.exec) {i : Nat} {cst : Int} {x z : Int32} {Ls' : Array Slot} (hd : decode c.code pc = .ok (.iinc i cst, 3)) (hp : pc + 3 = pc') (hl : Ls[i]? = some (.val (.int x))) (hz : x + Int32.ofInt cst = z) (hl' : storeLocals Ls i (.int z) = some Ls') (H : Go p e below s k n Q T (mkF m pc' Ls' st)) : Go p e below s k n Q T (mkF m pc Ls st) := by
  subst hp hz
  exact H.via fun t q => XS.iinc X.here hx rfl hd hl hl' q
theorem g_goto (pc' : Nat) (X : Stand p l e R s m args below meth c T locs cells slots) (hx : p.tables.exec = Jvm.exec) {o : Int} (hd : decode c.code pc = .ok (.goto o, 3)) (ho : 0 ≤ (pc : Int) + o) (hp : ((pc : Int) + o).toNat = pc') (H : Go p e below s k n Q T (mkF m pc' Ls st)) : Go p e below s k n Q T (mkF m pc Ls st) :=
  H.via fun t q => XS.goto X.here hx rfl rfl hd ho hp q
theorem g_ifYes (pc' : Nat) (X : Stand p l e R s m args below meth c T locs cells slots) (hx : p.tables.exec = Jvm.exec) {cd : ClassFile.Cond} {x : Int32} {o : Int} (hd : decode c.code pc = .ok (.ifCond cd o, 3)) (hc : ifCond.holds cd x = true) (ho : 0 ≤ (pc : Int) + o) (hp : ((pc : Int) + o).toNat = pc') (H : Go p e below s k n Q T (mkF m pc' Ls st)) : Go p e below s k n Q T (mkF m pc Ls (.int x :: st)) :=
  H.via fun t q => XS.ifYes X.here hx rfl rfl hd rfl hc ho hp q
theorem g_ifNo (pc' : Nat) (X : Stand p l e R s m args below meth c T locs cells slots) (hx : p.tables.exec = Jvm.exec) {cd : ClassFile.Cond} {x : Int32} {o : Int} (hd : decode c.code pc = .ok (.ifCond cd o, 3)) (hc : ifCond.holds cd x = false) (hp : pc + 3 = pc') (H : Go p e below s k n Q T (mkF m pc' Ls st)) : Go p e below s k n Q T (mkF m pc Ls (.int x :: st)) := by
  subst hp
  exact H.via fun t q => XS.ifNo X.here hx rfl hd rfl hc q
theorem g_icmpYes (pc' : Nat) (X : Stand p l e R s m args below meth c T locs cells slots) (hx : p.tables.exec = Jvm.exec) {cd : ClassFile.Cond} {x y : Int32} {o : Int} (hd : decode c.code pc = .ok (.if_icmp cd o, 3)) (hc : if_icmp.holds cd x y = true) (ho : 0 ≤ (pc : Int) + o) (hp : ((pc : Int) + o).toNat = pc') (H : Go p e below s k n Q T (mkF m pc' Ls st)) : Go p e below s k n Q T (mkF m pc Ls (.int y :: .int x :: st)) :=
  H.via fun t q => XS.icmpYes X.here hx rfl rfl hd rfl hc ho hp q
theorem g_icmpNo (pc' : Nat) (X : Stand p l e R s m args below meth c T locs cells slots) (hx : p.tables.exec = Jvm.exec) {cd : ClassFile.Cond} {x y : Int32} {o : Int} (hd : decode c.code pc = .ok (.if_icmp cd o, 3)) (hc : if_icmp.holds cd x y = false) (hp : pc + 3 = pc') (H : Go p e below s k n Q T (mkF m pc' Ls st)) : Go p e below s k n Q T (mkF m pc Ls (.int y :: .int x :: st)) := by
  subst hp
  exact H.via fun t q => XS.icmpNo X.here hx rfl hd rfl hc q
theorem g_lcmpYes (pc' : Nat) (X : Stand p l e R s m args below meth c T locs cells slots) (hx : p.tables.exec = Jvm.exec) {cd : ClassFile.Cond} {x y : Int64} {o : Int} {pc1 : Nat} (hd : decode c.code pc = .ok (.lcmp, 1)) (hp1 : pc + 1 = pc1) (hd' : decode c.code pc1 = .ok (.ifCond cd o, 3)) (hc : ifCond.holds cd (lcmpW x y) = true) (ho : 0 ≤ (pc1 : Int) + o) (hp : ((pc1 : Int) + o).toNat = pc') (H : Go p e below s k n Q T (mkF m pc' Ls st)) : Go p e below s k n Q T (mkF m pc Ls (.long y :: .long x :: st)) := by
  subst hp1
  exact H.via fun t q => XS.lcmp X.here hx rfl hd rfl (XS.ifYes X.here hx rfl rfl hd' rfl hc ho hp q)
theorem g_lcmpNo (pc' : Nat) (X : Stand p l e R s m args below meth c T locs cells slots) (hx : p.tables.exec = Jvm.exec) {cd : ClassFile.Cond} {x y : Int64} {o : Int} {pc1 : Nat} (hd : decode c.code pc = .ok (.lcmp, 1)) (hp1 : pc + 1 = pc1) (hd' : decode c.code pc1 = .ok (.ifCond cd o, 3)) (hc : ifCond.holds cd (lcmpW x y) = false) (hp : pc1 + 3 = pc') (H : Go p e below s k n Q T (mkF m pc' Ls st)) : Go p e below s k n Q T (mkF m pc Ls (.long y :: .long x :: st)) := by
  subst hp1; subst hp
  exact H.via fun t q => XS.lcmp X.here hx rfl hd rfl (XS.ifNo X.here hx rfl hd' rfl hc q)
theorem g_ifnullYes (pc' : Nat) (X : Stand p l e R s m args below meth c T locs cells slots) (hx : p.tables.exec = Jvm.exec) {b : Addr} {o : Int} (hd : decode c.code pc = .ok (.ifnull o, 3)) (ho : 0 ≤ (pc : Int) + o) (hp : ((pc : Int) + o).toNat = pc') (H : Go p e below s k n Q T (mkF m pc' Ls st)) : Go p e below s k n Q T (mkF m pc Ls (.null :: st)) :=
  H.via fun t q => XS.ifnullYes X.here hx rfl rfl hd rfl ho hp q
theorem g_ifnullNo (pc' : Nat) (X : Stand p l e R s m args below meth c T locs cells slots) (hx : p.tables.exec = Jvm.exec) {b : Addr} {o : Int} (hd : decode c.code pc = .ok (.ifnull o, 3)) (hp : pc + 3 = pc') (H : Go p e below s k n Q T (mkF m pc' Ls st)) : Go p e below s k n Q T (mkF m pc Ls (.ref b :: st)) := by
  subst hp
  exact H.via fun t q => XS.ifnullNo X.here hx rfl hd rfl q
theorem g_ifnonnullYes (pc' : Nat) (X : Stand p l e R s m args below meth c T locs cells slots) (hx : p.tables.exec = Jvm.exec) {b : Addr} {o : Int} (hd : decode c.code pc = .ok (.ifnonnull o, 3)) (ho : 0 ≤ (pc : Int) + o) (hp : ((pc : Int) + o).toNat = pc') (H : Go p e below s k n Q T (mkF m pc' Ls st)) : Go p e below s k n Q T (mkF m pc Ls (.ref b :: st)) :=
  H.via fun t q => XS.ifnonnullYes X.here hx rfl rfl hd rfl ho hp q
theorem g_ifnonnullNo (pc' : Nat) (X : Stand p l e R s m args below meth c T locs cells slots) (hx : p.tables.exec = Jvm.exec) {b : Addr} {o : Int} (hd : decode c.code pc = .ok (.ifnonnull o, 3)) (hp : pc + 3 = pc') (H : Go p e below s k n Q T (mkF m pc' Ls st)) : Go p e below s k n Q T (mkF m pc Ls (.null :: st)) := by
  subst hp
  exact H.via fun t q => XS.ifnonnullNo X.here hx rfl hd rfl q
theorem g_ldc (pc' : Nat) (X : Stand p l e R s m args below meth c T locs cells slots) (hx : p.tables.exec = Jvm.exec) (hZ : Z.Warmed39 s.vm) {own : String} {index : Nat} {z : Int32} (hown : s.vm.findClass own = some m.cls) (w : (Cond.constant own index z).before a0 Z = true) (hd : decode c.code pc = .ok (.ldc index, 2)) (hp : pc + 2 = pc') (H : Go p e below s k n Q T (mkF m pc' Ls (.int z :: st))) : Go p e below s k n Q T (mkF m pc Ls st) := by
  subst hp
  exact H.via fun t q => X.ldcInt hx hown (mvT hZ w) (g := mkF m pc Ls st) rfl hd t q
theorem g_ldc2 (pc' : Nat) (X : Stand p l e R s m args below meth c T locs cells slots) (hx : p.tables.exec = Jvm.exec) (hZ : Z.Warmed39 s.vm) {own : String} {index : Nat} {z : Int64} (hown : s.vm.findClass own = some m.cls) (w : (Cond.constantLong own index z).before a0 Z = true) (hd : decode c.code pc = .ok (.ldc2_w index, 3)) (hp : pc + 3 = pc') (H : Go p e below s k n Q T (mkF m pc' Ls (.long z :: st))) : Go p e below s k n Q T (mkF m pc Ls st) := by
  subst hp
  exact H.via fun t q => X.ldc2Long hx hown (mvT hZ w) (g := mkF m pc Ls st) rfl hd t q
theorem g_retI (X : Stand p l e R s m args below meth c T locs cells slots) (hx : p.tables.exec = Jvm.exec) (hret : meth.sig.returnType = some .int) (hlk : meth.locks = false) {z : Int32} (hd : decode c.code pc = .ok (.ireturn, 1)) (hk : cells ≤ k) (hn : slots ≤ n) (hQ : Q (some (.int z)) T.heap locs) : Go p e below s k n Q T (mkF m pc Ls (.int z :: st)) := by
  obtain ⟨fs, hr, hrun, hended, hW, hsame⟩ := X.leave (v := some (.int z)) (fun q => by rw [hret] at q; cases q) hlk
  exact ⟨_, _, retOut X hx hret rfl (Or.inl ⟨rfl, Or.inl rfl, z, rfl⟩) hd hr, hrun, hended, _, _, rfl, hQ, ⟨_, rfl⟩, hW, hsame.mono hk hn⟩
theorem g_retJ (X : Stand p l e R s m args below meth c T locs cells slots) (hx : p.tables.exec = Jvm.exec) (hret : meth.sig.returnType = some .long) (hlk : meth.locks = false) {z : Int64} (hd : decode c.code pc = .ok (.lreturn, 1)) (hk : cells ≤ k) (hn : slots ≤ n) (hQ : Q (some (.long z)) T.heap locs) : Go p e below s k n Q T (mkF m pc Ls (.long z :: st)) := by
  obtain ⟨fs, hr, hrun, hended, hW, hsame⟩ := X.leave (v := some (.long z)) (fun q => by rw [hret] at q; cases q) hlk
  exact ⟨_, _, retOut X hx hret rfl (Or.inr (Or.inl ⟨rfl, rfl, z, rfl⟩)) hd hr, hrun, hended, _, _, rfl, hQ, ⟨_, rfl⟩, hW, hsame.mono hk hn⟩
theorem g_retA {ty : FieldType} (X : Stand p l e R s m args below meth c T locs cells slots) (hx : p.tables.exec = Jvm.exec) (hret : meth.sig.returnType = some ty) (hlk : meth.locks = false) {v : Value} (hty : ty.isReference = true) (hv : v.isRef = true) (hnv : narrow ty v = v) (hd : decode c.code pc = .ok (.areturn, 1)) (hk : cells ≤ k) (hn : slots ≤ n) (hQ : Q (some v) T.heap locs) : Go p e below s k n Q T (mkF m pc Ls (v :: st)) := by
  obtain ⟨fs, hr, hrun, hended, hW, hsame⟩ := X.leave (v := some v) (fun q => by rw [hret] at q; cases q) hlk
  exact ⟨_, _, retOut X hx hret hnv (Or.inr (Or.inr (Or.inr (Or.inr ⟨rfl, hty, hv⟩)))) hd hr, hrun, hended, _, _, rfl, hQ, ⟨_, rfl⟩, hW, hsame.mono hk hn⟩
theorem g_ret0 (X : Stand p l e R s m args below meth c T locs cells slots) (hx : p.tables.exec = Jvm.exec) (hret : meth.sig.returnType = none) (hlk : meth.locks = false) (hd : decode c.code pc = .ok (.return_, 1)) (hk : cells ≤ k) (hn : slots ≤ n) (hQ : Q (none) T.heap locs) : Go p e below s k n Q T (mkF m pc Ls []) := by
  obtain ⟨fs, hr, hrun, hended, hW, hsame⟩ := X.leave (v := none) (fun _ => rfl) hlk
  exact ⟨_, _, X.returnOut hx hret hd hr, hrun, hended, _, _, rfl, hQ, ⟨_, rfl⟩, hW, hsame.mono hk hn⟩
theorem g_retN (X : Stand p l e R s m args below meth c T locs cells slots) (hx : p.tables.exec = Jvm.exec) {t : FieldType} (hret : meth.sig.returnType = some t) (hlk : meth.locks = false) {z z' : Int32} (ht : t = .boolean ∨ t = .byte ∨ t = .char ∨ t = .short) (hz : nar t z = z') (hd : decode c.code pc = .ok (.ireturn, 1)) (hk : cells ≤ k) (hn : slots ≤ n) (hQ : Q (some (.int z')) T.heap locs) : Go p e below s k n Q T (mkF m pc Ls (.int z :: st)) := by
  subst hz
  obtain ⟨fs, hr, hrun, hended, hW, hsame⟩ := X.leave (v := some (.int (nar t z))) (fun q => by rw [hret] at q; cases q) hlk
  exact ⟨_, _, retN X hx hret ht hd hr, hrun, hended, _, _, rfl, hQ, ⟨_, rfl⟩, hW, hsame.mono hk hn⟩
theorem g_getF (pc' : Nat) (X : Stand p l e R s m args below meth c T locs cells slots) (hx : p.tables.exec = Jvm.exec) (hZ : Z.Warmed39 s.vm) {own R0 O nm d : String} {index : Nat} (hown : s.vm.findClass own = some m.cls) (w : (Cond.fieldLink own index R0 nm d).before a0 Z = true) (via : Via Z R0 O nm d) (eT : T.heap = h) {a : Addr} {v : Value} (F : Fld Z h a O nm d v) (hd : decode c.code pc = .ok (.getfield index, 3)) (hp : pc + 3 = pc') (H : ∀ T', Stand p l e R s m args below meth c T' locs cells slots → T'.heap = h → Go p e below s k n Q T' (mkF m pc' Ls (v :: st))) : Go p e below s k n Q T (mkF m pc Ls (.ref a :: st)) := by
  subst hp
  obtain ⟨T', X', e', q⟩ := getF X hx hZ hown (host := "") (Or.inl w) via eT F (g := mkF m pc Ls (.ref a :: st)) rfl rfl hd
  exact (H T' X' e').via q
theorem g_putF (pc' : Nat) (X : Stand p l e R s m args below meth c T locs cells slots) (hx : p.tables.exec = Jvm.exec) (hZ : Z.Warmed39 s.vm) {own R0 O nm d C : String} {index kk : Nat} {ty : FieldType} (hown : s.vm.findClass own = some m.cls) (w : (Cond.fieldLink own index R0 nm d).before a0 Z = true) (via : Via Z R0 O nm d) (eT : T.heap = h) {a : Addr} {v old : Value} (F : Fld Z h a O nm d old) (E : Exa Z h a C) (L : (Cond.lays C O nm d).before a0 Z = true ∨ ((Cond.laysFinal C O nm d).before a0 Z = true ∧ own = O ∧ meth.name = "<init>")) (wi : (Cond.instantiable C kk).before a0 Z = true) (hty : parseFieldDescriptor d = some ty) (hn : narrow ty v = v) (hf : fits ty v = true) (hd : decode c.code pc = .ok (.putfield index, 3)) (hp : pc + 3 = pc') (H : ∀ T' h', Stand p l e R s m args below meth c T' (locs ++ [⟨a, Jvm.RoadKit.slotOf Z O nm d⟩]) cells slots → T'.heap = h' → Wr h h' a (Jvm.RoadKit.slotOf Z O nm d) v → Go p e below s k n Q T' (mkF m pc' Ls st)) : Go p e below s k n Q T (mkF m pc Ls (v :: .ref a :: st)) := by
  subst hp
  obtain ⟨T', h', X', e', W, q⟩ := putF X hx hZ hown (host := "") (Or.inl w) via eT F E L wi hty hn hf (g := mkF m pc Ls (v :: .ref a :: st)) rfl rfl hd
  exact (H T' h' X' e' W).via q
theorem g_newO (pc' : Nat) (X : Stand p l e R s m args below meth c T locs cells slots) (hx : p.tables.exec = Jvm.exec) (hZ : Z.Warmed39 s.vm) {own C : String} {index nn : Nat} (hown : s.vm.findClass own = some m.cls) (w : (Cond.classLink own index C).before a0 Z = true) (wi : (Cond.instantiable C nn).before a0 Z = true) (wz : (Cond.initialized C).before a0 Z = true) (eT : T.heap = h) (hd : decode c.code pc = .ok (.new index, 3)) (hc : cells + 1 ≤ R.cells) (hl : slots + nn ≤ R.slots) (hp : pc + 3 = pc') (H : ∀ T' h' b, Stand p l e R s m args below meth c T' locs (cells + 1) (slots + nn) → T'.heap = h' → Ext h h' → b = h.size → Exa Z h' b C → (∀ {O nm d : String} {ty : FieldType}, Laid Z a0 C O nm d → parseFieldDescriptor d = some ty → Fld Z h' b O nm d (defaultValue ty)) → Go p e below s k n Q T' (mkF m pc' Ls (.ref b :: st))) : Go p e below s k n Q T (mkF m pc Ls st) := by
  subst hp
  obtain ⟨T', h', X', e', E, A, D, -, q⟩ := newO X hx hZ hown w wi wz eT (g := mkF m pc Ls st) rfl hd hc hl
  exact (H T' h' _ X' e' E rfl A D).via q
theorem g_initO (pc' : Nat) (X : Stand p l e R s m args below meth c T locs cells slots) (hx : p.tables.exec = Jvm.exec) (hZ : Z.Warmed39 s.vm) {own : String} {idx : Nat} (hown : s.vm.findClass own = some m.cls) (w1 : (Cond.methodLink own idx Lib.objectInit).before a0 Z = true) (w2 : (Cond.instanceMethod Lib.objectInit).before a0 Z = true) (w3 : (Cond.code Lib.objectInit ⟨#[0xb1]⟩ 1 none).before a0 Z = true) (eT : T.heap = h) (hsize : Ls.size = c.maxLocals) {a : Addr} (hd : decode c.code pc = .ok (.invokespecial idx, 3)) (hf : 1 ≤ R.frames) (W : Nat) (hW : (st.map fun v => v.category).sum ≤ W) (hl : W + 12 ≤ R.locals) (hp : pc + 3 = pc') (H : ∀ T', Stand p l e R s m args below meth c T' locs cells slots → T'.heap = h → Go p e below s k n Q T' (mkF m pc' Ls st)) : Go p e below s k n Q T (mkF m pc Ls (.ref a :: st)) := by
  subst hp
  obtain ⟨T', X', e', q⟩ := initO X hx hZ hown w1 w2 w3 eT (g := mkF m pc Ls (.ref a :: st)) rfl hsize rfl hd hf (W := W) (by show 2 * 0 + _ ≤ _; omega) hl
  exact (H T' X' e').via q
theorem g_callS (pc' : Nat) (X : Stand p l e R s m args below meth c T locs cells slots) (hx : p.tables.exec = Jvm.exec) (hZ : Z.Warmed39 s.vm) {own : String} {index : Nat} {y : MethodName} {bytes : ByteArray} {maxL : Nat} {ret : Option FieldType} {rm : Room} {as' : Array Value} {Qc : Option Value → Heap → List Loc → Prop} (hown : s.vm.findClass own = some m.cls) (w1 : (Cond.methodLink own index y).before a0 Z = true) (w2 : (Cond.static y).before a0 Z = true) (w3 : (Cond.initialized y.cls).before a0 Z = true) (w4 : (Cond.code y bytes maxL ret).before a0 Z = true) (hy : y.cls ≠ "java/lang/invoke/MethodHandle" ∧ y.cls ≠ "java/lang/invoke/VarHandle") (eT : T.heap = h) (hM : MetFree l y (head1 [Cond.code y bytes maxL ret] rm) (fun a U => a = as' ∧ Z.Warmed39 U.vm ∧ U.heap = h) (fun _ _ _ _ _ => True) (fun _ U o U' => ∃ v L, o = .returned v ∧ Qc v U'.heap L ∧ FrameEnd U o U' L rm.cells rm.slots)) (hsize : Ls.size = c.maxLocals) (argsL rest : List Value) (ha : argsL.toArray = as') (hst : st = argsL.reverse ++ rest) (hlen : ∀ sig, parseMethodDescriptor y.desc = some sig → argsL.length = sig.parameters.length) (W : Nat) (hW : (rest.map fun v => v.category).sum ≤ W) (hd : decode c.code pc = .ok (.invokestatic index, 3)) (hfr : rm.frames + 1 ≤ R.frames) (hlo : W + (maxL + 11) + rm.locals ≤ R.locals) (hce : cells + rm.cells ≤ R.cells) (hsl : slots + rm.slots ≤ R.slots) (hp : pc + 3 = pc') (H : ∀ v T' L, Stand p l e R s m args below meth c T' (locs ++ L) (cells + rm.cells) (slots + rm.slots) → Qc v T'.heap L → Go p e below s k n Q T' (mkF m pc' Ls (v.toList ++ rest))) : Go p e below s k n Q T (mkF m pc Ls st) := by
  subst hp hst
  obtain ⟨v, _, ⟨T', L, k', n'⟩, -, X', ⟨Lc, hQ, l1, l2, l3⟩, q⟩ := Jvm.LawKit.callS X hx (y := y) hown (mvT hZ w1) (mvT hZ w2) (mvT hZ w3) (mvT hZ w4) hy (backOf (W := W) hM hZ w4 w3 hfr hlo) (g := mkF m pc Ls (argsL.reverse ++ rest)) rfl hsize (argsL := argsL) (rest := rest) hlen rfl (by show 2 * 0 + _ ≤ _; omega) hd (fun _ _ => ⟨ha, eT, hce, hsl⟩)
  dsimp only [Pt.U, Pt.locs, Pt.cells, Pt.slots] at X' l1 l2 l3 q hQ
  subst l1 l2 l3
  exact (H v T' Lc X' hQ).via q
theorem g_callI (pc' : Nat) (X : Stand p l e R s m args below meth c T locs cells slots) (hx : p.tables.exec = Jvm.exec) (hZ : Z.Warmed39 s.vm) {own : String} {index : Nat} {y : MethodName} {bytes : ByteArray} {maxL : Nat} {rm : Room} {as' : Array Value} {Qc : Option Value → Heap → List Loc → Prop} (hy1 : y.name = "<init>") (hown : s.vm.findClass own = some m.cls) (w1 : (Cond.methodLink own index y).before a0 Z = true) (w2 : (Cond.instanceMethod y).before a0 Z = true) (w3 : (Cond.initialized y.cls).before a0 Z = true) (w4 : (Cond.code y bytes maxL none).before a0 Z = true) (hy : y.cls ≠ "java/lang/invoke/MethodHandle" ∧ y.cls ≠ "java/lang/invoke/VarHandle") (eT : T.heap = h) (hM : MetFree l y (head1 [Cond.code y bytes maxL none] rm) (fun a U => a = as' ∧ Z.Warmed39 U.vm ∧ U.heap = h) (fun _ _ _ _ _ => True) (fun _ U o U' => ∃ v L, o = .returned v ∧ Qc v U'.heap L ∧ FrameEnd U o U' L rm.cells rm.slots)) (hsize : Ls.size = c.maxLocals) (a : Addr) (argsL rest : List Value) (ha : (.ref a :: argsL).toArray = as') (hst : st = argsL.reverse ++ .ref a :: rest) (hlen : ∀ sig, parseMethodDescriptor y.desc = some sig → argsL.length = sig.parameters.length) (W : Nat) (hW : (rest.map fun v => v.category).sum ≤ W) (hd : decode c.code pc = .ok (.invokespecial index, 3)) (hfr : rm.frames + 1 ≤ R.frames) (hlo : W + (maxL + 11) + rm.locals ≤ R.locals) (hce : cells + rm.cells ≤ R.cells) (hsl : slots + rm.slots ≤ R.slots) (hp : pc + 3 = pc') (H : ∀ v T' L, Stand p l e R s m args below meth c T' (locs ++ L) (cells + rm.cells) (slots + rm.slots) → Qc v T'.heap L → Go p e below s k n Q T' (mkF m pc' Ls (v.toList ++ rest))) : Go p e below s k n Q T (mkF m pc Ls st) := by
  subst hp hst
  obtain ⟨v, _, ⟨T', L, k', n'⟩, -, X', ⟨Lc, hQ, l1, l2, l3⟩, q⟩ := X.specialBack hx (y := y) hy1 hown (mvT hZ w1) (mvT hZ w2) (mvT hZ w4) hy (backOf (W := W) hM hZ w4 w3 hfr hlo) (g := mkF m pc Ls (argsL.reverse ++ .ref a :: rest)) rfl hsize (Steps.refl _) (a := a) (argsL := argsL) (rest := rest) hlen rfl (by show 2 * 0 + _ ≤ _; omega) hd (fun _ _ => ⟨ha, eT, hce, hsl⟩)
  dsimp only [Pt.U, Pt.locs, Pt.cells, Pt.slots] at X' l1 l2 l3 q hQ
  subst l1 l2 l3
  exact (H v T' Lc X' hQ).via fun t r => q.trans r
theorem g_callV (pc' : Nat) (X : Stand p l e R s m args below meth c T locs cells slots) (hx : p.tables.exec = Jvm.exec) (hZ : Z.Warmed39 s.vm) {own : String} {index : Nat} {y : MethodName} {bytes : ByteArray} {maxL : Nat} {ret : Option FieldType} {rm : Room} {as' : Array Value} {Qc : Option Value → Heap → List Loc → Prop} (hown : s.vm.findClass own = some m.cls) (w1 : (Cond.methodLink own index y).before a0 Z = true) (w2 : (Cond.declares y).before a0 Z = true) (w5 : (Cond.selects y.cls y y).before a0 Z = true) (w6 : (Cond.instanceMethod y).before a0 Z = true) (w3 : (Cond.initialized y.cls).before a0 Z = true) (w4 : (Cond.code y bytes maxL ret).before a0 Z = true) (hy : y.cls ≠ "java/lang/invoke/MethodHandle" ∧ y.cls ≠ "java/lang/invoke/VarHandle") (eT : T.heap = h) {a : Addr} (E : Exa Z h a y.cls) (hM : MetFree l y (head1 [Cond.code y bytes maxL ret] rm) (fun a U => a = as' ∧ Z.Warmed39 U.vm ∧ U.heap = h) (fun _ _ _ _ _ => True) (fun _ U o U' => ∃ v L, o = .returned v ∧ Qc v U'.heap L ∧ FrameEnd U o U' L rm.cells rm.slots)) (hsize : Ls.size = c.maxLocals) (argsL rest : List Value) (ha : (.ref a :: argsL).toArray = as') (hst : st = argsL.reverse ++ .ref a :: rest) (hlen : ∀ sig, parseMethodDescriptor y.desc = some sig → argsL.length = sig.parameters.length) (W : Nat) (hW : (rest.map fun v => v.category).sum ≤ W) (hd : decode c.code pc = .ok (.invokevirtual index, 3)) (hfr : rm.frames + 1 ≤ R.frames) (hlo : W + (maxL + 11) + rm.locals ≤ R.locals) (hce : cells + rm.cells ≤ R.cells) (hsl : slots + rm.slots ≤ R.slots) (hp : pc + 3 = pc') (H : ∀ v T' L, Stand p l e R s m args below meth c T' (locs ++ L) (cells + rm.cells) (slots + rm.slots) → Qc v T'.heap L → Go p e below s k n Q T' (mkF m pc' Ls (v.toList ++ rest))) : Go p e below s k n Q T (mkF m pc Ls st) := by
  subst hp hst
  obtain ⟨cq, kq, qa, qb, qc⟩ := isOf hZ eT E
  obtain ⟨v, _, ⟨T', L, k', n'⟩, -, X', ⟨Lc, hQ, l1, l2, l3⟩, q⟩ := X.virtualBack hx (y := y) (z := y) hown (mvT hZ w1) (mvT hZ w2) (notFace_of_selects (args := #[]) (mvT hZ w5)) (mvT hZ w5) (mvT hZ w6) hy (backOf (W := W) hM hZ w4 w3 hfr hlo) qa qc (g := mkF m pc Ls (argsL.reverse ++ .ref a :: rest)) rfl hsize (Steps.refl _) (argsL := argsL) (rest := rest) hlen rfl (by show 2 * 0 + _ ≤ _; omega) hd (fun _ _ => ⟨ha, eT, hce, hsl⟩)
  dsimp only [Pt.U, Pt.locs, Pt.cells, Pt.slots] at X' l1 l2 l3 q hQ
  subst l1 l2 l3
  exact (H v T' Lc X' hQ).via fun t r => q.trans r
/-- an array of ints (bytes, chars, shorts, booleans) at a, whole -/
def AI (Z : State) (h : Heap) (a : Addr) (ty : FieldType) (bs : List Int32) : Prop := ∃ c : Cell, Arr Z h a c ty ∧ c.slots = (bs.map Value.int).toArray ∧ bs.length < 2 ^ 31
/-- an array of longs at a, whole -/
def AJ (Z : State) (h : Heap) (a : Addr) (bs : List Int64) : Prop := ∃ c : Cell, Arr Z h a c .long ∧ c.slots = (bs.map Value.long).toArray ∧ bs.length < 2 ^ 31
theorem AI.lt {a : Addr} {ty : FieldType} {bs : List Int32} (A : AI Z h a ty bs) : a < h.size := by obtain ⟨c, A, -⟩ := A; exact A.lt
theorem AI.ext {a : Addr} {ty : FieldType} {bs : List Int32} (A : AI Z h a ty bs) (E : Ext h h') : AI Z h' a ty bs := by obtain ⟨c, A, r⟩ := A; exact ⟨c, A.ext E, r⟩
theorem AI.other {a b : Addr} {ty : FieldType} {bs : List Int32} {sl : Nat} {v : Value} (A : AI Z h b ty bs) (W : Wr h h' a sl v) (q : b ≠ a) : AI Z h' b ty bs := by obtain ⟨c, A, r⟩ := A; exact ⟨c, A.other W q, r⟩
theorem AI.keep {a : Addr} {ty : FieldType} {bs : List Int32} {ws : List Addr} (A : AI Z h a ty bs) (K : Keep h h' ws) (q : a ∉ ws) : AI Z h' a ty bs := by obtain ⟨c, A, r⟩ := A; exact ⟨c, ⟨K.2.1 a c A.1 q, A.2⟩, r⟩
theorem AJ.lt {a : Addr} {bs : List Int64} (A : AJ Z h a bs) : a < h.size := by obtain ⟨c, A, -⟩ := A; exact A.lt
theorem AJ.ext {a : Addr} {bs : List Int64} (A : AJ Z h a bs) (E : Ext h h') : AJ Z h' a bs := by obtain ⟨c, A, r⟩ := A; exact ⟨c, A.ext E, r⟩
theorem AJ.other {a b : Addr} {bs : List Int64} {sl : Nat} {v : Value} (A : AJ Z h b bs) (W : Wr h h' a sl v) (q : b ≠ a) : AJ Z h' b bs := by obtain ⟨c, A, r⟩ := A; exact ⟨c, A.other W q, r⟩
theorem AJ.keep {a : Addr} {bs : List Int64} {ws : List Addr} (A : AJ Z h a bs) (K : Keep h h' ws) (q : a ∉ ws) : AJ Z h' a bs := by obtain ⟨c, A, r⟩ := A; exact ⟨c, ⟨K.2.1 a c A.1 q, A.2⟩, r⟩
theorem own_inI {a : Addr} {c : Cell} {bs : List Int32} {j : Int32} {i : Nat} (S : c.slots = (bs.map Value.int).toArray) (h0 : ¬ j < 0) (hj : j.toNatClampNeg = i) (hi : i < bs.length) : ¬ (j < 0 ∨ c.slots.size ≤ j.toNatClampNeg) := by
  rw [S]; simp [h0, hj]; omega
theorem own_inJ {a : Addr} {c : Cell} {bs : List Int64} {j : Int32} {i : Nat} (S : c.slots = (bs.map Value.long).toArray) (h0 : ¬ j < 0) (hj : j.toNatClampNeg = i) (hi : i < bs.length) : ¬ (j < 0 ∨ c.slots.size ≤ j.toNatClampNeg) := by
  rw [S]; simp [h0, hj]; omega
theorem own_setI {c : Cell} {bs : List Int32} {i : Nat} {x : Int32} (S : c.slots = (bs.map Value.int).toArray) : (c.setSlot i (.int x)).slots = ((bs.set i x).map Value.int).toArray := by
  simp [Cell.setSlot, S, List.map_set]
theorem own_setJ {c : Cell} {bs : List Int64} {i : Nat} {x : Int64} (S : c.slots = (bs.map Value.long).toArray) : (c.setSlot i (.long x)).slots = ((bs.set i x).map Value.long).toArray := by
  simp [Cell.setSlot, S, List.map_set]
theorem g_bastore (pc' : Nat) (X : Stand p l e R s m args below meth c T locs cells slots) (hx : p.tables.exec = Jvm.exec) (hZ : Z.Warmed39 s.vm) (eT : T.heap = h) {a : Addr} {bs : List Int32} (A : AI Z h a .byte bs) {j x : Int32} (i : Nat) (h0 : ¬ j < 0) (hj : j.toNatClampNeg = i) (hi : i < bs.length) {z : Int32} (hz : x.toInt8.toInt32 = z) (hd : decode c.code pc = .ok (.bastore, 1)) (hp : pc + 1 = pc') (H : ∀ T' h', Stand p l e R s m args below meth c T' (locs ++ [⟨a, i⟩]) cells slots → T'.heap = h' → Wr h h' a i (.int z) → AI Z h' a .byte (bs.set i z) → Go p e below s k n Q T' (mkF m pc' Ls st)) : Go p e below s k n Q T (mkF m pc Ls (.int x :: .int j :: .ref a :: st)) := by
  subst hp hz hj
  obtain ⟨cl, A, S, hl⟩ := A
  obtain ⟨T', h', X', e', W, q⟩ := stB X hx hZ eT A (own_inI (a := a) S h0 rfl hi) (g := mkF m pc Ls (.int x :: .int j :: .ref a :: st)) rfl rfl hd
  exact (H T' h' X' e' W ⟨_, A.same W, own_setI S, by simpa using hl⟩).via q
theorem g_iastore (pc' : Nat) (X : Stand p l e R s m args below meth c T locs cells slots) (hx : p.tables.exec = Jvm.exec) (hZ : Z.Warmed39 s.vm) (eT : T.heap = h) {a : Addr} {bs : List Int32} (A : AI Z h a .int bs) {j x : Int32} (i : Nat) (h0 : ¬ j < 0) (hj : j.toNatClampNeg = i) (hi : i < bs.length) {z : Int32} (hz : x = z) (hd : decode c.code pc = .ok (.iastore, 1)) (hp : pc + 1 = pc') (H : ∀ T' h', Stand p l e R s m args below meth c T' (locs ++ [⟨a, i⟩]) cells slots → T'.heap = h' → Wr h h' a i (.int z) → AI Z h' a .int (bs.set i z) → Go p e below s k n Q T' (mkF m pc' Ls st)) : Go p e below s k n Q T (mkF m pc Ls (.int x :: .int j :: .ref a :: st)) := by
  subst hp hz hj
  obtain ⟨cl, A, S, hl⟩ := A
  obtain ⟨T', h', X', e', W, q⟩ := stI X hx hZ eT A (own_inI (a := a) S h0 rfl hi) (g := mkF m pc Ls (.int x :: .int j :: .ref a :: st)) rfl rfl hd
  exact (H T' h' X' e' W ⟨_, A.same W, own_setI S, by simpa using hl⟩).via q
theorem g_castore (pc' : Nat) (X : Stand p l e R s m args below meth c T locs cells slots) (hx : p.tables.exec = Jvm.exec) (hZ : Z.Warmed39 s.vm) (eT : T.heap = h) {a : Addr} {bs : List Int32} (A : AI Z h a .char bs) {j x : Int32} (i : Nat) (h0 : ¬ j < 0) (hj : j.toNatClampNeg = i) (hi : i < bs.length) {z : Int32} (hz : x.toUInt32.toUInt16.toUInt32.toInt32 = z) (hd : decode c.code pc = .ok (.castore, 1)) (hp : pc + 1 = pc') (H : ∀ T' h', Stand p l e R s m args below meth c T' (locs ++ [⟨a, i⟩]) cells slots → T'.heap = h' → Wr h h' a i (.int z) → AI Z h' a .char (bs.set i z) → Go p e below s k n Q T' (mkF m pc' Ls st)) : Go p e below s k n Q T (mkF m pc Ls (.int x :: .int j :: .ref a :: st)) := by
  subst hp hz hj
  obtain ⟨cl, A, S, hl⟩ := A
  obtain ⟨T', h', X', e', W, q⟩ := stC X hx hZ eT A (own_inI (a := a) S h0 rfl hi) (g := mkF m pc Ls (.int x :: .int j :: .ref a :: st)) rfl rfl hd
  exact (H T' h' X' e' W ⟨_, A.same W, own_setI S, by simpa using hl⟩).via q
theorem g_sastore (pc' : Nat) (X : Stand p l e R s m args below meth c T locs cells slots) (hx : p.tables.exec = Jvm.exec) (hZ : Z.Warmed39 s.vm) (eT : T.heap = h) {a : Addr} {bs : List Int32} (A : AI Z h a .short bs) {j x : Int32} (i : Nat) (h0 : ¬ j < 0) (hj : j.toNatClampNeg = i) (hi : i < bs.length) {z : Int32} (hz : x.toInt16.toInt32 = z) (hd : decode c.code pc = .ok (.sastore, 1)) (hp : pc + 1 = pc') (H : ∀ T' h', Stand p l e R s m args below meth c T' (locs ++ [⟨a, i⟩]) cells slots → T'.heap = h' → Wr h h' a i (.int z) → AI Z h' a .short (bs.set i z) → Go p e below s k n Q T' (mkF m pc' Ls st)) : Go p e below s k n Q T (mkF m pc Ls (.int x :: .int j :: .ref a :: st)) := by
  subst hp hz hj
  obtain ⟨cl, A, S, hl⟩ := A
  obtain ⟨T', h', X', e', W, q⟩ := stS X hx hZ eT A (own_inI (a := a) S h0 rfl hi) (g := mkF m pc Ls (.int x :: .int j :: .ref a :: st)) rfl rfl hd
  exact (H T' h' X' e' W ⟨_, A.same W, own_setI S, by simpa using hl⟩).via q
theorem g_lastore (pc' : Nat) (X : Stand p l e R s m args below meth c T locs cells slots) (hx : p.tables.exec = Jvm.exec) (hZ : Z.Warmed39 s.vm) (eT : T.heap = h) {a : Addr} {bs : List Int64} (A : AJ Z h a bs) {j : Int32} {x : Int64} (i : Nat) (h0 : ¬ j < 0) (hj : j.toNatClampNeg = i) (hi : i < bs.length) (hd : decode c.code pc = .ok (.lastore, 1)) (hp : pc + 1 = pc') (H : ∀ T' h', Stand p l e R s m args below meth c T' (locs ++ [⟨a, i⟩]) cells slots → T'.heap = h' → Wr h h' a i (.long x) → AJ Z h' a (bs.set i x) → Go p e below s k n Q T' (mkF m pc' Ls st)) : Go p e below s k n Q T (mkF m pc Ls (.long x :: .int j :: .ref a :: st)) := by
  subst hp hj
  obtain ⟨cl, A, S, hl⟩ := A
  obtain ⟨T', h', X', e', W, q⟩ := stJ X hx hZ eT A (own_inJ (a := a) S h0 rfl hi) (g := mkF m pc Ls (.long x :: .int j :: .ref a :: st)) rfl rfl hd
  exact (H T' h' X' e' W ⟨_, A.same W, own_setJ S, by simpa using hl⟩).via q
theorem g_baload (pc' : Nat) (X : Stand p l e R s m args below meth c T locs cells slots) (hx : p.tables.exec = Jvm.exec) (hZ : Z.Warmed39 s.vm) (eT : T.heap = h) {a : Addr} {bs : List Int32} (A : AI Z h a .byte bs) {j z : Int32} (i : Nat) (h0 : ¬ j < 0) (hj : j.toNatClampNeg = i) (hv : bs[i]? = some z) (hd : decode c.code pc = .ok (.baload, 1)) (hp : pc + 1 = pc') (H : Go p e below s k n Q T (mkF m pc' Ls (.int z :: st))) : Go p e below s k n Q T (mkF m pc Ls (.int j :: .ref a :: st)) := by
  subst hp hj
  obtain ⟨cl, A, S, hl⟩ := A
  exact H.via fun t q => X.baloadBytes hx (by rw [eT]; exact A.1) (State.isArrayOf_alike hZ.alike A.2.1) A.2.2 (own_inI (a := a) S h0 rfl (List.getElem?_eq_some_iff.mp hv).1) (v := .int z) (by rw [S]; simp [hv]) (g := mkF m pc Ls (.int j :: .ref a :: st)) rfl rfl hd t q
theorem g_iaload (pc' : Nat) (X : Stand p l e R s m args below meth c T locs cells slots) (hx : p.tables.exec = Jvm.exec) (hZ : Z.Warmed39 s.vm) (eT : T.heap = h) {a : Addr} {bs : List Int32} (A : AI Z h a .int bs) {j z : Int32} (i : Nat) (h0 : ¬ j < 0) (hj : j.toNatClampNeg = i) (hv : bs[i]? = some z) (hd : decode c.code pc = .ok (.iaload, 1)) (hp : pc + 1 = pc') (H : Go p e below s k n Q T (mkF m pc' Ls (.int z :: st))) : Go p e below s k n Q T (mkF m pc Ls (.int j :: .ref a :: st)) := by
  subst hp hj
  obtain ⟨cl, A, S, hl⟩ := A
  exact H.via fun t q => X.iaload hx (by rw [eT]; exact A.1) (State.isArrayOf_alike hZ.alike A.2.1) A.2.2 (own_inI (a := a) S h0 rfl (List.getElem?_eq_some_iff.mp hv).1) (v := .int z) (by rw [S]; simp [hv]) (g := mkF m pc Ls (.int j :: .ref a :: st)) rfl rfl hd t q
theorem g_caload (pc' : Nat) (X : Stand p l e R s m args below meth c T locs cells slots) (hx : p.tables.exec = Jvm.exec) (hZ : Z.Warmed39 s.vm) (eT : T.heap = h) {a : Addr} {bs : List Int32} (A : AI Z h a .char bs) {j z : Int32} (i : Nat) (h0 : ¬ j < 0) (hj : j.toNatClampNeg = i) (hv : bs[i]? = some z) (hd : decode c.code pc = .ok (.caload, 1)) (hp : pc + 1 = pc') (H : Go p e below s k n Q T (mkF m pc' Ls (.int z :: st))) : Go p e below s k n Q T (mkF m pc Ls (.int j :: .ref a :: st)) := by
  subst hp hj
  obtain ⟨cl, A, S, hl⟩ := A
  exact H.via fun t q => X.caload hx (by rw [eT]; exact A.1) (State.isArrayOf_alike hZ.alike A.2.1) A.2.2 (own_inI (a := a) S h0 rfl (List.getElem?_eq_some_iff.mp hv).1) (v := .int z) (by rw [S]; simp [hv]) (g := mkF m pc Ls (.int j :: .ref a :: st)) rfl rfl hd t q
theorem g_saload (pc' : Nat) (X : Stand p l e R s m args below meth c T locs cells slots) (hx : p.tables.exec = Jvm.exec) (hZ : Z.Warmed39 s.vm) (eT : T.heap = h) {a : Addr} {bs : List Int32} (A : AI Z h a .short bs) {j z : Int32} (i : Nat) (h0 : ¬ j < 0) (hj : j.toNatClampNeg = i) (hv : bs[i]? = some z) (hd : decode c.code pc = .ok (.saload, 1)) (hp : pc + 1 = pc') (H : Go p e below s k n Q T (mkF m pc' Ls (.int z :: st))) : Go p e below s k n Q T (mkF m pc Ls (.int j :: .ref a :: st)) := by
  subst hp hj
  obtain ⟨cl, A, S, hl⟩ := A
  exact H.via fun t q => X.saload hx (by rw [eT]; exact A.1) (State.isArrayOf_alike hZ.alike A.2.1) A.2.2 (own_inI (a := a) S h0 rfl (List.getElem?_eq_some_iff.mp hv).1) (v := .int z) (by rw [S]; simp [hv]) (g := mkF m pc Ls (.int j :: .ref a :: st)) rfl rfl hd t q
theorem g_laload (pc' : Nat) (X : Stand p l e R s m args below meth c T locs cells slots) (hx : p.tables.exec = Jvm.exec) (hZ : Z.Warmed39 s.vm) (eT : T.heap = h) {a : Addr} {bs : List Int64} (A : AJ Z h a bs) {j : Int32} {z : Int64} (i : Nat) (h0 : ¬ j < 0) (hj : j.toNatClampNeg = i) (hv : bs[i]? = some z) (hd : decode c.code pc = .ok (.laload, 1)) (hp : pc + 1 = pc') (H : Go p e below s k n Q T (mkF m pc' Ls (.long z :: st))) : Go p e below s k n Q T (mkF m pc Ls (.int j :: .ref a :: st)) := by
  subst hp hj
  obtain ⟨cl, A, S, hl⟩ := A
  exact H.via fun t q => X.laload hx (by rw [eT]; exact A.1) (State.isArrayOf_alike hZ.alike A.2.1) A.2.2 (own_inJ (a := a) S h0 rfl (List.getElem?_eq_some_iff.mp hv).1) (v := .long z) (by rw [S]; simp [hv]) (g := mkF m pc Ls (.int j :: .ref a :: st)) rfl rfl hd t q
theorem g_arraylengthI (pc' : Nat) (X : Stand p l e R s m args below meth c T locs cells slots) (hx : p.tables.exec = Jvm.exec) (hZ : Z.Warmed39 s.vm) (eT : T.heap = h) {a : Addr} {ty : FieldType} {bs : List Int32} (A : AI Z h a ty bs) {z : Int32} (hz : Int32.ofNat bs.length = z) (hd : decode c.code pc = .ok (.arraylength, 1)) (hp : pc + 1 = pc') (H : Go p e below s k n Q T (mkF m pc' Ls (.int z :: st))) : Go p e below s k n Q T (mkF m pc Ls (.ref a :: st)) := by
  subst hp hz
  obtain ⟨cl, A, S, hl⟩ := A
  have q0 : cl.slots.size.toInt32 = Int32.ofNat bs.length := by rw [S]; simp
  exact H.via fun t q => X.arraylength hx (by rw [eT]; exact A.1) (State.isArrayOf_alike hZ.alike A.2.1) (g := mkF m pc Ls (.ref a :: st)) rfl rfl hd t (by rw [q0]; exact q)
theorem g_arraylengthJ (pc' : Nat) (X : Stand p l e R s m args below meth c T locs cells slots) (hx : p.tables.exec = Jvm.exec) (hZ : Z.Warmed39 s.vm) (eT : T.heap = h) {a : Addr} {bs : List Int64} (A : AJ Z h a bs) {z : Int32} (hz : Int32.ofNat bs.length = z) (hd : decode c.code pc = .ok (.arraylength, 1)) (hp : pc + 1 = pc') (H : Go p e below s k n Q T (mkF m pc' Ls (.int z :: st))) : Go p e below s k n Q T (mkF m pc Ls (.ref a :: st)) := by
  subst hp hz
  obtain ⟨cl, A, S, hl⟩ := A
  have q0 : cl.slots.size.toInt32 = Int32.ofNat bs.length := by rw [S]; simp
  exact H.via fun t q => X.arraylength hx (by rw [eT]; exact A.1) (State.isArrayOf_alike hZ.alike A.2.1) (g := mkF m pc Ls (.ref a :: st)) rfl rfl hd t (by rw [q0]; exact q)
theorem g_new_byte (pc' : Nat) (X : Stand p l e R s m args below meth c T locs cells slots) (hx : p.tables.exec = Jvm.exec) (hZ : Z.Warmed39 s.vm) (w : (Cond.arrayClass .byte).before a0 Z = true) (eT : T.heap = h) {nn : Int32} (len cap : Nat) (hn0 : ¬ nn < 0) (hlen : nn.toNatClampNeg = len) (hcap : len ≤ cap) (hb : cap * 8 ≤ 536870912) (hc : cells + 1 ≤ R.cells) (hl : slots + cap ≤ R.slots) (hd : decode c.code pc = .ok (.newarray .byte, 2)) (hp : pc + 2 = pc') (H : ∀ T' h' b, Stand p l e R s m args below meth c T' locs (cells + 1) (slots + cap) → T'.heap = h' → Ext h h' → b = h.size → AI Z h' b .byte (List.replicate len (0 : Int32)) → Go p e below s k n Q T' (mkF m pc' Ls (.ref b :: st))) : Go p e below s k n Q T (mkF m pc Ls (.int nn :: st)) := by
  subst hp hlen
  obtain ⟨T', h', cA, X', e', E, A, q⟩ := newP X hx hZ (aty := .byte) w eT (g := mkF m pc Ls (.int nn :: st)) rfl hd rfl hn0 hcap hb hc hl
  exact (H T' h' _ X' e' E rfl ⟨_, A, by simp [newA, defaultValue, newarray.typeOf], by simpa using (back32 hn0).2⟩).via q
theorem g_new_int (pc' : Nat) (X : Stand p l e R s m args below meth c T locs cells slots) (hx : p.tables.exec = Jvm.exec) (hZ : Z.Warmed39 s.vm) (w : (Cond.arrayClass .int).before a0 Z = true) (eT : T.heap = h) {nn : Int32} (len cap : Nat) (hn0 : ¬ nn < 0) (hlen : nn.toNatClampNeg = len) (hcap : len ≤ cap) (hb : cap * 8 ≤ 536870912) (hc : cells + 1 ≤ R.cells) (hl : slots + cap ≤ R.slots) (hd : decode c.code pc = .ok (.newarray .int, 2)) (hp : pc + 2 = pc') (H : ∀ T' h' b, Stand p l e R s m args below meth c T' locs (cells + 1) (slots + cap) → T'.heap = h' → Ext h h' → b = h.size → AI Z h' b .int (List.replicate len (0 : Int32)) → Go p e below s k n Q T' (mkF m pc' Ls (.ref b :: st))) : Go p e below s k n Q T (mkF m pc Ls (.int nn :: st)) := by
  subst hp hlen
  obtain ⟨T', h', cA, X', e', E, A, q⟩ := newP X hx hZ (aty := .int) w eT (g := mkF m pc Ls (.int nn :: st)) rfl hd rfl hn0 hcap hb hc hl
  exact (H T' h' _ X' e' E rfl ⟨_, A, by simp [newA, defaultValue, newarray.typeOf], by simpa using (back32 hn0).2⟩).via q
theorem g_new_long (pc' : Nat) (X : Stand p l e R s m args below meth c T locs cells slots) (hx : p.tables.exec = Jvm.exec) (hZ : Z.Warmed39 s.vm) (w : (Cond.arrayClass .long).before a0 Z = true) (eT : T.heap = h) {nn : Int32} (len cap : Nat) (hn0 : ¬ nn < 0) (hlen : nn.toNatClampNeg = len) (hcap : len ≤ cap) (hb : cap * 8 ≤ 536870912) (hc : cells + 1 ≤ R.cells) (hl : slots + cap ≤ R.slots) (hd : decode c.code pc = .ok (.newarray .long, 2)) (hp : pc + 2 = pc') (H : ∀ T' h' b, Stand p l e R s m args below meth c T' locs (cells + 1) (slots + cap) → T'.heap = h' → Ext h h' → b = h.size → AJ Z h' b (List.replicate len (0 : Int64)) → Go p e below s k n Q T' (mkF m pc' Ls (.ref b :: st))) : Go p e below s k n Q T (mkF m pc Ls (.int nn :: st)) := by
  subst hp hlen
  obtain ⟨T', h', cA, X', e', E, A, q⟩ := newP X hx hZ (aty := .long) w eT (g := mkF m pc Ls (.int nn :: st)) rfl hd rfl hn0 hcap hb hc hl
  exact (H T' h' _ X' e' E rfl ⟨_, A, by simp [newA, defaultValue, newarray.typeOf], by simpa using (back32 hn0).2⟩).via q
end OwnKit
theorem own_lrem (x y : Int64) (d : Int) (hy : y.toInt = d) : (0 ≤ x.toInt → (x % y).toInt = x.toInt % d) ∧ (x.toInt < 0 → (x % y).toInt = -((-x.toInt) % d)) := by
  rw [Int64.toInt_mod, hy]; exact tr _ _
theorem own_lremV (x y : Int64) : 0 ≤ x.toInt → 0 < y.toInt → 0 ≤ (x % y).toInt ∧ (x % y).toInt < y.toInt ∧ (x % y).toInt ≤ x.toInt := by
  intro h1 h2
  rw [Int64.toInt_mod, Int.tmod_eq_emod_of_nonneg h1]
  have a := Int.emod_nonneg x.toInt (by omega : y.toInt ≠ 0)
  have b := Int.emod_lt_of_pos x.toInt h2
  refine ⟨a, b, ?_⟩
  by_cases c : x.toInt < y.toInt
  · rw [Int.emod_eq_of_lt h1 c]; exact Int.le_refl _
  · omega
theorem own_prod {a b A B : Int} (h1 : 0 ≤ a) (h2 : a ≤ A) (h3 : 0 ≤ b) (h4 : b ≤ B) : 0 ≤ a * b ∧ a * b ≤ A * B :=
  ⟨Int.mul_nonneg h1 h3, Int.mul_le_mul h2 h4 h3 (Int.le_trans h1 h2)⟩
theorem own_get {bs : List Int32} {i : Nat} (h : i < bs.length) : bs[i]? = some (bs.getD i 0) := by
  rw [List.getD_eq_getElem?_getD, List.getElem?_eq_getElem h]; rfl
theorem own_getJ {bs : List Int64} {i : Nat} (h : i < bs.length) : bs[i]? = some (bs.getD i 0) := by
  rw [List.getD_eq_getElem?_getD, List.getElem?_eq_getElem h]; rfl
theorem own_nat0 {i : Int32} (h : 0 ≤ i.toInt) : ¬ i < 0 := by
  rw [Int32.lt_iff_toInt_lt]; simp only [Int32.reduceToInt]; omega
theorem own_inc {i : Int32} (h : 0 ≤ i.toInt ∧ i.toInt ≤ 100) : (i + (1 : Int32)).toInt = i.toInt + 1 := by
  have a := c_iadd i (1 : Int32)
  have b := rng32 (i + (1 : Int32))
  simp only [Int32.reduceToInt] at a
  omega

theorem pn_0 : plainName "com/example/utility_meter_billing/utilitymeterbilling/io/WholeNumberValuePinLaw" = true := by first | (simp [plainName, overriddenIn]; done) | decide +kernel
theorem d3_0 : decode method_4_code 0 = .ok (.iload_n 0, 1) := by decide +kernel
theorem d3_1 : decode method_4_code 1 = .ok (.bipush 48, 2) := by decide +kernel
theorem d3_3 : decode method_4_code 3 = .ok (.if_icmp .lt 13, 3) := by decide +kernel
theorem d3_6 : decode method_4_code 6 = .ok (.iload_n 0, 1) := by decide +kernel
theorem d3_7 : decode method_4_code 7 = .ok (.bipush 57, 2) := by decide +kernel
theorem d3_9 : decode method_4_code 9 = .ok (.if_icmp .gt 7, 3) := by decide +kernel
theorem d3_12 : decode method_4_code 12 = .ok (.iconst 1, 1) := by decide +kernel
theorem d3_13 : decode method_4_code 13 = .ok (.goto 4, 3) := by decide +kernel
theorem d3_16 : decode method_4_code 16 = .ok (.iconst 0, 1) := by decide +kernel
theorem d3_17 : decode method_4_code 17 = .ok (.ireturn, 1) := by decide +kernel
def Rel3 (p1 : Int32) (r : Int32) : Prop := (p1 < (48 : Int32) ∧ r = (0 : Int32)) ∨ (¬ (p1 < (48 : Int32)) ∧ (57 : Int32) < p1 ∧ r = (0 : Int32)) ∨ (¬ (p1 < (48 : Int32)) ∧ ¬ ((57 : Int32) < p1) ∧ r = (1 : Int32))
def Q3 (Z : State) (p1 : Int32) (h0 : Heap) (n0 : Nat) (v : Option Value) (h : Heap) (L : List Loc) : Prop := ∃ r : Int32, v = some (.int r) ∧ Rel3 p1 r ∧ Fr n0 L ∧ h = h0
theorem ef_rm3 (m : MethodId) (p1 : Int32) : entryFrame m #[(.int p1)] 1 = mkF m 0 #[.val (.int p1)] [] := by first | (simp [entryFrame, mkF, argsToLocals, Value.category]; done) | rfl
set_option maxRecDepth 65536 in
set_option maxHeartbeats 40000000 in
theorem rm3 (l : Launch) (Z : State) (a0 : Array Value) (hw : ∀ d ∈ tables_1, d.before a0 Z = true) (ws : List Jvm.Cond) (p1 : Int32) (h0 : Heap) (n0 : Nat) (Z0 : n0 ≤ h0.size)  :
    MetFree l (⟨"com/example/utility_meter_billing/utilitymeterbilling/io/WholeNumberValuePinLaw", "isDigit", "(B)Z"⟩ : MethodName) (head1 (Jvm.Cond.code (⟨"com/example/utility_meter_billing/utilitymeterbilling/io/WholeNumberValuePinLaw", "isDigit", "(B)Z"⟩ : MethodName) method_4_code 1 (some .boolean) :: ws) ({ frames := 0, cells := 0, slots := 0, locals := 0 } : Room)) (fun a U => a = #[(.int p1)] ∧ Z.Warmed39 U.vm ∧ U.heap = h0) (fun _ _ _ _ _ => True) (fun _ U o U' => ∃ v L, o = .returned v ∧ (Q3 Z p1 h0 n0) v U'.heap L ∧ FrameEnd U o U' L ({ frames := 0, cells := 0, slots := 0, locals := 0 } : Room).cells ({ frames := 0, cells := 0, slots := 0, locals := 0 } : Room).slots) := by
  refine MetFree.of_bodySF (plainFor_of_name pn_0) hisR ?_
  intro p e s m args below meth c s₁ Bd hml0 hP hK
  obtain ⟨rfl, hZ, hh⟩ := hP
  have hx := Bd.exec
  have hby := Bd.bytes
  have hml : c.maxLocals = 1 := hml0
  have hown : s.vm.findClass "com/example/utility_meter_billing/utilitymeterbilling/io/WholeNumberValuePinLaw" = some m.cls := findClass_of_methodNamed Bd.named
  have hnm := (name_of_methodNamed Bd.named Bd.method).1
  have hlk : meth.locks = false := BodyLoose.notSynchronized Bd
  have X0 : Stand p l e ({ frames := 0, cells := 0, slots := 0, locals := 0 } : Room) s m #[(.int p1)] below meth c s₁ [] 0 0 := Stand.of_body Bd
  have e0 : s₁.heap = h0 := by rw [← hh, Bd.state]; rfl
  have N0 := Fr.nil n0
  show Go p e below s ({ frames := 0, cells := 0, slots := 0, locals := 0 } : Room).cells ({ frames := 0, cells := 0, slots := 0, locals := 0 } : Room).slots (Q3 Z p1 h0 n0) s₁ (entryFrame m #[(.int p1)] 1)
  rw [ef_rm3 m p1]
  refine g_iloadN 1 X0 hx (hb hby d3_0) rfl (v := p1) rfl ?_
  refine g_bipush 3 X0 hx (hb hby d3_1) rfl (z := (48 : Int32)) rfl ?_
  by_cases hc3_0 : p1 < (48 : Int32)
  ·
    refine g_icmpYes 16 X0 hx (hb hby d3_3)  (tlt hc3_0).1 (by decide) (by decide) ?_
    refine g_iconst 17 X0 hx (hb hby d3_16) rfl (z := (0 : Int32)) rfl ?_
    exact g_retN X0 hx (t := .boolean) Bd.returns hlk (by simp) rfl (hb hby d3_17) (by decide) (by decide) ⟨(0 : Int32), rfl, (Or.inl ⟨hc3_0, rfl⟩), N0, e0⟩
  ·
    refine g_icmpNo 6 X0 hx (hb hby d3_3)  (flt hc3_0).1 rfl ?_
    refine g_iloadN 7 X0 hx (hb hby d3_6) rfl (v := p1) rfl ?_
    refine g_bipush 9 X0 hx (hb hby d3_7) rfl (z := (57 : Int32)) rfl ?_
    by_cases hc9_1 : (57 : Int32) < p1
    ·
      refine g_icmpYes 16 X0 hx (hb hby d3_9)  (tlt hc9_1).2.2.1 (by decide) (by decide) ?_
      refine g_iconst 17 X0 hx (hb hby d3_16) rfl (z := (0 : Int32)) rfl ?_
      exact g_retN X0 hx (t := .boolean) Bd.returns hlk (by simp) rfl (hb hby d3_17) (by decide) (by decide) ⟨(0 : Int32), rfl, (Or.inr (Or.inl ⟨hc3_0, hc9_1, rfl⟩)), N0, e0⟩
    ·
      refine g_icmpNo 12 X0 hx (hb hby d3_9)  (flt hc9_1).2.2.1 rfl ?_
      refine g_iconst 13 X0 hx (hb hby d3_12) rfl (z := (1 : Int32)) rfl ?_
      refine g_goto 17 X0 hx (hb hby d3_13) (by decide) (by decide) ?_
      exact g_retN X0 hx (t := .boolean) Bd.returns hlk (by simp) rfl (hb hby d3_17) (by decide) (by decide) ⟨(1 : Int32), rfl, (Or.inr (Or.inr ⟨hc3_0, hc9_1, rfl⟩)), N0, e0⟩
theorem d4_0 : decode jdk_29_method_69_code 0 = .ok (.iload_n 0, 1) := by decide +kernel
theorem d4_1 : decode jdk_29_method_69_code 1 = .ok (.iload_n 1, 1) := by decide +kernel
theorem d4_2 : decode jdk_29_method_69_code 2 = .ok (.if_icmp .gt 7, 3) := by decide +kernel
theorem d4_5 : decode jdk_29_method_69_code 5 = .ok (.iload_n 0, 1) := by decide +kernel
theorem d4_6 : decode jdk_29_method_69_code 6 = .ok (.goto 4, 3) := by decide +kernel
theorem d4_9 : decode jdk_29_method_69_code 9 = .ok (.iload_n 1, 1) := by decide +kernel
theorem d4_10 : decode jdk_29_method_69_code 10 = .ok (.ireturn, 1) := by decide +kernel
def Rel4 (p1 : Int32) (p2 : Int32) (r : Int32) : Prop := (p2 < p1 ∧ r = p2) ∨ (¬ (p2 < p1) ∧ r = p1)
def Q4 (Z : State) (p1 : Int32) (p2 : Int32) (h0 : Heap) (n0 : Nat) (v : Option Value) (h : Heap) (L : List Loc) : Prop := ∃ r : Int32, v = some (.int r) ∧ Rel4 p1 p2 r ∧ Fr n0 L ∧ h = h0
theorem ef_rm4 (m : MethodId) (p1 : Int32) (p2 : Int32) : entryFrame m #[(.int p1), (.int p2)] 2 = mkF m 0 #[.val (.int p1), .val (.int p2)] [] := by first | (simp [entryFrame, mkF, argsToLocals, Value.category]; done) | rfl
set_option maxRecDepth 65536 in
set_option maxHeartbeats 40000000 in
theorem rm4 (l : Launch) (Z : State) (a0 : Array Value) (hw : ∀ d ∈ tables_1, d.before a0 Z = true) (ws : List Jvm.Cond) (p1 : Int32) (p2 : Int32) (h0 : Heap) (n0 : Nat) (Z0 : n0 ≤ h0.size)  :
    MetFree l (⟨"java/lang/Math", "min", "(II)I"⟩ : MethodName) (head1 (Jvm.Cond.code (⟨"java/lang/Math", "min", "(II)I"⟩ : MethodName) jdk_29_method_69_code 2 (some .int) :: ws) ({ frames := 0, cells := 0, slots := 0, locals := 0 } : Room)) (fun a U => a = #[(.int p1), (.int p2)] ∧ Z.Warmed39 U.vm ∧ U.heap = h0) (fun _ _ _ _ _ => True) (fun _ U o U' => ∃ v L, o = .returned v ∧ (Q4 Z p1 p2 h0 n0) v U'.heap L ∧ FrameEnd U o U' L ({ frames := 0, cells := 0, slots := 0, locals := 0 } : Room).cells ({ frames := 0, cells := 0, slots := 0, locals := 0 } : Room).slots) := by
  refine MetFree.of_bodySF (Jvm.Free.JP.mathPlain rfl (by decide +kernel)) hisR ?_
  intro p e s m args below meth c s₁ Bd hml0 hP hK
  obtain ⟨rfl, hZ, hh⟩ := hP
  have hx := Bd.exec
  have hby := Bd.bytes
  have hml : c.maxLocals = 2 := hml0
  have hown : s.vm.findClass "java/lang/Math" = some m.cls := findClass_of_methodNamed Bd.named
  have hnm := (name_of_methodNamed Bd.named Bd.method).1
  have hlk : meth.locks = false := BodyLoose.notSynchronized Bd
  have X0 : Stand p l e ({ frames := 0, cells := 0, slots := 0, locals := 0 } : Room) s m #[(.int p1), (.int p2)] below meth c s₁ [] 0 0 := Stand.of_body Bd
  have e0 : s₁.heap = h0 := by rw [← hh, Bd.state]; rfl
  have N0 := Fr.nil n0
  show Go p e below s ({ frames := 0, cells := 0, slots := 0, locals := 0 } : Room).cells ({ frames := 0, cells := 0, slots := 0, locals := 0 } : Room).slots (Q4 Z p1 p2 h0 n0) s₁ (entryFrame m #[(.int p1), (.int p2)] 2)
  rw [ef_rm4 m p1 p2]
  refine g_iloadN 1 X0 hx (hb hby d4_0) rfl (v := p1) rfl ?_
  refine g_iloadN 2 X0 hx (hb hby d4_1) rfl (v := p2) rfl ?_
  by_cases hc2_0 : p2 < p1
  ·
    refine g_icmpYes 9 X0 hx (hb hby d4_2)  (tlt hc2_0).2.2.1 (by decide) (by decide) ?_
    refine g_iloadN 10 X0 hx (hb hby d4_9) rfl (v := p2) rfl ?_
    exact g_retI X0 hx Bd.returns hlk (hb hby d4_10) (by decide) (by decide) ⟨p2, rfl, (Or.inl ⟨hc2_0, rfl⟩), N0, e0⟩
  ·
    refine g_icmpNo 5 X0 hx (hb hby d4_2)  (flt hc2_0).2.2.1 rfl ?_
    refine g_iloadN 6 X0 hx (hb hby d4_5) rfl (v := p1) rfl ?_
    refine g_goto 10 X0 hx (hb hby d4_6) (by decide) (by decide) ?_
    exact g_retI X0 hx Bd.returns hlk (hb hby d4_10) (by decide) (by decide) ⟨p1, rfl, (Or.inr ⟨hc2_0, rfl⟩), N0, e0⟩
theorem d5_0 : decode jdk_29_method_65_code 0 = .ok (.iload_n 0, 1) := by decide +kernel
theorem d5_1 : decode jdk_29_method_65_code 1 = .ok (.iload_n 1, 1) := by decide +kernel
theorem d5_2 : decode jdk_29_method_65_code 2 = .ok (.if_icmp .lt 7, 3) := by decide +kernel
theorem d5_5 : decode jdk_29_method_65_code 5 = .ok (.iload_n 0, 1) := by decide +kernel
theorem d5_6 : decode jdk_29_method_65_code 6 = .ok (.goto 4, 3) := by decide +kernel
theorem d5_9 : decode jdk_29_method_65_code 9 = .ok (.iload_n 1, 1) := by decide +kernel
theorem d5_10 : decode jdk_29_method_65_code 10 = .ok (.ireturn, 1) := by decide +kernel
def Rel5 (p1 : Int32) (p2 : Int32) (r : Int32) : Prop := (p1 < p2 ∧ r = p2) ∨ (¬ (p1 < p2) ∧ r = p1)
def Q5 (Z : State) (p1 : Int32) (p2 : Int32) (h0 : Heap) (n0 : Nat) (v : Option Value) (h : Heap) (L : List Loc) : Prop := ∃ r : Int32, v = some (.int r) ∧ Rel5 p1 p2 r ∧ Fr n0 L ∧ h = h0
theorem ef_rm5 (m : MethodId) (p1 : Int32) (p2 : Int32) : entryFrame m #[(.int p1), (.int p2)] 2 = mkF m 0 #[.val (.int p1), .val (.int p2)] [] := by first | (simp [entryFrame, mkF, argsToLocals, Value.category]; done) | rfl
set_option maxRecDepth 65536 in
set_option maxHeartbeats 40000000 in
theorem rm5 (l : Launch) (Z : State) (a0 : Array Value) (hw : ∀ d ∈ tables_1, d.before a0 Z = true) (ws : List Jvm.Cond) (p1 : Int32) (p2 : Int32) (h0 : Heap) (n0 : Nat) (Z0 : n0 ≤ h0.size)  :
    MetFree l (⟨"java/lang/Math", "max", "(II)I"⟩ : MethodName) (head1 (Jvm.Cond.code (⟨"java/lang/Math", "max", "(II)I"⟩ : MethodName) jdk_29_method_65_code 2 (some .int) :: ws) ({ frames := 0, cells := 0, slots := 0, locals := 0 } : Room)) (fun a U => a = #[(.int p1), (.int p2)] ∧ Z.Warmed39 U.vm ∧ U.heap = h0) (fun _ _ _ _ _ => True) (fun _ U o U' => ∃ v L, o = .returned v ∧ (Q5 Z p1 p2 h0 n0) v U'.heap L ∧ FrameEnd U o U' L ({ frames := 0, cells := 0, slots := 0, locals := 0 } : Room).cells ({ frames := 0, cells := 0, slots := 0, locals := 0 } : Room).slots) := by
  refine MetFree.of_bodySF (Jvm.Free.JP.mathPlain rfl (by decide +kernel)) hisR ?_
  intro p e s m args below meth c s₁ Bd hml0 hP hK
  obtain ⟨rfl, hZ, hh⟩ := hP
  have hx := Bd.exec
  have hby := Bd.bytes
  have hml : c.maxLocals = 2 := hml0
  have hown : s.vm.findClass "java/lang/Math" = some m.cls := findClass_of_methodNamed Bd.named
  have hnm := (name_of_methodNamed Bd.named Bd.method).1
  have hlk : meth.locks = false := BodyLoose.notSynchronized Bd
  have X0 : Stand p l e ({ frames := 0, cells := 0, slots := 0, locals := 0 } : Room) s m #[(.int p1), (.int p2)] below meth c s₁ [] 0 0 := Stand.of_body Bd
  have e0 : s₁.heap = h0 := by rw [← hh, Bd.state]; rfl
  have N0 := Fr.nil n0
  show Go p e below s ({ frames := 0, cells := 0, slots := 0, locals := 0 } : Room).cells ({ frames := 0, cells := 0, slots := 0, locals := 0 } : Room).slots (Q5 Z p1 p2 h0 n0) s₁ (entryFrame m #[(.int p1), (.int p2)] 2)
  rw [ef_rm5 m p1 p2]
  refine g_iloadN 1 X0 hx (hb hby d5_0) rfl (v := p1) rfl ?_
  refine g_iloadN 2 X0 hx (hb hby d5_1) rfl (v := p2) rfl ?_
  by_cases hc2_0 : p1 < p2
  ·
    refine g_icmpYes 9 X0 hx (hb hby d5_2)  (tlt hc2_0).1 (by decide) (by decide) ?_
    refine g_iloadN 10 X0 hx (hb hby d5_9) rfl (v := p2) rfl ?_
    exact g_retI X0 hx Bd.returns hlk (hb hby d5_10) (by decide) (by decide) ⟨p2, rfl, (Or.inl ⟨hc2_0, rfl⟩), N0, e0⟩
  ·
    refine g_icmpNo 5 X0 hx (hb hby d5_2)  (flt hc2_0).1 rfl ?_
    refine g_iloadN 6 X0 hx (hb hby d5_5) rfl (v := p1) rfl ?_
    refine g_goto 10 X0 hx (hb hby d5_6) (by decide) (by decide) ?_
    exact g_retI X0 hx Bd.returns hlk (hb hby d5_10) (by decide) (by decide) ⟨p1, rfl, (Or.inr ⟨hc2_0, rfl⟩), N0, e0⟩
theorem own_pows : ∀ k : Fin 19, [(1 : Int64), (10 : Int64), (100 : Int64), (1000 : Int64), (10000 : Int64), (100000 : Int64), (1000000 : Int64), (10000000 : Int64), (100000000 : Int64), (1000000000 : Int64), (10000000000 : Int64), (100000000000 : Int64), (1000000000000 : Int64), (10000000000000 : Int64), (100000000000000 : Int64), (1000000000000000 : Int64), (10000000000000000 : Int64), (100000000000000000 : Int64), (1000000000000000000 : Int64)].getD k.val 0 = Int64.ofNat (10 ^ k.val) := by decide
theorem own_pw (k : Nat) (h : k ≤ 18) : (Int64.ofNat (10 ^ k)).toInt = (10 ^ k : Nat) ∧ 1 ≤ (10 ^ k : Nat) ∧ (10 ^ k : Nat) ≤ 1000000000000000000 := by
  have a : 10 ^ k ≤ 10 ^ 18 := Nat.pow_le_pow_right (by decide) h
  have b : 0 < 10 ^ k := Nat.pow_pos (by decide)
  refine ⟨Int64.toInt_ofNat_of_lt (by omega), b, a⟩
theorem own_divp (m p q : Int64) (k : Nat) (hk : k ≤ 18) (hm : 0 ≤ m.toInt) (hp : p = Int64.ofNat (10 ^ k)) (hq : m / p = q) : q.toInt = ((m.toInt.toNat / 10 ^ k : Nat) : Int) := by
  obtain ⟨a, b, c⟩ := own_pw k hk
  have hne : p ≠ -1 := by intro e; rw [hp] at e; have f := congrArg Int64.toInt e; rw [a] at f; simp only [Int64.reduceToInt] at f; omega
  have d := (c_ldiv m p ((10 ^ k : Nat) : Int) (by rw [hp]; exact a) hne).1 hm
  rw [← hq, d, Int.natCast_ediv]
  rw [Int.toNat_of_nonneg hm]
theorem own_remp (m p q : Int64) (k : Nat) (hk : k ≤ 18) (hm : 0 ≤ m.toInt) (hp : p = Int64.ofNat (10 ^ k)) (hq : m % p = q) : q.toInt = ((m.toInt.toNat % 10 ^ k : Nat) : Int) := by
  obtain ⟨a, b, c⟩ := own_pw k hk
  have d := (own_lrem m p ((10 ^ k : Nat) : Int) (by rw [hp]; exact a)).1 hm
  rw [← hq, d, Int.natCast_emod]
  rw [Int.toNat_of_nonneg hm]
theorem own_pne (p : Int64) (k : Nat) (hk : k ≤ 18) (hp : p = Int64.ofNat (10 ^ k)) : p ≠ 0 := by
  obtain ⟨a, b, c⟩ := own_pw k hk
  intro e; rw [hp] at e; have f := congrArg Int64.toInt e; rw [a] at f; simp only [Int64.reduceToInt] at f; omega
theorem own_digv (m p : Int64) (k : Nat) (hk : k ≤ 18) (hm : 0 ≤ m.toInt) (hp : p = Int64.ofNat (10 ^ k)) : (nar .byte (((((48 : Int64) + ((m / p) % (10 : Int64))).toInt32).toInt8.toInt32))).toInt = 48 + ((m.toInt.toNat / 10 ^ k % 10 : Nat) : Int) := by
  have a := own_divp m p _ k hk hm hp rfl
  have b := (own_lrem (m / p) (10 : Int64) 10 (by decide)).1 (by rw [a]; exact Int.natCast_nonneg _)
  have c := c_ladd (48 : Int64) ((m / p) % (10 : Int64))
  have d := rng64 ((48 : Int64) + ((m / p) % (10 : Int64)))
  simp only [Int64.reduceToInt] at c
  have e := c_l2i ((48 : Int64) + ((m / p) % (10 : Int64)))
  have f := rng32 ((48 : Int64) + ((m / p) % (10 : Int64))).toInt32
  have g := c_i2b ((48 : Int64) + ((m / p) % (10 : Int64))).toInt32
  show ((((48 : Int64) + ((m / p) % (10 : Int64))).toInt32.toInt8.toInt32).toInt8.toInt32).toInt = _
  have i := c_i2b ((48 : Int64) + ((m / p) % (10 : Int64))).toInt32.toInt8.toInt32
  rw [a] at b
  generalize m.toInt.toNat / 10 ^ k = D at *
  omega
def own_vl (bs : List Int32) : Nat → Nat → Int64 → Int64
  | 0, _, r => r
  | k + 1, i, r => if r = (-1 : Int64) then r else own_vl bs k (i + 1) (if bs.getD i 0 < (48 : Int32) ∨ (57 : Int32) < bs.getD i 0 then (-1 : Int64) else if (99999999999999999 : Int64) < r then (9223372036854775807 : Int64) else (r * (10 : Int64) + (bs.getD i 0).toInt64) - (48 : Int64))
theorem own_vm1 (bs : List Int32) (k i : Nat) : own_vl bs k i (-1 : Int64) = -1 := by cases k <;> rfl
theorem own_vstep (bs : List Int32) (t i : Int32) (r r' : Int64) (h0 : 0 ≤ i.toInt ∧ i.toInt ≤ 100) (h : i < t) (hr : ¬ r = (-1 : Int64)) (e : r' = if bs.getD i.toInt.toNat 0 < (48 : Int32) ∨ (57 : Int32) < bs.getD i.toInt.toNat 0 then (-1 : Int64) else if (99999999999999999 : Int64) < r then (9223372036854775807 : Int64) else (r * (10 : Int64) + (bs.getD i.toInt.toNat 0).toInt64) - (48 : Int64)) : own_vl bs (t.toInt - (i + (1 : Int32)).toInt).toNat (i + (1 : Int32)).toInt.toNat r' = own_vl bs (t.toInt - i.toInt).toNat i.toInt.toNat r := by
  rw [Int32.lt_iff_toInt_lt] at h
  rw [own_inc h0, show (t.toInt - i.toInt).toNat = (t.toInt - (i.toInt + 1)).toNat + 1 by omega, show (i.toInt + 1).toNat = i.toInt.toNat + 1 by omega]
  conv => rhs; rw [own_vl, if_neg hr]
  rw [e]
theorem own_vend (bs : List Int32) (t i : Int32) (r : Int64) (h : ¬ i < t) : r = own_vl bs (t.toInt - i.toInt).toNat i.toInt.toNat r := by
  rw [Int32.lt_iff_toInt_lt] at h
  rw [show (t.toInt - i.toInt).toNat = 0 by omega]; rfl
def own_dg (x : Int32) : Prop := 48 ≤ x.toInt ∧ x.toInt ≤ 57
def own_bad (x : Int32) : Prop := x < (48 : Int32) ∨ (57 : Int32) < x
def own_S (r : Int64) (W : Nat) : Prop := (W < 1000000000000000000 ∧ r.toInt = (W : Int)) ∨ (1000000000000000000 ≤ W ∧ r.toInt = 9223372036854775807)
def own_num (bs : List Int32) : Nat → Nat → Nat → Nat
  | 0, _, W => W
  | k + 1, i, W => own_num bs k (i + 1) (10 * W + ((bs.getD i 0).toInt - 48).toNat)
theorem own_Seq (r s : Int64) (W : Nat) (h : own_S r W) (g : own_S s W) : r = s := by
  apply Int64.toInt_inj.mp
  rcases h with ⟨a, b⟩ | ⟨a, b⟩ <;> rcases g with ⟨c, d⟩ | ⟨c, d⟩ <;> omega
theorem own_dgn (x : Int32) (h : own_dg x) : ¬ (x < (48 : Int32) ∨ (57 : Int32) < x) := by
  obtain ⟨a, b⟩ := h
  rw [Int32.lt_iff_toInt_lt, Int32.lt_iff_toInt_lt]; simp only [Int32.reduceToInt]; omega
theorem own_Sstep (x : Int32) (r : Int64) (W : Nat) (hx : own_dg x) (h : own_S r W) : own_S (if x < (48 : Int32) ∨ (57 : Int32) < x then (-1 : Int64) else if (99999999999999999 : Int64) < r then (9223372036854775807 : Int64) else (r * (10 : Int64) + x.toInt64) - (48 : Int64)) (10 * W + (x.toInt - 48).toNat) := by
  rw [if_neg (own_dgn x hx)]
  obtain ⟨a, b⟩ := hx
  by_cases c : (99999999999999999 : Int64) < r
  · rw [if_pos c]
    rw [Int64.lt_iff_toInt_lt] at c; simp only [Int64.reduceToInt] at c
    refine Or.inr ⟨?_, by decide⟩
    rcases h with ⟨h1, h2⟩ | ⟨h1, h2⟩ <;> omega
  · rw [if_neg c]
    rw [Int64.lt_iff_toInt_lt] at c; simp only [Int64.reduceToInt] at c
    have d1 := c_lmul r (10 : Int64)
    have d2 := rng64 (r * (10 : Int64))
    have d3 := c_ladd (r * (10 : Int64)) x.toInt64
    have d4 := rng64 (r * (10 : Int64) + x.toInt64)
    have d5 := c_lsub (r * (10 : Int64) + x.toInt64) (48 : Int64)
    have d6 := rng64 (r * (10 : Int64) + x.toInt64 - (48 : Int64))
    have d7 : x.toInt64.toInt = x.toInt := by simp
    simp only [Int64.reduceToInt] at d1 d5
    rw [d7] at d3
    have e0 : r.toInt = (W : Int) ∧ W < 100000000000000000 := by rcases h with ⟨h1, h2⟩ | ⟨h1, h2⟩ <;> omega
    have e1 : (r * (10 : Int64)).toInt = 10 * (W : Int) := by omega
    have e2 : (r * (10 : Int64) + x.toInt64).toInt = 10 * (W : Int) + x.toInt := by omega
    have e3 : (r * (10 : Int64) + x.toInt64 - (48 : Int64)).toInt = 10 * (W : Int) + x.toInt - 48 := by omega
    exact Or.inl ⟨by omega, by omega⟩
theorem own_Sne (r : Int64) (W : Nat) (h : own_S r W) : ¬ r = (-1 : Int64) := by
  intro e; rw [e] at h
  have f : (-1 : Int64).toInt = -1 := by decide
  rcases h with ⟨a, b⟩ | ⟨a, b⟩ <;> omega
theorem own_vlS (bs : List Int32) : ∀ (k i : Nat) (r : Int64) (W : Nat), own_S r W → (∀ j, i ≤ j → j < i + k → own_dg (bs.getD j 0)) → own_S (own_vl bs k i r) (own_num bs k i W)
  | 0, _, _, _, h, _ => h
  | k + 1, i, r, W, h, hd => by
    rw [own_vl, if_neg (own_Sne r W h), own_num]
    exact own_vlS bs k (i + 1) _ _ (own_Sstep _ _ _ (hd i (by omega) (by omega)) h) (fun j a b => hd j (by omega) (by omega))
theorem own_vlB (bs : List Int32) : ∀ (k i : Nat) (r : Int64) (j : Nat), i ≤ j → j < i + k → own_bad (bs.getD j 0) → own_vl bs k i r = (-1 : Int64)
  | 0, _, _, _, a, b, _ => by omega
  | k + 1, i, r, j, a, b, h => by
    rw [own_vl]
    by_cases c : r = (-1 : Int64)
    · rw [if_pos c, c]
    · rw [if_neg c]
      by_cases d : j = i
      · rw [d] at h
        unfold own_bad at h
        rw [if_pos h, own_vm1]
      · exact own_vlB bs k (i + 1) _ j (by omega) (by omega) h
theorem own_numadd (bs : List Int32) : ∀ (a b i W : Nat), own_num bs (a + b) i W = own_num bs b (i + a) (own_num bs a i W)
  | 0, b, i, W => by rw [Nat.zero_add]; rfl
  | a + 1, b, i, W => by
    rw [show a + 1 + b = (a + b) + 1 by omega, own_num, own_num, own_numadd bs a b (i + 1), show i + 1 + a = i + (a + 1) by omega]
theorem own_nummid (bs : List Int32) (m : Nat) : ∀ (k i W : Nat), i + k ≤ 20 → (∀ j, i ≤ j → j < i + k → (bs.getD j 0).toInt = 48 + ((m / 10 ^ (19 - j) % 10 : Nat) : Int)) → own_num bs k i W = W * 10 ^ k + (m / 10 ^ (20 - i - k)) % 10 ^ k
  | 0, i, W, _, _ => by simp [own_num, Nat.mod_one]
  | k + 1, i, W, h, hd => by
    have d := hd i (by omega) (by omega)
    rw [own_num, own_nummid bs m k (i + 1) _ (by omega) (fun j a b => hd j (by omega) (by omega)), d]
    rw [show (48 + ((m / 10 ^ (19 - i) % 10 : Nat) : Int) - 48).toNat = m / 10 ^ (19 - i) % 10 by omega]
    rw [show 20 - (i + 1) - k = 20 - i - (k + 1) by omega, show 19 - i = (20 - i - (k + 1)) + k by omega, Nat.pow_add, ← Nat.div_div_eq_div_mul]
    generalize m / 10 ^ (20 - i - (k + 1)) = x
    rw [Nat.pow_succ, Nat.mod_mul, Nat.add_mul, Nat.mul_comm (10 ^ k) (x / 10 ^ k % 10), Nat.mul_comm 10 W, Nat.mul_assoc, Nat.mul_comm 10 (10 ^ k)]
    omega
def own_n (f t : Nat) : Nat := min t 20 - max f 1
def own_R (m f t : Nat) : Nat := (m / 10 ^ (20 - min t 20)) % 10 ^ own_n f t
theorem own_tot (bs : List Int32) (m f t : Nat) (hft : f < t) (ht : t ≤ 21) (hd : ∀ j, f ≤ j → j < t → 1 ≤ j → j ≤ 19 → (bs.getD j 0).toInt = 48 + ((m / 10 ^ (19 - j) % 10 : Nat) : Int)) : own_num bs (t - f) f 0 = (if f = 0 then ((bs.getD 0 0).toInt - 48).toNat else 0) * 10 ^ (own_n f t + (if t = 21 then 1 else 0)) + own_R m f t * 10 ^ (if t = 21 then 1 else 0) + (if t = 21 then ((bs.getD 20 0).toInt - 48).toNat else 0) := by
  have mid : ∀ W, own_num bs (own_n f t) (max f 1) W = W * 10 ^ own_n f t + own_R m f t := by
    intro W
    by_cases z : own_n f t = 0
    · unfold own_R; rw [z]; simp [own_num, Nat.mod_one]
    · unfold own_n at z
      rw [own_nummid bs m (own_n f t) (max f 1) W (by unfold own_n; omega) (fun j a b => hd j (by omega) (by unfold own_n at b; omega) (by omega) (by unfold own_n at b; omega))]
      unfold own_R
      rw [show 20 - max f 1 - own_n f t = 20 - min t 20 by unfold own_n; omega]
  have lead : own_num bs (t - f) f 0 = own_num bs (t - max f 1) (max f 1) (if f = 0 then ((bs.getD 0 0).toInt - 48).toNat else 0) := by
    by_cases z : f = 0
    · subst z
      rw [if_pos rfl, show t - 0 = (t - max 0 1) + 1 by omega, own_num]
      simp
    · rw [if_neg z, show max f 1 = f by omega]
  rw [lead]
  by_cases z : t = 21
  · subst z
    simp only [if_true]
    by_cases y : f ≤ 20
    · rw [show 21 - max f 1 = own_n f 21 + 1 by unfold own_n; omega, own_numadd, mid, own_num, own_num, show max f 1 + own_n f 21 = 20 by unfold own_n; omega, Nat.pow_succ, ← Nat.mul_assoc]
      generalize (if f = 0 then ((bs.getD 0 0).toInt - 48).toNat else 0) * 10 ^ own_n f 21 = A
      omega
    · omega
  · simp only [if_neg z, Nat.add_zero, Nat.pow_zero, Nat.mul_one]
    rw [← mid, show t - max f 1 = own_n f t by unfold own_n; omega]
theorem own_Rlt (m f t : Nat) : own_R m f t < 10 ^ own_n f t := Nat.mod_lt _ (Nat.pow_pos (by decide))
theorem own_pwle {a b : Nat} (h : a ≤ b) : 10 ^ a ≤ 10 ^ b := Nat.pow_le_pow_right (by decide) h
theorem own_mulN (x y : Int64) (a b : Nat) (ha : x.toInt = (a : Int)) (hb : y.toInt = (b : Int)) (h : a * b < 9223372036854775808) : (x * y).toInt = ((a * b : Nat) : Int) := by
  have c := c_lmul x y
  have d := rng64 (x * y)
  rw [ha, hb, ← Int.natCast_mul] at c
  omega
theorem own_addN (x y : Int64) (a b : Nat) (ha : x.toInt = (a : Int)) (hb : y.toInt = (b : Int)) (h : a + b < 9223372036854775808) : (x + y).toInt = ((a + b : Nat) : Int) := by
  have c := c_ladd x y
  have d := rng64 (x + y)
  rw [ha, hb] at c
  omega
def own_F (m : Int64) (F : List Int32) (b c q mb : Int32) : Prop := F.length = 21 ∧ F.getD 0 0 = b ∧ F.getD 20 0 = c ∧ (∀ i, 1 ≤ i → i ≤ 19 → (mb = 0 ∨ i ≠ q.toInt.toNat) → (F.getD i 0).toInt = 48 + ((m.toInt.toNat / 10 ^ (19 - i) % 10 : Nat) : Int)) ∧ (¬ mb = 0 → own_bad (F.getD q.toInt.toNat 0))
def own_W (m : Int64) (b c f t : Int32) : Nat := (if f.toInt.toNat = 0 then (b.toInt - 48).toNat else 0) * 10 ^ (own_n f.toInt.toNat t.toInt.toNat + (if t.toInt.toNat = 21 then 1 else 0)) + own_R m.toInt.toNat f.toInt.toNat t.toInt.toNat * 10 ^ (if t.toInt.toNat = 21 then 1 else 0) + (if t.toInt.toNat = 21 then (c.toInt - 48).toNat else 0)
def own_B (m : Int64) (b c f t : Int32) (got : Int64) (bad : Int32) : Prop := (bad = 0 ∧ (f = 0 → own_dg b) ∧ (t = 21 → own_dg c) ∧ own_S got (own_W m b c f t)) ∨ (¬ bad = 0 ∧ got = (-1 : Int64))
theorem own_b8 (r : Int32) (m : Int64) (k : Nat) (k' : Int32) (e : k'.toInt.toNat = k) (h : r.toInt = 48 + ((m.toInt.toNat / 10 ^ k'.toInt.toNat % 10 : Nat) : Int)) : r.toInt8.toInt32.toInt = 48 + ((m.toInt.toNat / 10 ^ k % 10 : Nat) : Int) := by
  rw [e] at h
  have a := c_i2b r
  have b := rng32 r.toInt8.toInt32
  generalize m.toInt.toNat / 10 ^ k = D at *
  omega
theorem own_b88 (p z : Int32) (h : p.toInt8.toInt32 = z) : z.toInt8.toInt32 = z := by
  apply Int32.toInt_inj.mp
  have a := c_i2b p
  have b := c_i2b z
  rw [h] at a
  have c := rng32 z
  have d := rng32 z.toInt8.toInt32
  omega
theorem own_setD (L : List Int32) (q i : Nat) (v : Int32) (h : q < L.length) : (L.set q v).getD i 0 = if q = i then v else L.getD i 0 := by
  rw [List.getD_eq_getElem?_getD, List.getElem?_set, List.getD_eq_getElem?_getD]
  by_cases e : q = i
  · rw [if_pos e, if_pos e, if_pos (by omega)]; rfl
  · rw [if_neg e, if_neg e]
theorem own_FF (m : Int64) (L F : List Int32) (b c q mb v : Int32) (hq : 1 ≤ q.toInt ∧ q.toInt ≤ 19) (h0 : L.length = 21) (h1 : L.getD 0 0 = b) (h2 : L.getD 20 0 = c) (h3 : ∀ i, 1 ≤ i → i ≤ 19 → (L.getD i 0).toInt = 48 + ((m.toInt.toNat / 10 ^ (19 - i) % 10 : Nat) : Int)) (hv : ¬ mb = 0 → own_bad v) (hJ : (mb = (0 : Int32) ∧ F = L) ∨ (¬ (mb = (0 : Int32)) ∧ F = List.set L q.toInt.toNat v)) : own_F m F b c q mb := by
  rcases hJ with ⟨e, g⟩ | ⟨e, g⟩
  · subst g; exact ⟨h0, h1, h2, fun i a b _ => h3 i a b, fun n => absurd e n⟩
  · subst g
    have hs := fun i => own_setD L q.toInt.toNat i v (by omega)
    refine ⟨by rw [List.length_set]; exact h0, ?_, ?_, ?_, ?_⟩
    · rw [hs, if_neg (by omega)]; exact h1
    · rw [hs, if_neg (by omega)]; exact h2
    · intro i a b d
      rw [hs, if_neg (by rcases d with d | d; exact absurd d e; omega)]; exact h3 i a b
    · intro n; rw [hs, if_pos rfl]; exact hv n
theorem own_z {x : Int32} (a : Int32) (h : x.toInt = a.toInt) : x = a := Int32.toInt_inj.mp h
def own_ok (b c f t q mb bad : Int32) : Prop := (bad = 0 ∧ (f = 0 → ¬ own_bad b) ∧ (t = (21 : Int32) → ¬ own_bad c) ∧ (mb = 0 ∨ q < f ∨ ¬ q < t)) ∨ (¬ bad = 0 ∧ ((f = 0 ∧ own_bad b) ∨ (t = (21 : Int32) ∧ own_bad c) ∨ (¬ mb = 0 ∧ ¬ q < f ∧ q < t)))
theorem own_BB (m : Int64) (F : List Int32) (b c f t q mb bad : Int32) (got : Int64) (hq : 1 ≤ q.toInt ∧ q.toInt ≤ 19) (hF : own_F m F b c q mb) (hft : 0 ≤ f.toInt ∧ f.toInt ≤ t.toInt ∧ t.toInt ≤ 21) (hne : ¬ f = t) (hr : (t = f ∧ got = (-1 : Int64)) ∨ (¬ (t = f) ∧ got = own_vl F (t.toInt - f.toInt).toNat f.toInt.toNat (0 : Int64))) (hok : own_ok b c f t q mb bad) : own_B m b c f t got bad := by
  obtain ⟨F0, F1, F2, F3, F4⟩ := hF
  have hne' : f.toInt ≠ t.toInt := fun e => hne (Int32.toInt_inj.mp e)
  rcases hr with ⟨e, _⟩ | ⟨_, e⟩
  · exact absurd e.symm hne
  have hk : (t.toInt - f.toInt).toNat = t.toInt.toNat - f.toInt.toNat := by omega
  rw [hk] at e
  rcases hok with ⟨h1, h2, h3, h4⟩ | ⟨h1, h2⟩
  · have dgb : ∀ x : Int32, ¬ own_bad x → own_dg x := by
      intro x hx; unfold own_bad at hx; rw [Int32.lt_iff_toInt_lt, Int32.lt_iff_toInt_lt] at hx; simp only [Int32.reduceToInt] at hx
      constructor <;> omega
    have hm : ∀ j, f.toInt.toNat ≤ j → j < t.toInt.toNat → 1 ≤ j → j ≤ 19 → (F.getD j 0).toInt = 48 + ((m.toInt.toNat / 10 ^ (19 - j) % 10 : Nat) : Int) := by
      intro j a1 a2 a3 a4
      refine F3 j a3 a4 ?_
      rcases h4 with h4 | h4 | h4
      · exact Or.inl h4
      · rw [Int32.lt_iff_toInt_lt] at h4; exact Or.inr (by omega)
      · rw [Int32.lt_iff_toInt_lt] at h4; exact Or.inr (by omega)
    refine Or.inl ⟨h1, fun z => dgb _ (h2 z), fun z => dgb _ (h3 z), ?_⟩
    have tot := own_tot F m.toInt.toNat f.toInt.toNat t.toInt.toNat (by omega) (by omega) hm
    rw [F1, F2] at tot
    unfold own_W
    rw [← tot, e]
    refine own_vlS F _ _ _ _ (Or.inl ⟨by decide, by decide⟩) ?_
    intro j a1 a2
    by_cases j0 : j = 0
    · rw [j0, F1]; exact dgb _ (h2 (own_z 0 (by simp only [Int32.reduceToInt]; omega)))
    · by_cases j1 : j = 20
      · rw [j1, F2]; exact dgb _ (h3 (own_z 21 (by simp only [Int32.reduceToInt]; omega)))
      · have g := hm j a1 (by omega) (by omega) (by omega)
        generalize m.toInt.toNat / 10 ^ (19 - j) = D at g
        constructor <;> omega
  · refine Or.inr ⟨h1, ?_⟩
    rw [e]
    rcases h2 with ⟨a, b'⟩ | ⟨a, b'⟩ | ⟨a, b', c'⟩
    · have a' : f.toInt = 0 := by rw [a]; rfl
      exact own_vlB F _ _ _ 0 (by omega) (by omega) (by rw [F1]; exact b')
    · have a' : t.toInt = 21 := by rw [a]; rfl
      exact own_vlB F _ _ _ 20 (by omega) (by omega) (by rw [F2]; exact b')
    · rw [Int32.lt_iff_toInt_lt] at b' c'
      exact own_vlB F _ _ _ q.toInt.toNat (by omega) (by omega) (F4 a)
theorem own_R0 (m f t : Nat) (h : own_n f t = 0) : own_R m f t = 0 := by unfold own_R; rw [h]; simp [Nat.mod_one]
theorem own_R19 (m f t : Nat) (h : own_n f t = 19) (hm : m < 9223372036854775808) : own_R m f t = m := by
  unfold own_R
  rw [h, show 20 - min t 20 = 0 by unfold own_n at h; omega, Nat.pow_zero, Nat.div_one]
  exact Nat.mod_eq_of_lt (by omega)
theorem own_norm (m : Int64) (b c f t bad lead trail len tt : Int32) (got db dc r : Int64) (hft : 0 ≤ f.toInt ∧ f.toInt ≤ t.toInt ∧ t.toInt ≤ 21) (hB : own_B m b c f t got bad) (hbad : bad = 0) (hl : (f = (0 : Int32) ∧ lead = (1 : Int32)) ∨ (¬ (f = (0 : Int32)) ∧ lead = (0 : Int32))) (ht : (t = (21 : Int32) ∧ trail = (1 : Int32)) ∨ (¬ (t = (21 : Int32)) ∧ trail = (0 : Int32))) (hN : len.toInt = max 0 (min t.toInt 20 - max f.toInt 1)) (hR : r.toInt = ((own_R m.toInt.toNat f.toInt.toNat t.toInt.toNat : Nat) : Int)) (htt : (trail = (0 : Int32) ∧ tt = (0 : Int32)) ∨ (¬ (trail = (0 : Int32)) ∧ tt = (1 : Int32))) (hdc : (trail = (0 : Int32) ∧ dc = (0 : Int64)) ∨ (¬ (trail = (0 : Int32)) ∧ dc = ((c - (48 : Int32)).toInt64))) (hdb : (lead = (0 : Int32) ∧ db = (0 : Int64)) ∨ (¬ (lead = (0 : Int32)) ∧ db = ((b - (48 : Int32)).toInt64))) : ∃ T D C n R : Nat, tt.toInt = (T : Int) ∧ T ≤ 1 ∧ len.toInt = (n : Int) ∧ n ≤ 19 ∧ db.toInt = (D : Int) ∧ D ≤ 9 ∧ dc.toInt = (C : Int) ∧ C ≤ 9 ∧ (T = 0 → C = 0) ∧ R < 10 ^ n ∧ r.toInt = (R : Int) ∧ own_S got (D * 10 ^ (n + T) + R * 10 ^ T + C) := by
  rcases hB with ⟨_, h2, h3, h4⟩ | ⟨h1, _⟩
  · have sub48 : ∀ x : Int32, own_dg x → ((x - (48 : Int32)).toInt64).toInt = (((x.toInt - 48).toNat : Nat) : Int) ∧ (x.toInt - 48).toNat ≤ 9 := by
      intro x hx; obtain ⟨a, d⟩ := hx
      have e := c_isub x (48 : Int32)
      have g := rng32 (x - (48 : Int32))
      simp only [Int32.reduceToInt] at e
      have k : ((x - (48 : Int32)).toInt64).toInt = (x - (48 : Int32)).toInt := by simp
      rw [k]; omega
    have n1 : len.toInt = ((own_n f.toInt.toNat t.toInt.toNat : Nat) : Int) := by unfold own_n; omega
    have n2 : own_n f.toInt.toNat t.toInt.toNat ≤ 19 := by unfold own_n; omega
    have r1 := own_Rlt m.toInt.toNat f.toInt.toNat t.toInt.toNat
    unfold own_W at h4
    have hD : db.toInt = (((if f.toInt.toNat = 0 then (b.toInt - 48).toNat else 0) : Nat) : Int) ∧ (if f.toInt.toNat = 0 then (b.toInt - 48).toNat else 0) ≤ 9 := by
      rcases hl with ⟨a, a'⟩ | ⟨a, a'⟩
      · rcases hdb with ⟨d, d'⟩ | ⟨d, d'⟩
        · rw [a'] at d; exact absurd d (by decide)
        · rw [if_pos (by rw [a]; rfl), d']; exact sub48 b (h2 a)
      · rcases hdb with ⟨d, d'⟩ | ⟨d, d'⟩
        · rw [if_neg (fun q => a (own_z 0 (by simp only [Int32.reduceToInt]; omega))), d']; exact ⟨by decide, by decide⟩
        · exact absurd a' d
    have hC : dc.toInt = (((if t.toInt.toNat = 21 then (c.toInt - 48).toNat else 0) : Nat) : Int) ∧ (if t.toInt.toNat = 21 then (c.toInt - 48).toNat else 0) ≤ 9 ∧ tt.toInt = (((if t.toInt.toNat = 21 then 1 else 0) : Nat) : Int) := by
      rcases ht with ⟨a, a'⟩ | ⟨a, a'⟩
      · rcases hdc with ⟨d, d'⟩ | ⟨d, d'⟩
        · rw [a'] at d; exact absurd d (by decide)
        · rcases htt with ⟨g, g'⟩ | ⟨g, g'⟩
          · exact absurd g d
          · rw [if_pos (by rw [a]; rfl), if_pos (by rw [a]; rfl), d', g']; exact ⟨(sub48 c (h3 a)).1, (sub48 c (h3 a)).2, by decide⟩
      · rcases hdc with ⟨d, d'⟩ | ⟨d, d'⟩
        · rcases htt with ⟨g, g'⟩ | ⟨g, g'⟩
          · have ne : ¬ t.toInt.toNat = 21 := fun q => a (own_z 21 (by simp only [Int32.reduceToInt]; omega))
            rw [if_neg ne, if_neg ne, d', g']; exact ⟨by decide, by decide, by decide⟩
          · exact absurd d g
        · exact absurd a' d
    refine ⟨_, _, _, _, _, hC.2.2, ?_, n1, n2, hD.1, hD.2, hC.1, hC.2.1, ?_, r1, hR, h4⟩
    · split <;> omega
    · intro q; split at q
      · omega
      · rename_i w; rw [if_neg w]
  · exact absurd hbad h1
theorem own_nA (got db dc r p1 p2 : Int64) (len tt k : Int32) (T D C n R : Nat) (a1 : tt.toInt = (T : Int)) (a2 : T ≤ 1) (a3 : len.toInt = (n : Int)) (a5 : db.toInt = (D : Int)) (a6 : D ≤ 9) (a7 : dc.toInt = (C : Int)) (a8 : C ≤ 9) (a9 : T = 0 → C = 0) (b1 : R < 10 ^ n) (b2 : r.toInt = (R : Int)) (b3 : own_S got (D * 10 ^ (n + T) + R * 10 ^ T + C)) (hk : k.toInt = len.toInt + tt.toInt) (hk2 : k.toInt < 18) (h1 : p1 = Int64.ofNat (10 ^ k.toInt.toNat)) (h2 : p2 = Int64.ofNat (10 ^ tt.toInt.toNat)) : got = db * p1 + r * p2 + dc := by
  have k1 : k.toInt.toNat = n + T := by omega
  have k2 : tt.toInt.toNat = T := by omega
  rw [k1] at h1
  rw [k2] at h2
  obtain ⟨c1, c2, c3⟩ := own_pw (n + T) (by omega)
  obtain ⟨d1, d2, d3⟩ := own_pw T (by omega)
  have le17 := own_pwle (a := n + T) (b := 17) (by omega)
  have e1 : D * 10 ^ (n + T) ≤ 9 * 10 ^ (n + T) := Nat.mul_le_mul_right _ a6
  have pa : 10 ^ (n + T) = 10 ^ n * 10 ^ T := Nat.pow_add 10 n T
  have e2 : (R + 1) * 10 ^ T ≤ 10 ^ n * 10 ^ T := Nat.mul_le_mul_right _ b1
  have e3 : C < 10 ^ T := by
    have : T = 0 ∨ T = 1 := by omega
    rcases this with q | q
    · rw [a9 q, q]; decide
    · rw [q]; omega
  rw [Nat.add_mul, Nat.one_mul, ← pa] at e2
  have f1 := own_mulN db p1 D (10 ^ (n + T)) a5 (by rw [h1]; exact c1) (by omega)
  have f2 := own_mulN r p2 R (10 ^ T) b2 (by rw [h2]; exact d1) (by omega)
  have f3 := own_addN _ _ _ _ f1 f2 (by omega)
  have f4 := own_addN _ _ _ _ f3 a7 (by omega)
  exact own_Seq _ _ _ b3 (Or.inl ⟨by omega, f4⟩)
theorem own_nB (got : Int64) (T D C n R : Nat) (a5 : 1 ≤ D) (hk : 18 ≤ n + T) (b3 : own_S got (D * 10 ^ (n + T) + R * 10 ^ T + C)) : got = (9223372036854775807 : Int64) := by
  have a := own_pwle (a := 18) (b := n + T) hk
  have b : 1 * 10 ^ (n + T) ≤ D * 10 ^ (n + T) := Nat.mul_le_mul_right _ a5
  generalize R * 10 ^ T = X at *
  exact own_Seq _ _ _ b3 (Or.inr ⟨by omega, by decide⟩)
theorem own_nC (got dc r e : Int64) (tt : Int32) (T C n R : Nat) (a1 : tt.toInt = (T : Int)) (a2 : T ≤ 1) (a7 : dc.toInt = (C : Int)) (a8 : C ≤ 9) (a9 : T = 0 → C = 0) (b2 : r.toInt = (R : Int)) (b3 : own_S got (0 * 10 ^ (n + T) + R * 10 ^ T + C)) (h : (tt = (0 : Int32) ∧ (999999999999999999 : Int64) < r ∧ e = (9223372036854775807 : Int64)) ∨ (tt = (0 : Int32) ∧ ¬ ((999999999999999999 : Int64) < r) ∧ e = r) ∨ (¬ (tt = (0 : Int32)) ∧ (99999999999999999 : Int64) < r ∧ e = (9223372036854775807 : Int64)) ∨ (¬ (tt = (0 : Int32)) ∧ ¬ ((99999999999999999 : Int64) < r) ∧ e = ((r * (10 : Int64)) + dc))) : got = e := by
  rw [Nat.zero_mul, Nat.zero_add] at b3
  refine own_Seq _ _ _ b3 ?_
  have t0 : tt = 0 → T = 0 := by intro q; rw [q] at a1; simp only [Int32.reduceToInt] at a1; omega
  have t1 : ¬ tt = 0 → T = 1 := by intro q; have : T ≠ 0 := fun z => q (own_z 0 (by simp only [Int32.reduceToInt]; omega)); omega
  rcases h with ⟨x, y, z⟩ | ⟨x, y, z⟩ | ⟨x, y, z⟩ | ⟨x, y, z⟩
  · rw [Int64.lt_iff_toInt_lt] at y; simp only [Int64.reduceToInt] at y
    rw [t0 x, a9 (t0 x), z]; exact Or.inr ⟨by omega, by decide⟩
  · rw [Int64.lt_iff_toInt_lt] at y; simp only [Int64.reduceToInt] at y
    rw [t0 x, a9 (t0 x), z]; exact Or.inl ⟨by omega, by omega⟩
  · rw [Int64.lt_iff_toInt_lt] at y; simp only [Int64.reduceToInt] at y
    rw [t1 x, z]; exact Or.inr ⟨by omega, by decide⟩
  · rw [Int64.lt_iff_toInt_lt] at y; simp only [Int64.reduceToInt] at y
    rw [t1 x, z]
    have f1 := own_mulN r (10 : Int64) R 10 b2 (by decide) (by omega)
    have f2 := own_addN _ _ _ _ f1 a7 (by omega)
    exact Or.inl ⟨by omega, by rw [f2]⟩
theorem own_d3 (x r : Int32) (h : (x < (48 : Int32) ∧ r = (0 : Int32)) ∨ (¬ (x < (48 : Int32)) ∧ (57 : Int32) < x ∧ r = (0 : Int32)) ∨ (¬ (x < (48 : Int32)) ∧ ¬ ((57 : Int32) < x) ∧ r = (1 : Int32))) : (r = 0 → own_bad x) ∧ (¬ r = 0 → ¬ own_bad x) := by
  rcases h with ⟨a, b⟩ | ⟨a, b, c⟩ | ⟨a, b, c⟩
  · exact ⟨fun _ => Or.inl a, fun n => absurd b n⟩
  · exact ⟨fun _ => Or.inr b, fun n => absurd c n⟩
  · exact ⟨fun n => absurd (c.symm.trans n) (by decide), fun _ q => q.elim a b⟩
theorem own_yes (A : Prop) (z : Int32) (h : (A ∧ z = (1 : Int32)) ∨ (¬ A ∧ z = (0 : Int32))) : (z = 0 → ¬ A) ∧ (¬ z = 0 → A) := by
  rcases h with ⟨a, b⟩ | ⟨a, b⟩
  · exact ⟨fun n => absurd (b.symm.trans n) (by decide), fun _ => a⟩
  · exact ⟨fun _ => a, fun n => absurd b n⟩

theorem d2_0 : decode method_2_code 0 = .ok (.bipush 19, 2) := by decide +kernel
theorem d2_2 : decode method_2_code 2 = .ok (.newarray .long, 2) := by decide +kernel
theorem d2_4 : decode method_2_code 4 = .ok (.dup, 1) := by decide +kernel
theorem d2_5 : decode method_2_code 5 = .ok (.iconst 0, 1) := by decide +kernel
theorem d2_6 : decode method_2_code 6 = .ok (.lconst 1, 1) := by decide +kernel
theorem d2_7 : decode method_2_code 7 = .ok (.lastore, 1) := by decide +kernel
theorem d2_8 : decode method_2_code 8 = .ok (.dup, 1) := by decide +kernel
theorem d2_9 : decode method_2_code 9 = .ok (.iconst 1, 1) := by decide +kernel
theorem d2_10 : decode method_2_code 10 = .ok (.ldc2_w 7, 3) := by decide +kernel
theorem d2_13 : decode method_2_code 13 = .ok (.lastore, 1) := by decide +kernel
theorem d2_14 : decode method_2_code 14 = .ok (.dup, 1) := by decide +kernel
theorem d2_15 : decode method_2_code 15 = .ok (.iconst 2, 1) := by decide +kernel
theorem d2_16 : decode method_2_code 16 = .ok (.ldc2_w 9, 3) := by decide +kernel
theorem d2_19 : decode method_2_code 19 = .ok (.lastore, 1) := by decide +kernel
theorem d2_20 : decode method_2_code 20 = .ok (.dup, 1) := by decide +kernel
theorem d2_21 : decode method_2_code 21 = .ok (.iconst 3, 1) := by decide +kernel
theorem d2_22 : decode method_2_code 22 = .ok (.ldc2_w 11, 3) := by decide +kernel
theorem d2_25 : decode method_2_code 25 = .ok (.lastore, 1) := by decide +kernel
theorem d2_26 : decode method_2_code 26 = .ok (.dup, 1) := by decide +kernel
theorem d2_27 : decode method_2_code 27 = .ok (.iconst 4, 1) := by decide +kernel
theorem d2_28 : decode method_2_code 28 = .ok (.ldc2_w 13, 3) := by decide +kernel
theorem d2_31 : decode method_2_code 31 = .ok (.lastore, 1) := by decide +kernel
theorem d2_32 : decode method_2_code 32 = .ok (.dup, 1) := by decide +kernel
theorem d2_33 : decode method_2_code 33 = .ok (.iconst 5, 1) := by decide +kernel
theorem d2_34 : decode method_2_code 34 = .ok (.ldc2_w 15, 3) := by decide +kernel
theorem d2_37 : decode method_2_code 37 = .ok (.lastore, 1) := by decide +kernel
theorem d2_38 : decode method_2_code 38 = .ok (.dup, 1) := by decide +kernel
theorem d2_39 : decode method_2_code 39 = .ok (.bipush 6, 2) := by decide +kernel
theorem d2_41 : decode method_2_code 41 = .ok (.ldc2_w 17, 3) := by decide +kernel
theorem d2_44 : decode method_2_code 44 = .ok (.lastore, 1) := by decide +kernel
theorem d2_45 : decode method_2_code 45 = .ok (.dup, 1) := by decide +kernel
theorem d2_46 : decode method_2_code 46 = .ok (.bipush 7, 2) := by decide +kernel
theorem d2_48 : decode method_2_code 48 = .ok (.ldc2_w 19, 3) := by decide +kernel
theorem d2_51 : decode method_2_code 51 = .ok (.lastore, 1) := by decide +kernel
theorem d2_52 : decode method_2_code 52 = .ok (.dup, 1) := by decide +kernel
theorem d2_53 : decode method_2_code 53 = .ok (.bipush 8, 2) := by decide +kernel
theorem d2_55 : decode method_2_code 55 = .ok (.ldc2_w 21, 3) := by decide +kernel
theorem d2_58 : decode method_2_code 58 = .ok (.lastore, 1) := by decide +kernel
theorem d2_59 : decode method_2_code 59 = .ok (.dup, 1) := by decide +kernel
theorem d2_60 : decode method_2_code 60 = .ok (.bipush 9, 2) := by decide +kernel
theorem d2_62 : decode method_2_code 62 = .ok (.ldc2_w 23, 3) := by decide +kernel
theorem d2_65 : decode method_2_code 65 = .ok (.lastore, 1) := by decide +kernel
theorem d2_66 : decode method_2_code 66 = .ok (.dup, 1) := by decide +kernel
theorem d2_67 : decode method_2_code 67 = .ok (.bipush 10, 2) := by decide +kernel
theorem d2_69 : decode method_2_code 69 = .ok (.ldc2_w 25, 3) := by decide +kernel
theorem d2_72 : decode method_2_code 72 = .ok (.lastore, 1) := by decide +kernel
theorem d2_73 : decode method_2_code 73 = .ok (.dup, 1) := by decide +kernel
theorem d2_74 : decode method_2_code 74 = .ok (.bipush 11, 2) := by decide +kernel
theorem d2_76 : decode method_2_code 76 = .ok (.ldc2_w 27, 3) := by decide +kernel
theorem d2_79 : decode method_2_code 79 = .ok (.lastore, 1) := by decide +kernel
theorem d2_80 : decode method_2_code 80 = .ok (.dup, 1) := by decide +kernel
theorem d2_81 : decode method_2_code 81 = .ok (.bipush 12, 2) := by decide +kernel
theorem d2_83 : decode method_2_code 83 = .ok (.ldc2_w 29, 3) := by decide +kernel
theorem d2_86 : decode method_2_code 86 = .ok (.lastore, 1) := by decide +kernel
theorem d2_87 : decode method_2_code 87 = .ok (.dup, 1) := by decide +kernel
theorem d2_88 : decode method_2_code 88 = .ok (.bipush 13, 2) := by decide +kernel
theorem d2_90 : decode method_2_code 90 = .ok (.ldc2_w 31, 3) := by decide +kernel
theorem d2_93 : decode method_2_code 93 = .ok (.lastore, 1) := by decide +kernel
theorem d2_94 : decode method_2_code 94 = .ok (.dup, 1) := by decide +kernel
theorem d2_95 : decode method_2_code 95 = .ok (.bipush 14, 2) := by decide +kernel
theorem d2_97 : decode method_2_code 97 = .ok (.ldc2_w 33, 3) := by decide +kernel
theorem d2_100 : decode method_2_code 100 = .ok (.lastore, 1) := by decide +kernel
theorem d2_101 : decode method_2_code 101 = .ok (.dup, 1) := by decide +kernel
theorem d2_102 : decode method_2_code 102 = .ok (.bipush 15, 2) := by decide +kernel
theorem d2_104 : decode method_2_code 104 = .ok (.ldc2_w 35, 3) := by decide +kernel
theorem d2_107 : decode method_2_code 107 = .ok (.lastore, 1) := by decide +kernel
theorem d2_108 : decode method_2_code 108 = .ok (.dup, 1) := by decide +kernel
theorem d2_109 : decode method_2_code 109 = .ok (.bipush 16, 2) := by decide +kernel
theorem d2_111 : decode method_2_code 111 = .ok (.ldc2_w 37, 3) := by decide +kernel
theorem d2_114 : decode method_2_code 114 = .ok (.lastore, 1) := by decide +kernel
theorem d2_115 : decode method_2_code 115 = .ok (.dup, 1) := by decide +kernel
theorem d2_116 : decode method_2_code 116 = .ok (.bipush 17, 2) := by decide +kernel
theorem d2_118 : decode method_2_code 118 = .ok (.ldc2_w 39, 3) := by decide +kernel
theorem d2_121 : decode method_2_code 121 = .ok (.lastore, 1) := by decide +kernel
theorem d2_122 : decode method_2_code 122 = .ok (.dup, 1) := by decide +kernel
theorem d2_123 : decode method_2_code 123 = .ok (.bipush 18, 2) := by decide +kernel
theorem d2_125 : decode method_2_code 125 = .ok (.ldc2_w 41, 3) := by decide +kernel
theorem d2_128 : decode method_2_code 128 = .ok (.lastore, 1) := by decide +kernel
theorem d2_129 : decode method_2_code 129 = .ok (.astore_n 1, 1) := by decide +kernel
theorem d2_130 : decode method_2_code 130 = .ok (.aload_n 1, 1) := by decide +kernel
theorem d2_131 : decode method_2_code 131 = .ok (.iload_n 0, 1) := by decide +kernel
theorem d2_132 : decode method_2_code 132 = .ok (.laload, 1) := by decide +kernel
theorem d2_133 : decode method_2_code 133 = .ok (.lreturn, 1) := by decide +kernel
def Rel2 (p1 : Int32) (r : Int64) : Prop := r = Int64.ofNat (10 ^ p1.toInt.toNat)
def Q2 (Z : State) (p1 : Int32) (h0 : Heap) (n0 : Nat) (v : Option Value) (h : Heap) (L : List Loc) : Prop := ∃ r : Int64, v = some (.long r) ∧ Rel2 p1 r ∧ Fr n0 L ∧ Keep h0 h []
theorem ef_rm2 (m : MethodId) (p1 : Int32) : entryFrame m #[(.int p1)] 2 = mkF m 0 #[.val (.int p1), .unset] [] := by first | (simp [entryFrame, mkF, argsToLocals, Value.category]; done) | rfl
set_option maxRecDepth 65536 in
set_option maxHeartbeats 40000000 in
theorem rm2 (l : Launch) (Z : State) (a0 : Array Value) (hw : ∀ d ∈ tables_1, d.before a0 Z = true) (ws : List Jvm.Cond) (p1 : Int32) (h0 : Heap) (n0 : Nat) (Z0 : n0 ≤ h0.size) (hk : 0 ≤ p1.toInt ∧ p1.toInt ≤ 18) :
    MetFree l (⟨"com/example/utility_meter_billing/utilitymeterbilling/io/WholeNumberValuePinLaw", "p", "(I)J"⟩ : MethodName) (head1 (Jvm.Cond.code (⟨"com/example/utility_meter_billing/utilitymeterbilling/io/WholeNumberValuePinLaw", "p", "(I)J"⟩ : MethodName) method_2_code 2 (some .long) :: ws) ({ frames := 0, cells := 1, slots := 19, locals := 0 } : Room)) (fun a U => a = #[(.int p1)] ∧ Z.Warmed39 U.vm ∧ U.heap = h0) (fun _ _ _ _ _ => True) (fun _ U o U' => ∃ v L, o = .returned v ∧ (Q2 Z p1 h0 n0) v U'.heap L ∧ FrameEnd U o U' L ({ frames := 0, cells := 1, slots := 19, locals := 0 } : Room).cells ({ frames := 0, cells := 1, slots := 19, locals := 0 } : Room).slots) := by
  refine MetFree.of_bodySF (plainFor_of_name pn_0) hisR ?_
  intro p e s m args below meth c s₁ Bd hml0 hP hK
  obtain ⟨rfl, hZ, hh⟩ := hP
  have hx := Bd.exec
  have hby := Bd.bytes
  have hml : c.maxLocals = 2 := hml0
  have hown : s.vm.findClass "com/example/utility_meter_billing/utilitymeterbilling/io/WholeNumberValuePinLaw" = some m.cls := findClass_of_methodNamed Bd.named
  have hnm := (name_of_methodNamed Bd.named Bd.method).1
  have hlk : meth.locks = false := BodyLoose.notSynchronized Bd
  have X0 : Stand p l e ({ frames := 0, cells := 1, slots := 19, locals := 0 } : Room) s m #[(.int p1)] below meth c s₁ [] 0 0 := Stand.of_body Bd
  have e0 : s₁.heap = h0 := by rw [← hh, Bd.state]; rfl
  have N0 := Fr.nil n0
  have K0 := Keep.refl h0 []
  show Go p e below s ({ frames := 0, cells := 1, slots := 19, locals := 0 } : Room).cells ({ frames := 0, cells := 1, slots := 19, locals := 0 } : Room).slots (Q2 Z p1 h0 n0) s₁ (entryFrame m #[(.int p1)] 2)
  rw [ef_rm2 m p1]
  refine g_bipush 2 X0 hx (hb hby d2_0) rfl (z := (19 : Int32)) rfl ?_
  refine g_new_long 4 X0 hx hZ (hw _ (List.mem_of_getElem? (i := 10) rfl)) e0 19 19 (by decide) rfl (by decide) (by decide) (by decide) (by decide) (hb hby d2_2) rfl ?_
  intro T1 h1 b1 X1 e1 E1 g1 A1
  have Zs2 : n0 ≤ h1.size := (Nat.le_trans Z0 E1.1)
  have K3 : Keep h0 h1 [] := K0.ext E1
  have g_b1 : n0 ≤ b1 := Nat.le_trans Z0 (Nat.le_of_eq g1.symm)
  have sz_b1 : h0.size ≤ b1 := Nat.le_trans K0.1 (Nat.le_of_eq g1.symm)
  have A1' : AJ Z h1 b1 [(0 : Int64), (0 : Int64), (0 : Int64), (0 : Int64), (0 : Int64), (0 : Int64), (0 : Int64), (0 : Int64), (0 : Int64), (0 : Int64), (0 : Int64), (0 : Int64), (0 : Int64), (0 : Int64), (0 : Int64), (0 : Int64), (0 : Int64), (0 : Int64), (0 : Int64)] := A1
  refine g_dup 5 X1 hx (hb hby d2_4) rfl rfl ?_
  refine g_iconst 6 X1 hx (hb hby d2_5) rfl (z := (0 : Int32)) rfl ?_
  refine g_lconst 7 X1 hx (hb hby d2_6) rfl (z := (1 : Int64)) rfl ?_
  refine g_lastore 8 X1 hx hZ e1 A1' 0 (by decide) rfl (Nat.le_of_ble_eq_true rfl) (hb hby d2_7) rfl ?_
  intro T4 h4 X4 e4 W4 A4
  have Zs5 : n0 ≤ h4.size := (Nat.le_trans Zs2 (Keep.of_wr W4).1)
  have K6 : Keep h0 h4 [] := K3.wr W4 (Or.inr sz_b1)
  have A4' : AJ Z h4 b1 [(1 : Int64), (0 : Int64), (0 : Int64), (0 : Int64), (0 : Int64), (0 : Int64), (0 : Int64), (0 : Int64), (0 : Int64), (0 : Int64), (0 : Int64), (0 : Int64), (0 : Int64), (0 : Int64), (0 : Int64), (0 : Int64), (0 : Int64), (0 : Int64), (0 : Int64)] := A4
  have N7 := Fr.snoc X4 N0 g_b1
  refine g_dup 9 X4 hx (hb hby d2_8) rfl rfl ?_
  refine g_iconst 10 X4 hx (hb hby d2_9) rfl (z := (1 : Int32)) rfl ?_
  refine g_ldc2 13 X4 hx hZ hown (hw _ (List.mem_of_getElem? (i := 11) rfl)) (hb hby d2_10) rfl ?_
  refine g_lastore 14 X4 hx hZ e4 A4' 1 (by decide) rfl (Nat.le_of_ble_eq_true rfl) (hb hby d2_13) rfl ?_
  intro T8 h8 X8 e8 W8 A8
  have Zs9 : n0 ≤ h8.size := (Nat.le_trans Zs5 (Keep.of_wr W8).1)
  have K10 : Keep h0 h8 [] := K6.wr W8 (Or.inr sz_b1)
  have A8' : AJ Z h8 b1 [(1 : Int64), (10 : Int64), (0 : Int64), (0 : Int64), (0 : Int64), (0 : Int64), (0 : Int64), (0 : Int64), (0 : Int64), (0 : Int64), (0 : Int64), (0 : Int64), (0 : Int64), (0 : Int64), (0 : Int64), (0 : Int64), (0 : Int64), (0 : Int64), (0 : Int64)] := A8
  have N11 := Fr.snoc X8 N7 g_b1
  refine g_dup 15 X8 hx (hb hby d2_14) rfl rfl ?_
  refine g_iconst 16 X8 hx (hb hby d2_15) rfl (z := (2 : Int32)) rfl ?_
  refine g_ldc2 19 X8 hx hZ hown (hw _ (List.mem_of_getElem? (i := 12) rfl)) (hb hby d2_16) rfl ?_
  refine g_lastore 20 X8 hx hZ e8 A8' 2 (by decide) rfl (Nat.le_of_ble_eq_true rfl) (hb hby d2_19) rfl ?_
  intro T12 h12 X12 e12 W12 A12
  have Zs13 : n0 ≤ h12.size := (Nat.le_trans Zs9 (Keep.of_wr W12).1)
  have K14 : Keep h0 h12 [] := K10.wr W12 (Or.inr sz_b1)
  have A12' : AJ Z h12 b1 [(1 : Int64), (10 : Int64), (100 : Int64), (0 : Int64), (0 : Int64), (0 : Int64), (0 : Int64), (0 : Int64), (0 : Int64), (0 : Int64), (0 : Int64), (0 : Int64), (0 : Int64), (0 : Int64), (0 : Int64), (0 : Int64), (0 : Int64), (0 : Int64), (0 : Int64)] := A12
  have N15 := Fr.snoc X12 N11 g_b1
  refine g_dup 21 X12 hx (hb hby d2_20) rfl rfl ?_
  refine g_iconst 22 X12 hx (hb hby d2_21) rfl (z := (3 : Int32)) rfl ?_
  refine g_ldc2 25 X12 hx hZ hown (hw _ (List.mem_of_getElem? (i := 13) rfl)) (hb hby d2_22) rfl ?_
  refine g_lastore 26 X12 hx hZ e12 A12' 3 (by decide) rfl (Nat.le_of_ble_eq_true rfl) (hb hby d2_25) rfl ?_
  intro T16 h16 X16 e16 W16 A16
  have Zs17 : n0 ≤ h16.size := (Nat.le_trans Zs13 (Keep.of_wr W16).1)
  have K18 : Keep h0 h16 [] := K14.wr W16 (Or.inr sz_b1)
  have A16' : AJ Z h16 b1 [(1 : Int64), (10 : Int64), (100 : Int64), (1000 : Int64), (0 : Int64), (0 : Int64), (0 : Int64), (0 : Int64), (0 : Int64), (0 : Int64), (0 : Int64), (0 : Int64), (0 : Int64), (0 : Int64), (0 : Int64), (0 : Int64), (0 : Int64), (0 : Int64), (0 : Int64)] := A16
  have N19 := Fr.snoc X16 N15 g_b1
  refine g_dup 27 X16 hx (hb hby d2_26) rfl rfl ?_
  refine g_iconst 28 X16 hx (hb hby d2_27) rfl (z := (4 : Int32)) rfl ?_
  refine g_ldc2 31 X16 hx hZ hown (hw _ (List.mem_of_getElem? (i := 14) rfl)) (hb hby d2_28) rfl ?_
  refine g_lastore 32 X16 hx hZ e16 A16' 4 (by decide) rfl (Nat.le_of_ble_eq_true rfl) (hb hby d2_31) rfl ?_
  intro T20 h20 X20 e20 W20 A20
  have Zs21 : n0 ≤ h20.size := (Nat.le_trans Zs17 (Keep.of_wr W20).1)
  have K22 : Keep h0 h20 [] := K18.wr W20 (Or.inr sz_b1)
  have A20' : AJ Z h20 b1 [(1 : Int64), (10 : Int64), (100 : Int64), (1000 : Int64), (10000 : Int64), (0 : Int64), (0 : Int64), (0 : Int64), (0 : Int64), (0 : Int64), (0 : Int64), (0 : Int64), (0 : Int64), (0 : Int64), (0 : Int64), (0 : Int64), (0 : Int64), (0 : Int64), (0 : Int64)] := A20
  have N23 := Fr.snoc X20 N19 g_b1
  refine g_dup 33 X20 hx (hb hby d2_32) rfl rfl ?_
  refine g_iconst 34 X20 hx (hb hby d2_33) rfl (z := (5 : Int32)) rfl ?_
  refine g_ldc2 37 X20 hx hZ hown (hw _ (List.mem_of_getElem? (i := 15) rfl)) (hb hby d2_34) rfl ?_
  refine g_lastore 38 X20 hx hZ e20 A20' 5 (by decide) rfl (Nat.le_of_ble_eq_true rfl) (hb hby d2_37) rfl ?_
  intro T24 h24 X24 e24 W24 A24
  have Zs25 : n0 ≤ h24.size := (Nat.le_trans Zs21 (Keep.of_wr W24).1)
  have K26 : Keep h0 h24 [] := K22.wr W24 (Or.inr sz_b1)
  have A24' : AJ Z h24 b1 [(1 : Int64), (10 : Int64), (100 : Int64), (1000 : Int64), (10000 : Int64), (100000 : Int64), (0 : Int64), (0 : Int64), (0 : Int64), (0 : Int64), (0 : Int64), (0 : Int64), (0 : Int64), (0 : Int64), (0 : Int64), (0 : Int64), (0 : Int64), (0 : Int64), (0 : Int64)] := A24
  have N27 := Fr.snoc X24 N23 g_b1
  refine g_dup 39 X24 hx (hb hby d2_38) rfl rfl ?_
  refine g_bipush 41 X24 hx (hb hby d2_39) rfl (z := (6 : Int32)) rfl ?_
  refine g_ldc2 44 X24 hx hZ hown (hw _ (List.mem_of_getElem? (i := 16) rfl)) (hb hby d2_41) rfl ?_
  refine g_lastore 45 X24 hx hZ e24 A24' 6 (by decide) rfl (Nat.le_of_ble_eq_true rfl) (hb hby d2_44) rfl ?_
  intro T28 h28 X28 e28 W28 A28
  have Zs29 : n0 ≤ h28.size := (Nat.le_trans Zs25 (Keep.of_wr W28).1)
  have K30 : Keep h0 h28 [] := K26.wr W28 (Or.inr sz_b1)
  have A28' : AJ Z h28 b1 [(1 : Int64), (10 : Int64), (100 : Int64), (1000 : Int64), (10000 : Int64), (100000 : Int64), (1000000 : Int64), (0 : Int64), (0 : Int64), (0 : Int64), (0 : Int64), (0 : Int64), (0 : Int64), (0 : Int64), (0 : Int64), (0 : Int64), (0 : Int64), (0 : Int64), (0 : Int64)] := A28
  have N31 := Fr.snoc X28 N27 g_b1
  refine g_dup 46 X28 hx (hb hby d2_45) rfl rfl ?_
  refine g_bipush 48 X28 hx (hb hby d2_46) rfl (z := (7 : Int32)) rfl ?_
  refine g_ldc2 51 X28 hx hZ hown (hw _ (List.mem_of_getElem? (i := 17) rfl)) (hb hby d2_48) rfl ?_
  refine g_lastore 52 X28 hx hZ e28 A28' 7 (by decide) rfl (Nat.le_of_ble_eq_true rfl) (hb hby d2_51) rfl ?_
  intro T32 h32 X32 e32 W32 A32
  have Zs33 : n0 ≤ h32.size := (Nat.le_trans Zs29 (Keep.of_wr W32).1)
  have K34 : Keep h0 h32 [] := K30.wr W32 (Or.inr sz_b1)
  have A32' : AJ Z h32 b1 [(1 : Int64), (10 : Int64), (100 : Int64), (1000 : Int64), (10000 : Int64), (100000 : Int64), (1000000 : Int64), (10000000 : Int64), (0 : Int64), (0 : Int64), (0 : Int64), (0 : Int64), (0 : Int64), (0 : Int64), (0 : Int64), (0 : Int64), (0 : Int64), (0 : Int64), (0 : Int64)] := A32
  have N35 := Fr.snoc X32 N31 g_b1
  refine g_dup 53 X32 hx (hb hby d2_52) rfl rfl ?_
  refine g_bipush 55 X32 hx (hb hby d2_53) rfl (z := (8 : Int32)) rfl ?_
  refine g_ldc2 58 X32 hx hZ hown (hw _ (List.mem_of_getElem? (i := 18) rfl)) (hb hby d2_55) rfl ?_
  refine g_lastore 59 X32 hx hZ e32 A32' 8 (by decide) rfl (Nat.le_of_ble_eq_true rfl) (hb hby d2_58) rfl ?_
  intro T36 h36 X36 e36 W36 A36
  have Zs37 : n0 ≤ h36.size := (Nat.le_trans Zs33 (Keep.of_wr W36).1)
  have K38 : Keep h0 h36 [] := K34.wr W36 (Or.inr sz_b1)
  have A36' : AJ Z h36 b1 [(1 : Int64), (10 : Int64), (100 : Int64), (1000 : Int64), (10000 : Int64), (100000 : Int64), (1000000 : Int64), (10000000 : Int64), (100000000 : Int64), (0 : Int64), (0 : Int64), (0 : Int64), (0 : Int64), (0 : Int64), (0 : Int64), (0 : Int64), (0 : Int64), (0 : Int64), (0 : Int64)] := A36
  have N39 := Fr.snoc X36 N35 g_b1
  refine g_dup 60 X36 hx (hb hby d2_59) rfl rfl ?_
  refine g_bipush 62 X36 hx (hb hby d2_60) rfl (z := (9 : Int32)) rfl ?_
  refine g_ldc2 65 X36 hx hZ hown (hw _ (List.mem_of_getElem? (i := 19) rfl)) (hb hby d2_62) rfl ?_
  refine g_lastore 66 X36 hx hZ e36 A36' 9 (by decide) rfl (Nat.le_of_ble_eq_true rfl) (hb hby d2_65) rfl ?_
  intro T40 h40 X40 e40 W40 A40
  have Zs41 : n0 ≤ h40.size := (Nat.le_trans Zs37 (Keep.of_wr W40).1)
  have K42 : Keep h0 h40 [] := K38.wr W40 (Or.inr sz_b1)
  have A40' : AJ Z h40 b1 [(1 : Int64), (10 : Int64), (100 : Int64), (1000 : Int64), (10000 : Int64), (100000 : Int64), (1000000 : Int64), (10000000 : Int64), (100000000 : Int64), (1000000000 : Int64), (0 : Int64), (0 : Int64), (0 : Int64), (0 : Int64), (0 : Int64), (0 : Int64), (0 : Int64), (0 : Int64), (0 : Int64)] := A40
  have N43 := Fr.snoc X40 N39 g_b1
  refine g_dup 67 X40 hx (hb hby d2_66) rfl rfl ?_
  refine g_bipush 69 X40 hx (hb hby d2_67) rfl (z := (10 : Int32)) rfl ?_
  refine g_ldc2 72 X40 hx hZ hown (hw _ (List.mem_of_getElem? (i := 20) rfl)) (hb hby d2_69) rfl ?_
  refine g_lastore 73 X40 hx hZ e40 A40' 10 (by decide) rfl (Nat.le_of_ble_eq_true rfl) (hb hby d2_72) rfl ?_
  intro T44 h44 X44 e44 W44 A44
  have Zs45 : n0 ≤ h44.size := (Nat.le_trans Zs41 (Keep.of_wr W44).1)
  have K46 : Keep h0 h44 [] := K42.wr W44 (Or.inr sz_b1)
  have A44' : AJ Z h44 b1 [(1 : Int64), (10 : Int64), (100 : Int64), (1000 : Int64), (10000 : Int64), (100000 : Int64), (1000000 : Int64), (10000000 : Int64), (100000000 : Int64), (1000000000 : Int64), (10000000000 : Int64), (0 : Int64), (0 : Int64), (0 : Int64), (0 : Int64), (0 : Int64), (0 : Int64), (0 : Int64), (0 : Int64)] := A44
  have N47 := Fr.snoc X44 N43 g_b1
  refine g_dup 74 X44 hx (hb hby d2_73) rfl rfl ?_
  refine g_bipush 76 X44 hx (hb hby d2_74) rfl (z := (11 : Int32)) rfl ?_
  refine g_ldc2 79 X44 hx hZ hown (hw _ (List.mem_of_getElem? (i := 21) rfl)) (hb hby d2_76) rfl ?_
  refine g_lastore 80 X44 hx hZ e44 A44' 11 (by decide) rfl (Nat.le_of_ble_eq_true rfl) (hb hby d2_79) rfl ?_
  intro T48 h48 X48 e48 W48 A48
  have Zs49 : n0 ≤ h48.size := (Nat.le_trans Zs45 (Keep.of_wr W48).1)
  have K50 : Keep h0 h48 [] := K46.wr W48 (Or.inr sz_b1)
  have A48' : AJ Z h48 b1 [(1 : Int64), (10 : Int64), (100 : Int64), (1000 : Int64), (10000 : Int64), (100000 : Int64), (1000000 : Int64), (10000000 : Int64), (100000000 : Int64), (1000000000 : Int64), (10000000000 : Int64), (100000000000 : Int64), (0 : Int64), (0 : Int64), (0 : Int64), (0 : Int64), (0 : Int64), (0 : Int64), (0 : Int64)] := A48
  have N51 := Fr.snoc X48 N47 g_b1
  refine g_dup 81 X48 hx (hb hby d2_80) rfl rfl ?_
  refine g_bipush 83 X48 hx (hb hby d2_81) rfl (z := (12 : Int32)) rfl ?_
  refine g_ldc2 86 X48 hx hZ hown (hw _ (List.mem_of_getElem? (i := 22) rfl)) (hb hby d2_83) rfl ?_
  refine g_lastore 87 X48 hx hZ e48 A48' 12 (by decide) rfl (Nat.le_of_ble_eq_true rfl) (hb hby d2_86) rfl ?_
  intro T52 h52 X52 e52 W52 A52
  have Zs53 : n0 ≤ h52.size := (Nat.le_trans Zs49 (Keep.of_wr W52).1)
  have K54 : Keep h0 h52 [] := K50.wr W52 (Or.inr sz_b1)
  have A52' : AJ Z h52 b1 [(1 : Int64), (10 : Int64), (100 : Int64), (1000 : Int64), (10000 : Int64), (100000 : Int64), (1000000 : Int64), (10000000 : Int64), (100000000 : Int64), (1000000000 : Int64), (10000000000 : Int64), (100000000000 : Int64), (1000000000000 : Int64), (0 : Int64), (0 : Int64), (0 : Int64), (0 : Int64), (0 : Int64), (0 : Int64)] := A52
  have N55 := Fr.snoc X52 N51 g_b1
  refine g_dup 88 X52 hx (hb hby d2_87) rfl rfl ?_
  refine g_bipush 90 X52 hx (hb hby d2_88) rfl (z := (13 : Int32)) rfl ?_
  refine g_ldc2 93 X52 hx hZ hown (hw _ (List.mem_of_getElem? (i := 23) rfl)) (hb hby d2_90) rfl ?_
  refine g_lastore 94 X52 hx hZ e52 A52' 13 (by decide) rfl (Nat.le_of_ble_eq_true rfl) (hb hby d2_93) rfl ?_
  intro T56 h56 X56 e56 W56 A56
  have Zs57 : n0 ≤ h56.size := (Nat.le_trans Zs53 (Keep.of_wr W56).1)
  have K58 : Keep h0 h56 [] := K54.wr W56 (Or.inr sz_b1)
  have A56' : AJ Z h56 b1 [(1 : Int64), (10 : Int64), (100 : Int64), (1000 : Int64), (10000 : Int64), (100000 : Int64), (1000000 : Int64), (10000000 : Int64), (100000000 : Int64), (1000000000 : Int64), (10000000000 : Int64), (100000000000 : Int64), (1000000000000 : Int64), (10000000000000 : Int64), (0 : Int64), (0 : Int64), (0 : Int64), (0 : Int64), (0 : Int64)] := A56
  have N59 := Fr.snoc X56 N55 g_b1
  refine g_dup 95 X56 hx (hb hby d2_94) rfl rfl ?_
  refine g_bipush 97 X56 hx (hb hby d2_95) rfl (z := (14 : Int32)) rfl ?_
  refine g_ldc2 100 X56 hx hZ hown (hw _ (List.mem_of_getElem? (i := 24) rfl)) (hb hby d2_97) rfl ?_
  refine g_lastore 101 X56 hx hZ e56 A56' 14 (by decide) rfl (Nat.le_of_ble_eq_true rfl) (hb hby d2_100) rfl ?_
  intro T60 h60 X60 e60 W60 A60
  have Zs61 : n0 ≤ h60.size := (Nat.le_trans Zs57 (Keep.of_wr W60).1)
  have K62 : Keep h0 h60 [] := K58.wr W60 (Or.inr sz_b1)
  have A60' : AJ Z h60 b1 [(1 : Int64), (10 : Int64), (100 : Int64), (1000 : Int64), (10000 : Int64), (100000 : Int64), (1000000 : Int64), (10000000 : Int64), (100000000 : Int64), (1000000000 : Int64), (10000000000 : Int64), (100000000000 : Int64), (1000000000000 : Int64), (10000000000000 : Int64), (100000000000000 : Int64), (0 : Int64), (0 : Int64), (0 : Int64), (0 : Int64)] := A60
  have N63 := Fr.snoc X60 N59 g_b1
  refine g_dup 102 X60 hx (hb hby d2_101) rfl rfl ?_
  refine g_bipush 104 X60 hx (hb hby d2_102) rfl (z := (15 : Int32)) rfl ?_
  refine g_ldc2 107 X60 hx hZ hown (hw _ (List.mem_of_getElem? (i := 25) rfl)) (hb hby d2_104) rfl ?_
  refine g_lastore 108 X60 hx hZ e60 A60' 15 (by decide) rfl (Nat.le_of_ble_eq_true rfl) (hb hby d2_107) rfl ?_
  intro T64 h64 X64 e64 W64 A64
  have Zs65 : n0 ≤ h64.size := (Nat.le_trans Zs61 (Keep.of_wr W64).1)
  have K66 : Keep h0 h64 [] := K62.wr W64 (Or.inr sz_b1)
  have A64' : AJ Z h64 b1 [(1 : Int64), (10 : Int64), (100 : Int64), (1000 : Int64), (10000 : Int64), (100000 : Int64), (1000000 : Int64), (10000000 : Int64), (100000000 : Int64), (1000000000 : Int64), (10000000000 : Int64), (100000000000 : Int64), (1000000000000 : Int64), (10000000000000 : Int64), (100000000000000 : Int64), (1000000000000000 : Int64), (0 : Int64), (0 : Int64), (0 : Int64)] := A64
  have N67 := Fr.snoc X64 N63 g_b1
  refine g_dup 109 X64 hx (hb hby d2_108) rfl rfl ?_
  refine g_bipush 111 X64 hx (hb hby d2_109) rfl (z := (16 : Int32)) rfl ?_
  refine g_ldc2 114 X64 hx hZ hown (hw _ (List.mem_of_getElem? (i := 26) rfl)) (hb hby d2_111) rfl ?_
  refine g_lastore 115 X64 hx hZ e64 A64' 16 (by decide) rfl (Nat.le_of_ble_eq_true rfl) (hb hby d2_114) rfl ?_
  intro T68 h68 X68 e68 W68 A68
  have Zs69 : n0 ≤ h68.size := (Nat.le_trans Zs65 (Keep.of_wr W68).1)
  have K70 : Keep h0 h68 [] := K66.wr W68 (Or.inr sz_b1)
  have A68' : AJ Z h68 b1 [(1 : Int64), (10 : Int64), (100 : Int64), (1000 : Int64), (10000 : Int64), (100000 : Int64), (1000000 : Int64), (10000000 : Int64), (100000000 : Int64), (1000000000 : Int64), (10000000000 : Int64), (100000000000 : Int64), (1000000000000 : Int64), (10000000000000 : Int64), (100000000000000 : Int64), (1000000000000000 : Int64), (10000000000000000 : Int64), (0 : Int64), (0 : Int64)] := A68
  have N71 := Fr.snoc X68 N67 g_b1
  refine g_dup 116 X68 hx (hb hby d2_115) rfl rfl ?_
  refine g_bipush 118 X68 hx (hb hby d2_116) rfl (z := (17 : Int32)) rfl ?_
  refine g_ldc2 121 X68 hx hZ hown (hw _ (List.mem_of_getElem? (i := 27) rfl)) (hb hby d2_118) rfl ?_
  refine g_lastore 122 X68 hx hZ e68 A68' 17 (by decide) rfl (Nat.le_of_ble_eq_true rfl) (hb hby d2_121) rfl ?_
  intro T72 h72 X72 e72 W72 A72
  have Zs73 : n0 ≤ h72.size := (Nat.le_trans Zs69 (Keep.of_wr W72).1)
  have K74 : Keep h0 h72 [] := K70.wr W72 (Or.inr sz_b1)
  have A72' : AJ Z h72 b1 [(1 : Int64), (10 : Int64), (100 : Int64), (1000 : Int64), (10000 : Int64), (100000 : Int64), (1000000 : Int64), (10000000 : Int64), (100000000 : Int64), (1000000000 : Int64), (10000000000 : Int64), (100000000000 : Int64), (1000000000000 : Int64), (10000000000000 : Int64), (100000000000000 : Int64), (1000000000000000 : Int64), (10000000000000000 : Int64), (100000000000000000 : Int64), (0 : Int64)] := A72
  have N75 := Fr.snoc X72 N71 g_b1
  refine g_dup 123 X72 hx (hb hby d2_122) rfl rfl ?_
  refine g_bipush 125 X72 hx (hb hby d2_123) rfl (z := (18 : Int32)) rfl ?_
  refine g_ldc2 128 X72 hx hZ hown (hw _ (List.mem_of_getElem? (i := 28) rfl)) (hb hby d2_125) rfl ?_
  refine g_lastore 129 X72 hx hZ e72 A72' 18 (by decide) rfl (Nat.le_of_ble_eq_true rfl) (hb hby d2_128) rfl ?_
  intro T76 h76 X76 e76 W76 A76
  have Zs77 : n0 ≤ h76.size := (Nat.le_trans Zs73 (Keep.of_wr W76).1)
  have K78 : Keep h0 h76 [] := K74.wr W76 (Or.inr sz_b1)
  have A76' : AJ Z h76 b1 [(1 : Int64), (10 : Int64), (100 : Int64), (1000 : Int64), (10000 : Int64), (100000 : Int64), (1000000 : Int64), (10000000 : Int64), (100000000 : Int64), (1000000000 : Int64), (10000000000 : Int64), (100000000000 : Int64), (1000000000000 : Int64), (10000000000000 : Int64), (100000000000000 : Int64), (1000000000000000 : Int64), (10000000000000000 : Int64), (100000000000000000 : Int64), (1000000000000000000 : Int64)] := A76
  have N79 := Fr.snoc X76 N75 g_b1
  refine g_astoreN 130 X76 hx (hb hby d2_129) rfl (Ls' := #[.val (.int p1), .val (.ref b1)]) rfl rfl ?_
  refine g_aloadN 131 X76 hx (hb hby d2_130) rfl (v := (.ref b1)) rfl rfl ?_
  refine g_iloadN 132 X76 hx (hb hby d2_131) rfl (v := p1) rfl ?_
  refine g_laload 133 X76 hx hZ e76 A76' (p1.toInt.toNat) (own_nat0 hk.1) rfl (z := ([(1 : Int64), (10 : Int64), (100 : Int64), (1000 : Int64), (10000 : Int64), (100000 : Int64), (1000000 : Int64), (10000000 : Int64), (100000000 : Int64), (1000000000 : Int64), (10000000000 : Int64), (100000000000 : Int64), (1000000000000 : Int64), (10000000000000 : Int64), (100000000000000 : Int64), (1000000000000000 : Int64), (10000000000000000 : Int64), (100000000000000000 : Int64), (1000000000000000000 : Int64)].getD p1.toInt.toNat 0)) (own_getJ (by show _ < 19; omega)) (hb hby d2_132) rfl ?_
  exact g_retJ X76 hx Bd.returns hlk (hb hby d2_133) (by decide) (by decide) (by
      show Q2 Z p1 h0 n0 _ T76.heap _
      rw [e76]
      exact ⟨([(1 : Int64), (10 : Int64), (100 : Int64), (1000 : Int64), (10000 : Int64), (100000 : Int64), (1000000 : Int64), (10000000 : Int64), (100000000 : Int64), (1000000000 : Int64), (10000000000 : Int64), (100000000000 : Int64), (1000000000000 : Int64), (10000000000000 : Int64), (100000000000000 : Int64), (1000000000000000 : Int64), (10000000000000000 : Int64), (100000000000000000 : Int64), (1000000000000000000 : Int64)].getD p1.toInt.toNat 0), rfl, (own_pows ⟨p1.toInt.toNat, by omega⟩), N79, K78⟩)
theorem pd_0 : parseMethodDescriptor "(I)J" = some ⟨[.int], some .long⟩ := by decide +kernel
theorem d1_0 : decode method_3_code 0 = .ok (.ldc2_w 43, 3) := by decide +kernel
theorem d1_3 : decode method_3_code 3 = .ok (.lload_n 0, 1) := by decide +kernel
theorem d1_4 : decode method_3_code 4 = .ok (.iload_n 2, 1) := by decide +kernel
theorem d1_5 : decode method_3_code 5 = .ok (.invokestatic 45, 3) := by decide +kernel
theorem d1_8 : decode method_3_code 8 = .ok (.ldiv, 1) := by decide +kernel
theorem d1_9 : decode method_3_code 9 = .ok (.ldc2_w 7, 3) := by decide +kernel
theorem d1_12 : decode method_3_code 12 = .ok (.lrem, 1) := by decide +kernel
theorem d1_13 : decode method_3_code 13 = .ok (.ladd, 1) := by decide +kernel
theorem d1_14 : decode method_3_code 14 = .ok (.l2i, 1) := by decide +kernel
theorem d1_15 : decode method_3_code 15 = .ok (.i2b, 1) := by decide +kernel
theorem d1_16 : decode method_3_code 16 = .ok (.ireturn, 1) := by decide +kernel
def Rel1 (q1 : Int64) (p2 : Int32) (r : Int32) : Prop := r.toInt = 48 + ((q1.toInt.toNat / 10 ^ p2.toInt.toNat % 10 : Nat) : Int)
def Q1 (Z : State) (q1 : Int64) (p2 : Int32) (h0 : Heap) (n0 : Nat) (v : Option Value) (h : Heap) (L : List Loc) : Prop := ∃ r : Int32, v = some (.int r) ∧ Rel1 q1 p2 r ∧ Fr n0 L ∧ Keep h0 h []
theorem ef_rm1 (m : MethodId) (q1 : Int64) (p2 : Int32) : entryFrame m #[(.long q1), (.int p2)] 3 = mkF m 0 #[.val (.long q1), .second, .val (.int p2)] [] := by first | (simp [entryFrame, mkF, argsToLocals, Value.category]; done) | rfl
set_option maxRecDepth 65536 in
set_option maxHeartbeats 40000000 in
theorem rm1 (l : Launch) (Z : State) (a0 : Array Value) (hw : ∀ d ∈ tables_1, d.before a0 Z = true) (ws : List Jvm.Cond) (q1 : Int64) (p2 : Int32) (h0 : Heap) (n0 : Nat) (Z0 : n0 ≤ h0.size) (hm : 0 ≤ q1.toInt) (hk : 0 ≤ p2.toInt ∧ p2.toInt ≤ 18) :
    MetFree l (⟨"com/example/utility_meter_billing/utilitymeterbilling/io/WholeNumberValuePinLaw", "dig", "(JI)B"⟩ : MethodName) (head1 (Jvm.Cond.code (⟨"com/example/utility_meter_billing/utilitymeterbilling/io/WholeNumberValuePinLaw", "dig", "(JI)B"⟩ : MethodName) method_3_code 3 (some .byte) :: ws) ({ frames := 1, cells := 1, slots := 19, locals := 17 } : Room)) (fun a U => a = #[(.long q1), (.int p2)] ∧ Z.Warmed39 U.vm ∧ U.heap = h0) (fun _ _ _ _ _ => True) (fun _ U o U' => ∃ v L, o = .returned v ∧ (Q1 Z q1 p2 h0 n0) v U'.heap L ∧ FrameEnd U o U' L ({ frames := 1, cells := 1, slots := 19, locals := 17 } : Room).cells ({ frames := 1, cells := 1, slots := 19, locals := 17 } : Room).slots) := by
  refine MetFree.of_bodySF (plainFor_of_name pn_0) hisR ?_
  intro p e s m args below meth c s₁ Bd hml0 hP hK
  obtain ⟨rfl, hZ, hh⟩ := hP
  have hx := Bd.exec
  have hby := Bd.bytes
  have hml : c.maxLocals = 3 := hml0
  have hown : s.vm.findClass "com/example/utility_meter_billing/utilitymeterbilling/io/WholeNumberValuePinLaw" = some m.cls := findClass_of_methodNamed Bd.named
  have hnm := (name_of_methodNamed Bd.named Bd.method).1
  have hlk : meth.locks = false := BodyLoose.notSynchronized Bd
  have X0 : Stand p l e ({ frames := 1, cells := 1, slots := 19, locals := 17 } : Room) s m #[(.long q1), (.int p2)] below meth c s₁ [] 0 0 := Stand.of_body Bd
  have e0 : s₁.heap = h0 := by rw [← hh, Bd.state]; rfl
  have N0 := Fr.nil n0
  have K0 := Keep.refl h0 []
  show Go p e below s ({ frames := 1, cells := 1, slots := 19, locals := 17 } : Room).cells ({ frames := 1, cells := 1, slots := 19, locals := 17 } : Room).slots (Q1 Z q1 p2 h0 n0) s₁ (entryFrame m #[(.long q1), (.int p2)] 3)
  rw [ef_rm1 m q1 p2]
  refine g_ldc2 3 X0 hx hZ hown (hw _ (List.mem_of_getElem? (i := 6) rfl)) (hb hby d1_0) rfl ?_
  refine g_lloadN 4 X0 hx (hb hby d1_3) rfl (v := q1) rfl ?_
  refine g_iloadN 5 X0 hx (hb hby d1_4) rfl (v := p2) rfl ?_
  have hq5_hk_1 : 0 ≤ p2.toInt ∧ p2.toInt ≤ 18 := hk
  refine g_callS 8 X0 hx hZ (y := (⟨"com/example/utility_meter_billing/utilitymeterbilling/io/WholeNumberValuePinLaw", "p", "(I)J"⟩ : MethodName)) hown (hw _ (List.mem_of_getElem? (i := 7) rfl)) (hw _ (List.mem_of_getElem? (i := 8) rfl)) (hw _ (List.mem_of_getElem? (i := 4) rfl)) (hw _ (List.mem_of_getElem? (i := 9) rfl)) (by decide) e0 (rm2 l Z a0 hw [] p2 h0 n0 Z0 hq5_hk_1) (by rw [hml]; rfl) [(.int p2)] [(.long q1), (.long (48 : Int64))] rfl rfl (lenOf pd_0 rfl) 4 (Nat.le_of_eq rfl) (hb hby d1_5) (by decide) (by decide) (by decide) (by decide) rfl ?_
  intro v1 T1 L1 X1 hQ1
  obtain ⟨r1, rfl, hr1, N1q, K1⟩ := hQ1
  have N1 := Fr.app N0 N1q
  have Zs3 : n0 ≤ T1.heap.size := (Nat.le_trans Z0 K1.1)
  have K4 : Keep h0 T1.heap [] := K0.trans K1 all0
  show Go p e below s ({ frames := 1, cells := 1, slots := 19, locals := 17 } : Room).cells ({ frames := 1, cells := 1, slots := 19, locals := 17 } : Room).slots (Q1 Z q1 p2 h0 n0) T1 (mkF m 8 #[.val (.long q1), .second, .val (.int p2)] [(.long r1), (.long q1), (.long (48 : Int64))])
  have hq8_nz_4 : r1 ≠ 0 := own_pne _ _ (by omega) hr1
  refine g_ldiv 9 X1 hx (hb hby d1_8) rfl hq8_nz_4 (z := (q1 / r1)) rfl ?_
  refine g_ldc2 12 X1 hx hZ hown (hw _ (List.mem_of_getElem? (i := 11) rfl)) (hb hby d1_9) rfl ?_
  refine g_lrem 13 X1 hx (hb hby d1_12) rfl (by decide) (z := ((q1 / r1) % (10 : Int64))) rfl ?_
  refine g_ladd 14 X1 hx (hb hby d1_13) rfl (z := ((48 : Int64) + ((q1 / r1) % (10 : Int64)))) rfl ?_
  refine g_l2i 15 X1 hx (hb hby d1_14) rfl (z := (((48 : Int64) + ((q1 / r1) % (10 : Int64))).toInt32)) rfl ?_
  refine g_i2b 16 X1 hx (hb hby d1_15) rfl (z := ((((48 : Int64) + ((q1 / r1) % (10 : Int64))).toInt32).toInt8.toInt32)) rfl ?_
  exact g_retN X1 hx (t := .byte) Bd.returns hlk (by simp) rfl (hb hby d1_16) (by decide) (by decide) (by
      show Q1 Z q1 p2 h0 n0 _ T1.heap _
      skip
      exact ⟨(nar .byte ((((48 : Int64) + ((q1 / r1) % (10 : Int64))).toInt32).toInt8.toInt32)), rfl, (own_digv q1 _ _ (by omega) hm hr1), N1, K4⟩)
theorem pn_1 : plainName "com/example/utility_meter_billing/utilitymeterbilling/io/WholeNumber" = true := by first | (simp [plainName, overriddenIn]; done) | decide +kernel
theorem d6_0 : decode prog_31_method_3_code 0 = .ok (.iload_n 2, 1) := by decide +kernel
theorem d6_1 : decode prog_31_method_3_code 1 = .ok (.iload_n 1, 1) := by decide +kernel
theorem d6_2 : decode prog_31_method_3_code 2 = .ok (.if_icmp .ne 9, 3) := by decide +kernel
theorem d6_5 : decode prog_31_method_3_code 5 = .ok (.ldc2_w 27, 3) := by decide +kernel
theorem d6_8 : decode prog_31_method_3_code 8 = .ok (.goto 4, 3) := by decide +kernel
theorem d6_11 : decode prog_31_method_3_code 11 = .ok (.lconst 0, 1) := by decide +kernel
theorem d6_12 : decode prog_31_method_3_code 12 = .ok (.lstore_n 3, 1) := by decide +kernel
theorem d6_13 : decode prog_31_method_3_code 13 = .ok (.iload_n 1, 1) := by decide +kernel
theorem d6_14 : decode prog_31_method_3_code 14 = .ok (.istore 5, 2) := by decide +kernel
theorem d6_16 : decode prog_31_method_3_code 16 = .ok (.lload_n 3, 1) := by decide +kernel
theorem d6_17 : decode prog_31_method_3_code 17 = .ok (.ldc2_w 27, 3) := by decide +kernel
theorem d6_20 : decode prog_31_method_3_code 20 = .ok (.lcmp, 1) := by decide +kernel
theorem d6_21 : decode prog_31_method_3_code 21 = .ok (.ifCond .eq 71, 3) := by decide +kernel
theorem d6_24 : decode prog_31_method_3_code 24 = .ok (.iload 5, 2) := by decide +kernel
theorem d6_26 : decode prog_31_method_3_code 26 = .ok (.iload_n 2, 1) := by decide +kernel
theorem d6_27 : decode prog_31_method_3_code 27 = .ok (.if_icmp .ge 65, 3) := by decide +kernel
theorem d6_30 : decode prog_31_method_3_code 30 = .ok (.aload_n 0, 1) := by decide +kernel
theorem d6_31 : decode prog_31_method_3_code 31 = .ok (.iload 5, 2) := by decide +kernel
theorem d6_33 : decode prog_31_method_3_code 33 = .ok (.baload, 1) := by decide +kernel
theorem d6_34 : decode prog_31_method_3_code 34 = .ok (.istore 6, 2) := by decide +kernel
theorem d6_36 : decode prog_31_method_3_code 36 = .ok (.iload 6, 2) := by decide +kernel
theorem d6_38 : decode prog_31_method_3_code 38 = .ok (.bipush 48, 2) := by decide +kernel
theorem d6_40 : decode prog_31_method_3_code 40 = .ok (.if_icmp .lt 10, 3) := by decide +kernel
theorem d6_43 : decode prog_31_method_3_code 43 = .ok (.iload 6, 2) := by decide +kernel
theorem d6_45 : decode prog_31_method_3_code 45 = .ok (.bipush 57, 2) := by decide +kernel
theorem d6_47 : decode prog_31_method_3_code 47 = .ok (.if_icmp .le 10, 3) := by decide +kernel
theorem d6_50 : decode prog_31_method_3_code 50 = .ok (.ldc2_w 27, 3) := by decide +kernel
theorem d6_53 : decode prog_31_method_3_code 53 = .ok (.lstore_n 3, 1) := by decide +kernel
theorem d6_54 : decode prog_31_method_3_code 54 = .ok (.goto 32, 3) := by decide +kernel
theorem d6_57 : decode prog_31_method_3_code 57 = .ok (.lload_n 3, 1) := by decide +kernel
theorem d6_58 : decode prog_31_method_3_code 58 = .ok (.ldc2_w 29, 3) := by decide +kernel
theorem d6_61 : decode prog_31_method_3_code 61 = .ok (.lcmp, 1) := by decide +kernel
theorem d6_62 : decode prog_31_method_3_code 62 = .ok (.ifCond .le 10, 3) := by decide +kernel
theorem d6_65 : decode prog_31_method_3_code 65 = .ok (.ldc2_w 31, 3) := by decide +kernel
theorem d6_68 : decode prog_31_method_3_code 68 = .ok (.lstore_n 3, 1) := by decide +kernel
theorem d6_69 : decode prog_31_method_3_code 69 = .ok (.goto 17, 3) := by decide +kernel
theorem d6_72 : decode prog_31_method_3_code 72 = .ok (.lload_n 3, 1) := by decide +kernel
theorem d6_73 : decode prog_31_method_3_code 73 = .ok (.ldc2_w 33, 3) := by decide +kernel
theorem d6_76 : decode prog_31_method_3_code 76 = .ok (.lmul, 1) := by decide +kernel
theorem d6_77 : decode prog_31_method_3_code 77 = .ok (.iload 6, 2) := by decide +kernel
theorem d6_79 : decode prog_31_method_3_code 79 = .ok (.i2l, 1) := by decide +kernel
theorem d6_80 : decode prog_31_method_3_code 80 = .ok (.ladd, 1) := by decide +kernel
theorem d6_81 : decode prog_31_method_3_code 81 = .ok (.ldc2_w 35, 3) := by decide +kernel
theorem d6_84 : decode prog_31_method_3_code 84 = .ok (.lsub, 1) := by decide +kernel
theorem d6_85 : decode prog_31_method_3_code 85 = .ok (.lstore_n 3, 1) := by decide +kernel
theorem d6_86 : decode prog_31_method_3_code 86 = .ok (.iinc 5 1, 3) := by decide +kernel
theorem d6_89 : decode prog_31_method_3_code 89 = .ok (.goto (-73), 3) := by decide +kernel
theorem d6_92 : decode prog_31_method_3_code 92 = .ok (.lload_n 3, 1) := by decide +kernel
theorem d6_93 : decode prog_31_method_3_code 93 = .ok (.lreturn, 1) := by decide +kernel
def Rel6 (p2 : Int32) (p3 : Int32) (bs1 : List Int32) (r : Int64) : Prop := (p3 = p2 ∧ r = (-1 : Int64)) ∨ (¬ (p3 = p2) ∧ r = own_vl bs1 (p3.toInt - p2.toInt).toNat p2.toInt.toNat (0 : Int64))
def Q6 (Z : State) (a1 : Addr) (p2 : Int32) (p3 : Int32) (bs1 : List Int32) (h0 : Heap) (n0 : Nat) (v : Option Value) (h : Heap) (L : List Loc) : Prop := ∃ r : Int64, v = some (.long r) ∧ Rel6 p2 p3 bs1 r ∧ Fr n0 L ∧ h = h0
theorem ef_rm6 (m : MethodId) (a1 : Addr) (p2 : Int32) (p3 : Int32) : entryFrame m #[(.ref a1), (.int p2), (.int p3)] 7 = mkF m 0 #[.val (.ref a1), .val (.int p2), .val (.int p3), .unset, .unset, .unset, .unset] [] := by first | (simp [entryFrame, mkF, argsToLocals, Value.category]; done) | rfl
set_option maxRecDepth 65536 in
set_option maxHeartbeats 40000000 in
theorem rm6 (l : Launch) (Z : State) (a0 : Array Value) (hw : ∀ d ∈ tables_1, d.before a0 Z = true) (ws : List Jvm.Cond) (a1 : Addr) (p2 : Int32) (p3 : Int32) (bs1 : List Int32) (h0 : Heap) (n0 : Nat) (Z0 : n0 ≤ h0.size) (A_a1 : AI Z h0 a1 .byte bs1) (hf : 0 ≤ p2.toInt ∧ p2.toInt ≤ p3.toInt ∧ p3.toInt ≤ 21) (hl : bs1.length = 21) :
    MetFree l (⟨"com/example/utility_meter_billing/utilitymeterbilling/io/WholeNumber", "value", "([BII)J"⟩ : MethodName) (head1 (Jvm.Cond.code (⟨"com/example/utility_meter_billing/utilitymeterbilling/io/WholeNumber", "value", "([BII)J"⟩ : MethodName) prog_31_method_3_code 7 (some .long) :: ws) ({ frames := 0, cells := 0, slots := 0, locals := 0 } : Room)) (fun a U => a = #[(.ref a1), (.int p2), (.int p3)] ∧ Z.Warmed39 U.vm ∧ U.heap = h0) (fun _ _ _ _ _ => True) (fun _ U o U' => ∃ v L, o = .returned v ∧ (Q6 Z a1 p2 p3 bs1 h0 n0) v U'.heap L ∧ FrameEnd U o U' L ({ frames := 0, cells := 0, slots := 0, locals := 0 } : Room).cells ({ frames := 0, cells := 0, slots := 0, locals := 0 } : Room).slots) := by
  refine MetFree.of_bodySF (plainFor_of_name pn_1) hisR ?_
  intro p e s m args below meth c s₁ Bd hml0 hP hK
  obtain ⟨rfl, hZ, hh⟩ := hP
  have hx := Bd.exec
  have hby := Bd.bytes
  have hml : c.maxLocals = 7 := hml0
  have hown : s.vm.findClass "com/example/utility_meter_billing/utilitymeterbilling/io/WholeNumber" = some m.cls := findClass_of_methodNamed Bd.named
  have hnm := (name_of_methodNamed Bd.named Bd.method).1
  have hlk : meth.locks = false := BodyLoose.notSynchronized Bd
  have X0 : Stand p l e ({ frames := 0, cells := 0, slots := 0, locals := 0 } : Room) s m #[(.ref a1), (.int p2), (.int p3)] below meth c s₁ [] 0 0 := Stand.of_body Bd
  have e0 : s₁.heap = h0 := by rw [← hh, Bd.state]; rfl
  have N0 := Fr.nil n0
  show Go p e below s ({ frames := 0, cells := 0, slots := 0, locals := 0 } : Room).cells ({ frames := 0, cells := 0, slots := 0, locals := 0 } : Room).slots (Q6 Z a1 p2 p3 bs1 h0 n0) s₁ (entryFrame m #[(.ref a1), (.int p2), (.int p3)] 7)
  rw [ef_rm6 m a1 p2 p3]
  refine g_iloadN 1 X0 hx (hb hby d6_0) rfl (v := p3) rfl ?_
  refine g_iloadN 2 X0 hx (hb hby d6_1) rfl (v := p2) rfl ?_
  by_cases hc2_0 : p3 = p2
  ·
    refine g_icmpNo 5 X0 hx (hb hby d6_2)  (teq hc2_0).2 rfl ?_
    refine g_ldc2 8 X0 hx hZ hown (hw _ (List.mem_of_getElem? (i := 44) rfl)) (hb hby d6_5) rfl ?_
    refine g_goto 12 X0 hx (hb hby d6_8) (by decide) (by decide) ?_
    refine g_lstoreN 13 X0 hx (hb hby d6_12) rfl (Ls' := #[.val (.ref a1), .val (.int p2), .val (.int p3), .val (.long (-1 : Int64)), .second, .unset, .unset]) rfl ?_
    refine g_iloadN 14 X0 hx (hb hby d6_13) rfl (v := p2) rfl ?_
    refine g_istore 16 X0 hx (hb hby d6_14) rfl (Ls' := #[.val (.ref a1), .val (.int p2), .val (.int p3), .val (.long (-1 : Int64)), .second, .val (.int p2), .unset]) rfl ?_
    have LOOP16n : ∀ (fueln : Nat) (lr : Int64) (li : Int32) (sl6 : Slot), (p3.toInt - li.toInt).toNat < fueln → (0 ≤ li.toInt ∧ li.toInt ≤ 21) → (One sl6) → (own_vl bs1 (p3.toInt - li.toInt).toNat li.toInt.toNat lr = own_vl bs1 (p3.toInt - p2.toInt).toNat p2.toInt.toNat (-1 : Int64)) → Go p e below s ({ frames := 0, cells := 0, slots := 0, locals := 0 } : Room).cells ({ frames := 0, cells := 0, slots := 0, locals := 0 } : Room).slots (Q6 Z a1 p2 p3 bs1 h0 n0) s₁ (mkF m 16 #[.val (.ref a1), .val (.int p2), .val (.int p3), .val (.long lr), .second, .val (.int li), sl6] []) := by
      intro fueln
      induction fueln with
      | zero => intro lr li sl6 hm; exact absurd hm (Nat.not_lt_zero _)
      | succ fueln ihn =>
        intro lr li sl6 hmn hi0 hsl6 hq
        refine g_lloadN 17 X0 hx (hb hby d6_16) rfl (v := lr) rfl ?_
        refine g_ldc2 20 X0 hx hZ hown (hw _ (List.mem_of_getElem? (i := 44) rfl)) (hb hby d6_17) rfl ?_
        by_cases hc20_1 : lr = (-1 : Int64)
        ·
          refine g_lcmpYes 92 X0 hx (hb hby d6_20) rfl (hb hby d6_21) (teqL hc20_1).1 (by decide) (by decide) ?_
          refine g_lloadN 93 X0 hx (hb hby d6_92) rfl (v := lr) rfl ?_
          exact g_retJ X0 hx Bd.returns hlk (hb hby d6_93) (by decide) (by decide) ⟨lr, rfl, (Or.inl ⟨hc2_0, hc20_1⟩), N0, e0⟩
        ·
          refine g_lcmpNo 24 X0 hx (hb hby d6_20) rfl (hb hby d6_21) (feqL hc20_1).1 rfl ?_
          refine g_iload 26 X0 hx (hb hby d6_24) rfl (v := li) rfl ?_
          refine g_iloadN 27 X0 hx (hb hby d6_26) rfl (v := p3) rfl ?_
          by_cases hc27_2 : li < p3
          ·
            refine g_icmpNo 30 X0 hx (hb hby d6_27)  (tlt hc27_2).2.1 rfl ?_
            refine g_aloadN 31 X0 hx (hb hby d6_30) rfl (v := (.ref a1)) rfl rfl ?_
            refine g_iload 33 X0 hx (hb hby d6_31) rfl (v := li) rfl ?_
            refine g_baload 34 X0 hx hZ e0 A_a1 (li.toInt.toNat) (own_nat0 hi0.1) rfl (z := (bs1.getD li.toInt.toNat 0)) (own_get (by have q := Int32.lt_iff_toInt_lt.mp hc27_2; omega)) (hb hby d6_33) rfl ?_
            refine g_istore 36 X0 hx (hb hby d6_34) rfl (Ls' := #[.val (.ref a1), .val (.int p2), .val (.int p3), .val (.long lr), .second, .val (.int li), .val (.int (bs1.getD li.toInt.toNat 0))]) (by rcases hsl6 with e | ⟨w, e, hc⟩ <;> subst e <;> first | rfl | (cases w <;> first | rfl | exact absurd hc (by decide) | exact absurd hc (by show ¬ (2 : Nat) = 1; decide))) ?_
            refine g_iload 38 X0 hx (hb hby d6_36) rfl (v := (bs1.getD li.toInt.toNat 0)) rfl ?_
            refine g_bipush 40 X0 hx (hb hby d6_38) rfl (z := (48 : Int32)) rfl ?_
            by_cases hc40_3 : (bs1.getD li.toInt.toNat 0) < (48 : Int32)
            ·
              refine g_icmpYes 50 X0 hx (hb hby d6_40)  (tlt hc40_3).1 (by decide) (by decide) ?_
              refine g_ldc2 53 X0 hx hZ hown (hw _ (List.mem_of_getElem? (i := 44) rfl)) (hb hby d6_50) rfl ?_
              refine g_lstoreN 54 X0 hx (hb hby d6_53) rfl (Ls' := #[.val (.ref a1), .val (.int p2), .val (.int p3), .val (.long (-1 : Int64)), .second, .val (.int li), .val (.int (bs1.getD li.toInt.toNat 0))]) rfl ?_
              refine g_goto 86 X0 hx (hb hby d6_54) (by decide) (by decide) ?_
              refine g_iinc 89 X0 hx (hb hby d6_86) rfl (x := li) rfl (z := (li + (1 : Int32))) rfl (Ls' := #[.val (.ref a1), .val (.int p2), .val (.int p3), .val (.long (-1 : Int64)), .second, .val (.int (li + (1 : Int32))), .val (.int (bs1.getD li.toInt.toNat 0))]) rfl ?_
              refine g_goto 16 X0 hx (hb hby d6_89) (by decide) (by decide) ?_
              exact ihn (-1 : Int64) (li + (1 : Int32)) (.val (.int (bs1.getD li.toInt.toNat 0))) (by have q := Int32.lt_iff_toInt_lt.mp hc27_2; rw [own_inc (by omega)]; omega) (by have q := Int32.lt_iff_toInt_lt.mp hc27_2; rw [own_inc (by omega)]; omega) (One.val rfl) ((own_vstep bs1 p3 li lr _ (by have q := Int32.lt_iff_toInt_lt.mp hc27_2; omega) hc27_2 hc20_1 (if_pos (Or.inl hc40_3)).symm).trans hq)
            ·
              refine g_icmpNo 43 X0 hx (hb hby d6_40)  (flt hc40_3).1 rfl ?_
              refine g_iload 45 X0 hx (hb hby d6_43) rfl (v := (bs1.getD li.toInt.toNat 0)) rfl ?_
              refine g_bipush 47 X0 hx (hb hby d6_45) rfl (z := (57 : Int32)) rfl ?_
              by_cases hc47_4 : (57 : Int32) < (bs1.getD li.toInt.toNat 0)
              ·
                refine g_icmpNo 50 X0 hx (hb hby d6_47)  (tlt hc47_4).2.2.2 rfl ?_
                refine g_ldc2 53 X0 hx hZ hown (hw _ (List.mem_of_getElem? (i := 44) rfl)) (hb hby d6_50) rfl ?_
                refine g_lstoreN 54 X0 hx (hb hby d6_53) rfl (Ls' := #[.val (.ref a1), .val (.int p2), .val (.int p3), .val (.long (-1 : Int64)), .second, .val (.int li), .val (.int (bs1.getD li.toInt.toNat 0))]) rfl ?_
                refine g_goto 86 X0 hx (hb hby d6_54) (by decide) (by decide) ?_
                refine g_iinc 89 X0 hx (hb hby d6_86) rfl (x := li) rfl (z := (li + (1 : Int32))) rfl (Ls' := #[.val (.ref a1), .val (.int p2), .val (.int p3), .val (.long (-1 : Int64)), .second, .val (.int (li + (1 : Int32))), .val (.int (bs1.getD li.toInt.toNat 0))]) rfl ?_
                refine g_goto 16 X0 hx (hb hby d6_89) (by decide) (by decide) ?_
                exact ihn (-1 : Int64) (li + (1 : Int32)) (.val (.int (bs1.getD li.toInt.toNat 0))) (by have q := Int32.lt_iff_toInt_lt.mp hc27_2; rw [own_inc (by omega)]; omega) (by have q := Int32.lt_iff_toInt_lt.mp hc27_2; rw [own_inc (by omega)]; omega) (One.val rfl) ((own_vstep bs1 p3 li lr _ (by have q := Int32.lt_iff_toInt_lt.mp hc27_2; omega) hc27_2 hc20_1 (if_pos (Or.inr hc47_4)).symm).trans hq)
              ·
                refine g_icmpYes 57 X0 hx (hb hby d6_47)  (flt hc47_4).2.2.2 (by decide) (by decide) ?_
                refine g_lloadN 58 X0 hx (hb hby d6_57) rfl (v := lr) rfl ?_
                refine g_ldc2 61 X0 hx hZ hown (hw _ (List.mem_of_getElem? (i := 46) rfl)) (hb hby d6_58) rfl ?_
                by_cases hc61_5 : (99999999999999999 : Int64) < lr
                ·
                  refine g_lcmpNo 65 X0 hx (hb hby d6_61) rfl (hb hby d6_62) (tltL hc61_5).2.2.2 rfl ?_
                  refine g_ldc2 68 X0 hx hZ hown (hw _ (List.mem_of_getElem? (i := 51) rfl)) (hb hby d6_65) rfl ?_
                  refine g_lstoreN 69 X0 hx (hb hby d6_68) rfl (Ls' := #[.val (.ref a1), .val (.int p2), .val (.int p3), .val (.long (9223372036854775807 : Int64)), .second, .val (.int li), .val (.int (bs1.getD li.toInt.toNat 0))]) rfl ?_
                  refine g_goto 86 X0 hx (hb hby d6_69) (by decide) (by decide) ?_
                  refine g_iinc 89 X0 hx (hb hby d6_86) rfl (x := li) rfl (z := (li + (1 : Int32))) rfl (Ls' := #[.val (.ref a1), .val (.int p2), .val (.int p3), .val (.long (9223372036854775807 : Int64)), .second, .val (.int (li + (1 : Int32))), .val (.int (bs1.getD li.toInt.toNat 0))]) rfl ?_
                  refine g_goto 16 X0 hx (hb hby d6_89) (by decide) (by decide) ?_
                  exact ihn (9223372036854775807 : Int64) (li + (1 : Int32)) (.val (.int (bs1.getD li.toInt.toNat 0))) (by have q := Int32.lt_iff_toInt_lt.mp hc27_2; rw [own_inc (by omega)]; omega) (by have q := Int32.lt_iff_toInt_lt.mp hc27_2; rw [own_inc (by omega)]; omega) (One.val rfl) ((own_vstep bs1 p3 li lr _ (by have q := Int32.lt_iff_toInt_lt.mp hc27_2; omega) hc27_2 hc20_1 ((if_neg (fun q => q.elim hc40_3 hc47_4)).trans (if_pos hc61_5)).symm).trans hq)
                ·
                  refine g_lcmpYes 72 X0 hx (hb hby d6_61) rfl (hb hby d6_62) (fltL hc61_5).2.2.2 (by decide) (by decide) ?_
                  refine g_lloadN 73 X0 hx (hb hby d6_72) rfl (v := lr) rfl ?_
                  refine g_ldc2 76 X0 hx hZ hown (hw _ (List.mem_of_getElem? (i := 47) rfl)) (hb hby d6_73) rfl ?_
                  refine g_lmul 77 X0 hx (hb hby d6_76) rfl (z := (lr * (10 : Int64))) rfl ?_
                  refine g_iload 79 X0 hx (hb hby d6_77) rfl (v := (bs1.getD li.toInt.toNat 0)) rfl ?_
                  refine g_i2l 80 X0 hx (hb hby d6_79) rfl (z := ((bs1.getD li.toInt.toNat 0).toInt64)) rfl ?_
                  refine g_ladd 81 X0 hx (hb hby d6_80) rfl (z := ((lr * (10 : Int64)) + ((bs1.getD li.toInt.toNat 0).toInt64))) rfl ?_
                  refine g_ldc2 84 X0 hx hZ hown (hw _ (List.mem_of_getElem? (i := 48) rfl)) (hb hby d6_81) rfl ?_
                  refine g_lsub 85 X0 hx (hb hby d6_84) rfl (z := (((lr * (10 : Int64)) + ((bs1.getD li.toInt.toNat 0).toInt64)) - (48 : Int64))) rfl ?_
                  refine g_lstoreN 86 X0 hx (hb hby d6_85) rfl (Ls' := #[.val (.ref a1), .val (.int p2), .val (.int p3), .val (.long (((lr * (10 : Int64)) + ((bs1.getD li.toInt.toNat 0).toInt64)) - (48 : Int64))), .second, .val (.int li), .val (.int (bs1.getD li.toInt.toNat 0))]) rfl ?_
                  refine g_iinc 89 X0 hx (hb hby d6_86) rfl (x := li) rfl (z := (li + (1 : Int32))) rfl (Ls' := #[.val (.ref a1), .val (.int p2), .val (.int p3), .val (.long (((lr * (10 : Int64)) + ((bs1.getD li.toInt.toNat 0).toInt64)) - (48 : Int64))), .second, .val (.int (li + (1 : Int32))), .val (.int (bs1.getD li.toInt.toNat 0))]) rfl ?_
                  refine g_goto 16 X0 hx (hb hby d6_89) (by decide) (by decide) ?_
                  exact ihn (((lr * (10 : Int64)) + ((bs1.getD li.toInt.toNat 0).toInt64)) - (48 : Int64)) (li + (1 : Int32)) (.val (.int (bs1.getD li.toInt.toNat 0))) (by have q := Int32.lt_iff_toInt_lt.mp hc27_2; rw [own_inc (by omega)]; omega) (by have q := Int32.lt_iff_toInt_lt.mp hc27_2; rw [own_inc (by omega)]; omega) (One.val rfl) ((own_vstep bs1 p3 li lr _ (by have q := Int32.lt_iff_toInt_lt.mp hc27_2; omega) hc27_2 hc20_1 ((if_neg (fun q => q.elim hc40_3 hc47_4)).trans (if_neg hc61_5)).symm).trans hq)
          ·
            refine g_icmpYes 92 X0 hx (hb hby d6_27)  (flt hc27_2).2.1 (by decide) (by decide) ?_
            refine g_lloadN 93 X0 hx (hb hby d6_92) rfl (v := lr) rfl ?_
            exact g_retJ X0 hx Bd.returns hlk (hb hby d6_93) (by decide) (by decide) ⟨lr, rfl, (Or.inl ⟨hc2_0, ((own_vend bs1 p3 li lr hc27_2).trans hq).trans (own_vm1 _ _ _)⟩), N0, e0⟩
    exact LOOP16n _ (-1 : Int64) p2 (.unset) (Nat.lt_succ_self _) (by omega) One.u rfl
  ·
    refine g_icmpYes 11 X0 hx (hb hby d6_2)  (feq hc2_0).2 (by decide) (by decide) ?_
    refine g_lconst 12 X0 hx (hb hby d6_11) rfl (z := (0 : Int64)) rfl ?_
    refine g_lstoreN 13 X0 hx (hb hby d6_12) rfl (Ls' := #[.val (.ref a1), .val (.int p2), .val (.int p3), .val (.long (0 : Int64)), .second, .unset, .unset]) rfl ?_
    refine g_iloadN 14 X0 hx (hb hby d6_13) rfl (v := p2) rfl ?_
    refine g_istore 16 X0 hx (hb hby d6_14) rfl (Ls' := #[.val (.ref a1), .val (.int p2), .val (.int p3), .val (.long (0 : Int64)), .second, .val (.int p2), .unset]) rfl ?_
    have LOOP16 : ∀ (fuel : Nat) (lr : Int64) (li : Int32) (sl6 : Slot), (p3.toInt - li.toInt).toNat < fuel → (0 ≤ li.toInt ∧ li.toInt ≤ 21) → (One sl6) → (own_vl bs1 (p3.toInt - li.toInt).toNat li.toInt.toNat lr = own_vl bs1 (p3.toInt - p2.toInt).toNat p2.toInt.toNat (0 : Int64)) → Go p e below s ({ frames := 0, cells := 0, slots := 0, locals := 0 } : Room).cells ({ frames := 0, cells := 0, slots := 0, locals := 0 } : Room).slots (Q6 Z a1 p2 p3 bs1 h0 n0) s₁ (mkF m 16 #[.val (.ref a1), .val (.int p2), .val (.int p3), .val (.long lr), .second, .val (.int li), sl6] []) := by
      intro fuel
      induction fuel with
      | zero => intro lr li sl6 hm; exact absurd hm (Nat.not_lt_zero _)
      | succ fuel ih =>
        intro lr li sl6 hm hi0 hsl6 hq
        refine g_lloadN 17 X0 hx (hb hby d6_16) rfl (v := lr) rfl ?_
        refine g_ldc2 20 X0 hx hZ hown (hw _ (List.mem_of_getElem? (i := 44) rfl)) (hb hby d6_17) rfl ?_
        by_cases hc20_6 : lr = (-1 : Int64)
        ·
          refine g_lcmpYes 92 X0 hx (hb hby d6_20) rfl (hb hby d6_21) (teqL hc20_6).1 (by decide) (by decide) ?_
          refine g_lloadN 93 X0 hx (hb hby d6_92) rfl (v := lr) rfl ?_
          exact g_retJ X0 hx Bd.returns hlk (hb hby d6_93) (by decide) (by decide) ⟨lr, rfl, (Or.inr ⟨hc2_0, (by rw [hc20_6, own_vm1] at hq; rw [hc20_6]; exact hq)⟩), N0, e0⟩
        ·
          refine g_lcmpNo 24 X0 hx (hb hby d6_20) rfl (hb hby d6_21) (feqL hc20_6).1 rfl ?_
          refine g_iload 26 X0 hx (hb hby d6_24) rfl (v := li) rfl ?_
          refine g_iloadN 27 X0 hx (hb hby d6_26) rfl (v := p3) rfl ?_
          by_cases hc27_7 : li < p3
          ·
            refine g_icmpNo 30 X0 hx (hb hby d6_27)  (tlt hc27_7).2.1 rfl ?_
            refine g_aloadN 31 X0 hx (hb hby d6_30) rfl (v := (.ref a1)) rfl rfl ?_
            refine g_iload 33 X0 hx (hb hby d6_31) rfl (v := li) rfl ?_
            refine g_baload 34 X0 hx hZ e0 A_a1 (li.toInt.toNat) (own_nat0 hi0.1) rfl (z := (bs1.getD li.toInt.toNat 0)) (own_get (by have q := Int32.lt_iff_toInt_lt.mp hc27_7; omega)) (hb hby d6_33) rfl ?_
            refine g_istore 36 X0 hx (hb hby d6_34) rfl (Ls' := #[.val (.ref a1), .val (.int p2), .val (.int p3), .val (.long lr), .second, .val (.int li), .val (.int (bs1.getD li.toInt.toNat 0))]) (by rcases hsl6 with e | ⟨w, e, hc⟩ <;> subst e <;> first | rfl | (cases w <;> first | rfl | exact absurd hc (by decide) | exact absurd hc (by show ¬ (2 : Nat) = 1; decide))) ?_
            refine g_iload 38 X0 hx (hb hby d6_36) rfl (v := (bs1.getD li.toInt.toNat 0)) rfl ?_
            refine g_bipush 40 X0 hx (hb hby d6_38) rfl (z := (48 : Int32)) rfl ?_
            by_cases hc40_8 : (bs1.getD li.toInt.toNat 0) < (48 : Int32)
            ·
              refine g_icmpYes 50 X0 hx (hb hby d6_40)  (tlt hc40_8).1 (by decide) (by decide) ?_
              refine g_ldc2 53 X0 hx hZ hown (hw _ (List.mem_of_getElem? (i := 44) rfl)) (hb hby d6_50) rfl ?_
              refine g_lstoreN 54 X0 hx (hb hby d6_53) rfl (Ls' := #[.val (.ref a1), .val (.int p2), .val (.int p3), .val (.long (-1 : Int64)), .second, .val (.int li), .val (.int (bs1.getD li.toInt.toNat 0))]) rfl ?_
              refine g_goto 86 X0 hx (hb hby d6_54) (by decide) (by decide) ?_
              refine g_iinc 89 X0 hx (hb hby d6_86) rfl (x := li) rfl (z := (li + (1 : Int32))) rfl (Ls' := #[.val (.ref a1), .val (.int p2), .val (.int p3), .val (.long (-1 : Int64)), .second, .val (.int (li + (1 : Int32))), .val (.int (bs1.getD li.toInt.toNat 0))]) rfl ?_
              refine g_goto 16 X0 hx (hb hby d6_89) (by decide) (by decide) ?_
              exact ih (-1 : Int64) (li + (1 : Int32)) (.val (.int (bs1.getD li.toInt.toNat 0))) (by have q := Int32.lt_iff_toInt_lt.mp hc27_7; rw [own_inc (by omega)]; omega) (by have q := Int32.lt_iff_toInt_lt.mp hc27_7; rw [own_inc (by omega)]; omega) (One.val rfl) ((own_vstep bs1 p3 li lr _ (by have q := Int32.lt_iff_toInt_lt.mp hc27_7; omega) hc27_7 hc20_6 (if_pos (Or.inl hc40_8)).symm).trans hq)
            ·
              refine g_icmpNo 43 X0 hx (hb hby d6_40)  (flt hc40_8).1 rfl ?_
              refine g_iload 45 X0 hx (hb hby d6_43) rfl (v := (bs1.getD li.toInt.toNat 0)) rfl ?_
              refine g_bipush 47 X0 hx (hb hby d6_45) rfl (z := (57 : Int32)) rfl ?_
              by_cases hc47_9 : (57 : Int32) < (bs1.getD li.toInt.toNat 0)
              ·
                refine g_icmpNo 50 X0 hx (hb hby d6_47)  (tlt hc47_9).2.2.2 rfl ?_
                refine g_ldc2 53 X0 hx hZ hown (hw _ (List.mem_of_getElem? (i := 44) rfl)) (hb hby d6_50) rfl ?_
                refine g_lstoreN 54 X0 hx (hb hby d6_53) rfl (Ls' := #[.val (.ref a1), .val (.int p2), .val (.int p3), .val (.long (-1 : Int64)), .second, .val (.int li), .val (.int (bs1.getD li.toInt.toNat 0))]) rfl ?_
                refine g_goto 86 X0 hx (hb hby d6_54) (by decide) (by decide) ?_
                refine g_iinc 89 X0 hx (hb hby d6_86) rfl (x := li) rfl (z := (li + (1 : Int32))) rfl (Ls' := #[.val (.ref a1), .val (.int p2), .val (.int p3), .val (.long (-1 : Int64)), .second, .val (.int (li + (1 : Int32))), .val (.int (bs1.getD li.toInt.toNat 0))]) rfl ?_
                refine g_goto 16 X0 hx (hb hby d6_89) (by decide) (by decide) ?_
                exact ih (-1 : Int64) (li + (1 : Int32)) (.val (.int (bs1.getD li.toInt.toNat 0))) (by have q := Int32.lt_iff_toInt_lt.mp hc27_7; rw [own_inc (by omega)]; omega) (by have q := Int32.lt_iff_toInt_lt.mp hc27_7; rw [own_inc (by omega)]; omega) (One.val rfl) ((own_vstep bs1 p3 li lr _ (by have q := Int32.lt_iff_toInt_lt.mp hc27_7; omega) hc27_7 hc20_6 (if_pos (Or.inr hc47_9)).symm).trans hq)
              ·
                refine g_icmpYes 57 X0 hx (hb hby d6_47)  (flt hc47_9).2.2.2 (by decide) (by decide) ?_
                refine g_lloadN 58 X0 hx (hb hby d6_57) rfl (v := lr) rfl ?_
                refine g_ldc2 61 X0 hx hZ hown (hw _ (List.mem_of_getElem? (i := 46) rfl)) (hb hby d6_58) rfl ?_
                by_cases hc61_10 : (99999999999999999 : Int64) < lr
                ·
                  refine g_lcmpNo 65 X0 hx (hb hby d6_61) rfl (hb hby d6_62) (tltL hc61_10).2.2.2 rfl ?_
                  refine g_ldc2 68 X0 hx hZ hown (hw _ (List.mem_of_getElem? (i := 51) rfl)) (hb hby d6_65) rfl ?_
                  refine g_lstoreN 69 X0 hx (hb hby d6_68) rfl (Ls' := #[.val (.ref a1), .val (.int p2), .val (.int p3), .val (.long (9223372036854775807 : Int64)), .second, .val (.int li), .val (.int (bs1.getD li.toInt.toNat 0))]) rfl ?_
                  refine g_goto 86 X0 hx (hb hby d6_69) (by decide) (by decide) ?_
                  refine g_iinc 89 X0 hx (hb hby d6_86) rfl (x := li) rfl (z := (li + (1 : Int32))) rfl (Ls' := #[.val (.ref a1), .val (.int p2), .val (.int p3), .val (.long (9223372036854775807 : Int64)), .second, .val (.int (li + (1 : Int32))), .val (.int (bs1.getD li.toInt.toNat 0))]) rfl ?_
                  refine g_goto 16 X0 hx (hb hby d6_89) (by decide) (by decide) ?_
                  exact ih (9223372036854775807 : Int64) (li + (1 : Int32)) (.val (.int (bs1.getD li.toInt.toNat 0))) (by have q := Int32.lt_iff_toInt_lt.mp hc27_7; rw [own_inc (by omega)]; omega) (by have q := Int32.lt_iff_toInt_lt.mp hc27_7; rw [own_inc (by omega)]; omega) (One.val rfl) ((own_vstep bs1 p3 li lr _ (by have q := Int32.lt_iff_toInt_lt.mp hc27_7; omega) hc27_7 hc20_6 ((if_neg (fun q => q.elim hc40_8 hc47_9)).trans (if_pos hc61_10)).symm).trans hq)
                ·
                  refine g_lcmpYes 72 X0 hx (hb hby d6_61) rfl (hb hby d6_62) (fltL hc61_10).2.2.2 (by decide) (by decide) ?_
                  refine g_lloadN 73 X0 hx (hb hby d6_72) rfl (v := lr) rfl ?_
                  refine g_ldc2 76 X0 hx hZ hown (hw _ (List.mem_of_getElem? (i := 47) rfl)) (hb hby d6_73) rfl ?_
                  refine g_lmul 77 X0 hx (hb hby d6_76) rfl (z := (lr * (10 : Int64))) rfl ?_
                  refine g_iload 79 X0 hx (hb hby d6_77) rfl (v := (bs1.getD li.toInt.toNat 0)) rfl ?_
                  refine g_i2l 80 X0 hx (hb hby d6_79) rfl (z := ((bs1.getD li.toInt.toNat 0).toInt64)) rfl ?_
                  refine g_ladd 81 X0 hx (hb hby d6_80) rfl (z := ((lr * (10 : Int64)) + ((bs1.getD li.toInt.toNat 0).toInt64))) rfl ?_
                  refine g_ldc2 84 X0 hx hZ hown (hw _ (List.mem_of_getElem? (i := 48) rfl)) (hb hby d6_81) rfl ?_
                  refine g_lsub 85 X0 hx (hb hby d6_84) rfl (z := (((lr * (10 : Int64)) + ((bs1.getD li.toInt.toNat 0).toInt64)) - (48 : Int64))) rfl ?_
                  refine g_lstoreN 86 X0 hx (hb hby d6_85) rfl (Ls' := #[.val (.ref a1), .val (.int p2), .val (.int p3), .val (.long (((lr * (10 : Int64)) + ((bs1.getD li.toInt.toNat 0).toInt64)) - (48 : Int64))), .second, .val (.int li), .val (.int (bs1.getD li.toInt.toNat 0))]) rfl ?_
                  refine g_iinc 89 X0 hx (hb hby d6_86) rfl (x := li) rfl (z := (li + (1 : Int32))) rfl (Ls' := #[.val (.ref a1), .val (.int p2), .val (.int p3), .val (.long (((lr * (10 : Int64)) + ((bs1.getD li.toInt.toNat 0).toInt64)) - (48 : Int64))), .second, .val (.int (li + (1 : Int32))), .val (.int (bs1.getD li.toInt.toNat 0))]) rfl ?_
                  refine g_goto 16 X0 hx (hb hby d6_89) (by decide) (by decide) ?_
                  exact ih (((lr * (10 : Int64)) + ((bs1.getD li.toInt.toNat 0).toInt64)) - (48 : Int64)) (li + (1 : Int32)) (.val (.int (bs1.getD li.toInt.toNat 0))) (by have q := Int32.lt_iff_toInt_lt.mp hc27_7; rw [own_inc (by omega)]; omega) (by have q := Int32.lt_iff_toInt_lt.mp hc27_7; rw [own_inc (by omega)]; omega) (One.val rfl) ((own_vstep bs1 p3 li lr _ (by have q := Int32.lt_iff_toInt_lt.mp hc27_7; omega) hc27_7 hc20_6 ((if_neg (fun q => q.elim hc40_8 hc47_9)).trans (if_neg hc61_10)).symm).trans hq)
          ·
            refine g_icmpYes 92 X0 hx (hb hby d6_27)  (flt hc27_7).2.1 (by decide) (by decide) ?_
            refine g_lloadN 93 X0 hx (hb hby d6_92) rfl (v := lr) rfl ?_
            exact g_retJ X0 hx Bd.returns hlk (hb hby d6_93) (by decide) (by decide) ⟨lr, rfl, (Or.inr ⟨hc2_0, (own_vend bs1 p3 li lr hc27_7).trans hq⟩), N0, e0⟩
    exact LOOP16 _ (0 : Int64) p2 (.unset) (Nat.lt_succ_self _) (by omega) One.u rfl
theorem pd_1 : parseMethodDescriptor "(JI)B" = some ⟨[.long, .int], some .byte⟩ := by decide +kernel
theorem pd_2 : parseMethodDescriptor "(B)Z" = some ⟨[.byte], some .boolean⟩ := by decide +kernel
theorem pd_3 : parseMethodDescriptor "(II)I" = some ⟨[.int, .int], some .int⟩ := by decide +kernel
theorem pd_4 : parseMethodDescriptor "([BII)J" = some ⟨[(.array .byte), .int, .int], some .long⟩ := by decide +kernel
theorem sub0_0 (q1 : Int64) (z1 : Int64) (hz1 : q1 &&& (9223372036854775807 : Int64) = z1) : 0 ≤ z1.toInt := by
  have o0 := rng64 q1
  have o1 := rng64 (q1 &&& (9223372036854775807 : Int64))
  have o2 := c_maskL q1 (9223372036854775807 : Int64) 63 (by decide) (by decide)
  have o3 := rng64 z1
  simp only [Int32.lt_iff_toInt_lt, Int64.lt_iff_toInt_lt, Int32.le_iff_toInt_le, Int64.le_iff_toInt_le, ← Int32.toInt_inj, ← Int64.toInt_inj, Int32.reduceToInt, Int64.reduceToInt, Int32.toInt_toInt64, ne_eq] at * <;> omega
theorem sub0_1 (p6 : Int32) (z5 : Int32) (z6 : Int32) (z7 : Int32) (hz5 : (p6.toUInt32 >>> ((8 : Int32) &&& 31).toUInt32).toInt32 = z5) (hz6 : z5 % (19 : Int32) = z6) (hz7 : (1 : Int32) + z6 = z7) : 1 ≤ z7.toInt ∧ z7.toInt ≤ 19 := by
  have o0 := rng32 p6
  have o1 := rng32 (p6.toUInt32 >>> ((8 : Int32) &&& 31).toUInt32).toInt32
  have o2 := c_iushr p6 (8 : Int32) 8 (by decide) (by decide)
  have o3 := rng32 z5
  have o4 := rng32 (z5 % (19 : Int32))
  have o5 := c_irem z5 (19 : Int32) 19 (by decide)
  have o6 := rng32 z6
  have o7 := rng32 ((1 : Int32) + z6)
  have o8 := c_iadd (1 : Int32) z6
  have o9 := rng32 z7
  simp only [Int32.lt_iff_toInt_lt, Int64.lt_iff_toInt_lt, Int32.le_iff_toInt_le, Int64.le_iff_toInt_le, ← Int32.toInt_inj, ← Int64.toInt_inj, Int32.reduceToInt, Int64.reduceToInt, Int32.toInt_toInt64, ne_eq] at * <;> omega
theorem sub0_2 (p2 : Int32) (p3 : Int32) (p6 : Int32) (z1 : Int64) (z2 : Int32) (z3 : Int32) (z4 : Int32) (z7 : Int32) (r13 : Int32) (r21 : Int32) (r29 : Int32) (r37 : Int32) (r45 : Int32) (r53 : Int32) (r61 : Int32) (r69 : Int32) (r77 : Int32) (r85 : Int32) (r93 : Int32) (r101 : Int32) (r109 : Int32) (r117 : Int32) (r125 : Int32) (r133 : Int32) (r141 : Int32) (r149 : Int32) (r157 : Int32) (r168 : Int32) (z170 : Int32) (F176 : List Int32) (hz2 : p2.toInt8.toInt32 = z2) (hz3 : p3.toInt8.toInt32 = z3) (hz4 : p6.toInt8.toInt32 = z4) (hPos : 1 ≤ z7.toInt ∧ z7.toInt ≤ 19) (hr13 : Rel1 z1 (18 : Int32) r13) (hr21 : Rel1 z1 (17 : Int32) r21) (hr29 : Rel1 z1 (16 : Int32) r29) (hr37 : Rel1 z1 (15 : Int32) r37) (hr45 : Rel1 z1 (14 : Int32) r45) (hr53 : Rel1 z1 (13 : Int32) r53) (hr61 : Rel1 z1 (12 : Int32) r61) (hr69 : Rel1 z1 (11 : Int32) r69) (hr77 : Rel1 z1 (10 : Int32) r77) (hr85 : Rel1 z1 (9 : Int32) r85) (hr93 : Rel1 z1 (8 : Int32) r93) (hr101 : Rel1 z1 (7 : Int32) r101) (hr109 : Rel1 z1 (6 : Int32) r109) (hr117 : Rel1 z1 (5 : Int32) r117) (hr125 : Rel1 z1 (4 : Int32) r125) (hr133 : Rel1 z1 (3 : Int32) r133) (hr141 : Rel1 z1 (2 : Int32) r141) (hr149 : Rel1 z1 (1 : Int32) r149) (hr157 : Rel1 z1 (0 : Int32) r157) (hr168 : Rel3 z4 r168) (hj171 : (r168 = (0 : Int32) ∧ z170 = (1 : Int32)) ∨ (¬ (r168 = (0 : Int32)) ∧ z170 = (0 : Int32))) (hJ177 : (z170 = (0 : Int32) ∧ F176 = [z2.toInt8.toInt32, r13.toInt8.toInt32, r21.toInt8.toInt32, r29.toInt8.toInt32, r37.toInt8.toInt32, r45.toInt8.toInt32, r53.toInt8.toInt32, r61.toInt8.toInt32, r69.toInt8.toInt32, r77.toInt8.toInt32, r85.toInt8.toInt32, r93.toInt8.toInt32, r101.toInt8.toInt32, r109.toInt8.toInt32, r117.toInt8.toInt32, r125.toInt8.toInt32, r133.toInt8.toInt32, r141.toInt8.toInt32, r149.toInt8.toInt32, r157.toInt8.toInt32, z3.toInt8.toInt32]) ∨ (¬ (z170 = (0 : Int32)) ∧ F176 = (List.set [z2.toInt8.toInt32, r13.toInt8.toInt32, r21.toInt8.toInt32, r29.toInt8.toInt32, r37.toInt8.toInt32, r45.toInt8.toInt32, r53.toInt8.toInt32, r61.toInt8.toInt32, r69.toInt8.toInt32, r77.toInt8.toInt32, r85.toInt8.toInt32, r93.toInt8.toInt32, r101.toInt8.toInt32, r109.toInt8.toInt32, r117.toInt8.toInt32, r125.toInt8.toInt32, r133.toInt8.toInt32, r141.toInt8.toInt32, r149.toInt8.toInt32, r157.toInt8.toInt32, z3.toInt8.toInt32] (z7.toInt.toNat) z4.toInt8.toInt32))) : own_F z1 F176 z2 z3 z7 z170 := by
  refine own_FF z1 [z2.toInt8.toInt32, r13.toInt8.toInt32, r21.toInt8.toInt32, r29.toInt8.toInt32, r37.toInt8.toInt32, r45.toInt8.toInt32, r53.toInt8.toInt32, r61.toInt8.toInt32, r69.toInt8.toInt32, r77.toInt8.toInt32, r85.toInt8.toInt32, r93.toInt8.toInt32, r101.toInt8.toInt32, r109.toInt8.toInt32, r117.toInt8.toInt32, r125.toInt8.toInt32, r133.toInt8.toInt32, r141.toInt8.toInt32, r149.toInt8.toInt32, r157.toInt8.toInt32, z3.toInt8.toInt32] F176 z2 z3 z7 z170 z4.toInt8.toInt32 hPos rfl (own_b88 _ _ hz2) (own_b88 _ _ hz3) ?_ ?_ hJ177
  · intro i h1 h2
    have : i = 1 ∨ i = 2 ∨ i = 3 ∨ i = 4 ∨ i = 5 ∨ i = 6 ∨ i = 7 ∨ i = 8 ∨ i = 9 ∨ i = 10 ∨ i = 11 ∨ i = 12 ∨ i = 13 ∨ i = 14 ∨ i = 15 ∨ i = 16 ∨ i = 17 ∨ i = 18 ∨ i = 19 := by omega
    rcases this with e | e | e | e | e | e | e | e | e | e | e | e | e | e | e | e | e | e | e
    · rw [e]; exact own_b8 r13 z1 18 (18 : Int32) rfl hr13
    · rw [e]; exact own_b8 r21 z1 17 (17 : Int32) rfl hr21
    · rw [e]; exact own_b8 r29 z1 16 (16 : Int32) rfl hr29
    · rw [e]; exact own_b8 r37 z1 15 (15 : Int32) rfl hr37
    · rw [e]; exact own_b8 r45 z1 14 (14 : Int32) rfl hr45
    · rw [e]; exact own_b8 r53 z1 13 (13 : Int32) rfl hr53
    · rw [e]; exact own_b8 r61 z1 12 (12 : Int32) rfl hr61
    · rw [e]; exact own_b8 r69 z1 11 (11 : Int32) rfl hr69
    · rw [e]; exact own_b8 r77 z1 10 (10 : Int32) rfl hr77
    · rw [e]; exact own_b8 r85 z1 9 (9 : Int32) rfl hr85
    · rw [e]; exact own_b8 r93 z1 8 (8 : Int32) rfl hr93
    · rw [e]; exact own_b8 r101 z1 7 (7 : Int32) rfl hr101
    · rw [e]; exact own_b8 r109 z1 6 (6 : Int32) rfl hr109
    · rw [e]; exact own_b8 r117 z1 5 (5 : Int32) rfl hr117
    · rw [e]; exact own_b8 r125 z1 4 (4 : Int32) rfl hr125
    · rw [e]; exact own_b8 r133 z1 3 (3 : Int32) rfl hr133
    · rw [e]; exact own_b8 r141 z1 2 (2 : Int32) rfl hr141
    · rw [e]; exact own_b8 r149 z1 1 (1 : Int32) rfl hr149
    · rw [e]; exact own_b8 r157 z1 0 (0 : Int32) rfl hr157
  · intro n
    rw [own_b88 _ _ hz4]
    rcases hj171 with ⟨u, v⟩ | ⟨u, v⟩
    · rcases hr168 with ⟨a, _⟩ | ⟨_, a, _⟩ | ⟨_, _, a⟩
      · exact Or.inl a
      · exact Or.inr a
      · rw [a] at u; exact absurd u (by decide)
    · exact absurd v n
theorem sub0_3 (p4 : Int32) (p5 : Int32) (z181 : Int32) (z182 : Int32) (z183 : Int32) (z184 : Int32) (r185 : Int32) (r186 : Int32) (hz181 : p4 &&& (2147483647 : Int32) = z181) (hz182 : z181 % (22 : Int32) = z182) (hz183 : p5 &&& (2147483647 : Int32) = z183) (hz184 : z183 % (22 : Int32) = z184) (hr185 : Rel4 z182 z184 r185) (hr186 : Rel5 z182 z184 r186) : 0 ≤ r185.toInt ∧ r185.toInt ≤ r186.toInt ∧ r186.toInt ≤ 21 := by
  simp only [Rel4] at hr185
  simp only [Rel5] at hr186
  have o0 := rng32 p4
  have o1 := rng32 (p4 &&& (2147483647 : Int32))
  have o2 := c_mask p4 (2147483647 : Int32) 31 (by decide) (by decide)
  have o3 := rng32 z181
  have o4 := rng32 (z181 % (22 : Int32))
  have o5 := c_irem z181 (22 : Int32) 22 (by decide)
  have o6 := rng32 z182
  have o7 := rng32 p5
  have o8 := rng32 (p5 &&& (2147483647 : Int32))
  have o9 := c_mask p5 (2147483647 : Int32) 31 (by decide) (by decide)
  have o10 := rng32 z183
  have o11 := rng32 (z183 % (22 : Int32))
  have o12 := c_irem z183 (22 : Int32) 22 (by decide)
  have o13 := rng32 z184
  have o14 := rng32 r185
  have o15 := rng32 r186
  simp only [Int32.lt_iff_toInt_lt, Int64.lt_iff_toInt_lt, Int32.le_iff_toInt_le, Int64.le_iff_toInt_le, ← Int32.toInt_inj, ← Int64.toInt_inj, Int32.reduceToInt, Int64.reduceToInt, Int32.toInt_toInt64, ne_eq] at * <;> omega
theorem sub0_4 (z2 : Int32) (z3 : Int32) (z7 : Int32) (z170 : Int32) (r185 : Int32) (r186 : Int32) (z195 : Int32) (z198 : Int32) (z221 : Int32) (hj196 : (r185 = (0 : Int32) ∧ z195 = (1 : Int32)) ∨ (¬ (r185 = (0 : Int32)) ∧ z195 = (0 : Int32))) (hj199 : (r186 = (21 : Int32) ∧ z198 = (1 : Int32)) ∨ (¬ (r186 = (21 : Int32)) ∧ z198 = (0 : Int32))) (hJ222 : (z195 = (0 : Int32) ∧ z198 = (0 : Int32) ∧ z170 = (0 : Int32) ∧ z221 = (0 : Int32)) ∨ (z195 = (0 : Int32) ∧ z198 = (0 : Int32) ∧ ¬ (z170 = (0 : Int32)) ∧ z7 < r185 ∧ z221 = (0 : Int32)) ∨ (z195 = (0 : Int32) ∧ z198 = (0 : Int32) ∧ ¬ (z170 = (0 : Int32)) ∧ ¬ (z7 < r185) ∧ z7 < r186 ∧ z221 = (1 : Int32)) ∨ (z195 = (0 : Int32) ∧ z198 = (0 : Int32) ∧ ¬ (z170 = (0 : Int32)) ∧ ¬ (z7 < r185) ∧ ¬ (z7 < r186) ∧ z221 = (0 : Int32)) ∨ (∃ (r205 : Int32), z195 = (0 : Int32) ∧ ¬ (z198 = (0 : Int32)) ∧ Rel3 z3 r205 ∧ r205 = (0 : Int32) ∧ z221 = (1 : Int32)) ∨ (∃ (r205 : Int32), z195 = (0 : Int32) ∧ ¬ (z198 = (0 : Int32)) ∧ Rel3 z3 r205 ∧ ¬ (r205 = (0 : Int32)) ∧ z170 = (0 : Int32) ∧ z221 = (0 : Int32)) ∨ (∃ (r205 : Int32), z195 = (0 : Int32) ∧ ¬ (z198 = (0 : Int32)) ∧ Rel3 z3 r205 ∧ ¬ (r205 = (0 : Int32)) ∧ ¬ (z170 = (0 : Int32)) ∧ z7 < r185 ∧ z221 = (0 : Int32)) ∨ (∃ (r205 : Int32), z195 = (0 : Int32) ∧ ¬ (z198 = (0 : Int32)) ∧ Rel3 z3 r205 ∧ ¬ (r205 = (0 : Int32)) ∧ ¬ (z170 = (0 : Int32)) ∧ ¬ (z7 < r185) ∧ z7 < r186 ∧ z221 = (1 : Int32)) ∨ (∃ (r205 : Int32), z195 = (0 : Int32) ∧ ¬ (z198 = (0 : Int32)) ∧ Rel3 z3 r205 ∧ ¬ (r205 = (0 : Int32)) ∧ ¬ (z170 = (0 : Int32)) ∧ ¬ (z7 < r185) ∧ ¬ (z7 < r186) ∧ z221 = (0 : Int32)) ∨ (∃ (r210 : Int32), ¬ (z195 = (0 : Int32)) ∧ Rel3 z2 r210 ∧ r210 = (0 : Int32) ∧ z221 = (1 : Int32)) ∨ (∃ (r210 : Int32), ¬ (z195 = (0 : Int32)) ∧ Rel3 z2 r210 ∧ ¬ (r210 = (0 : Int32)) ∧ z198 = (0 : Int32) ∧ z170 = (0 : Int32) ∧ z221 = (0 : Int32)) ∨ (∃ (r210 : Int32), ¬ (z195 = (0 : Int32)) ∧ Rel3 z2 r210 ∧ ¬ (r210 = (0 : Int32)) ∧ z198 = (0 : Int32) ∧ ¬ (z170 = (0 : Int32)) ∧ z7 < r185 ∧ z221 = (0 : Int32)) ∨ (∃ (r210 : Int32), ¬ (z195 = (0 : Int32)) ∧ Rel3 z2 r210 ∧ ¬ (r210 = (0 : Int32)) ∧ z198 = (0 : Int32) ∧ ¬ (z170 = (0 : Int32)) ∧ ¬ (z7 < r185) ∧ z7 < r186 ∧ z221 = (1 : Int32)) ∨ (∃ (r210 : Int32), ¬ (z195 = (0 : Int32)) ∧ Rel3 z2 r210 ∧ ¬ (r210 = (0 : Int32)) ∧ z198 = (0 : Int32) ∧ ¬ (z170 = (0 : Int32)) ∧ ¬ (z7 < r185) ∧ ¬ (z7 < r186) ∧ z221 = (0 : Int32)) ∨ (∃ (r210 : Int32) (r216 : Int32), ¬ (z195 = (0 : Int32)) ∧ Rel3 z2 r210 ∧ ¬ (r210 = (0 : Int32)) ∧ ¬ (z198 = (0 : Int32)) ∧ Rel3 z3 r216 ∧ r216 = (0 : Int32) ∧ z221 = (1 : Int32)) ∨ (∃ (r210 : Int32) (r216 : Int32), ¬ (z195 = (0 : Int32)) ∧ Rel3 z2 r210 ∧ ¬ (r210 = (0 : Int32)) ∧ ¬ (z198 = (0 : Int32)) ∧ Rel3 z3 r216 ∧ ¬ (r216 = (0 : Int32)) ∧ z170 = (0 : Int32) ∧ z221 = (0 : Int32)) ∨ (∃ (r210 : Int32) (r216 : Int32), ¬ (z195 = (0 : Int32)) ∧ Rel3 z2 r210 ∧ ¬ (r210 = (0 : Int32)) ∧ ¬ (z198 = (0 : Int32)) ∧ Rel3 z3 r216 ∧ ¬ (r216 = (0 : Int32)) ∧ ¬ (z170 = (0 : Int32)) ∧ z7 < r185 ∧ z221 = (0 : Int32)) ∨ (∃ (r210 : Int32) (r216 : Int32), ¬ (z195 = (0 : Int32)) ∧ Rel3 z2 r210 ∧ ¬ (r210 = (0 : Int32)) ∧ ¬ (z198 = (0 : Int32)) ∧ Rel3 z3 r216 ∧ ¬ (r216 = (0 : Int32)) ∧ ¬ (z170 = (0 : Int32)) ∧ ¬ (z7 < r185) ∧ z7 < r186 ∧ z221 = (1 : Int32)) ∨ (∃ (r210 : Int32) (r216 : Int32), ¬ (z195 = (0 : Int32)) ∧ Rel3 z2 r210 ∧ ¬ (r210 = (0 : Int32)) ∧ ¬ (z198 = (0 : Int32)) ∧ Rel3 z3 r216 ∧ ¬ (r216 = (0 : Int32)) ∧ ¬ (z170 = (0 : Int32)) ∧ ¬ (z7 < r185) ∧ ¬ (z7 < r186) ∧ z221 = (0 : Int32))) : own_ok z2 z3 r185 r186 z7 z170 z221 := by
  rcases hJ222 with ⟨k0, k1, k2, k3⟩ | ⟨k0, k1, k2, k3, k4⟩ | ⟨k0, k1, k2, k3, k4, k5⟩ | ⟨k0, k1, k2, k3, k4, k5⟩ | ⟨r205, k0, k1, k2, k3, k4⟩ | ⟨r205, k0, k1, k2, k3, k4, k5⟩ | ⟨r205, k0, k1, k2, k3, k4, k5, k6⟩ | ⟨r205, k0, k1, k2, k3, k4, k5, k6, k7⟩ | ⟨r205, k0, k1, k2, k3, k4, k5, k6, k7⟩ | ⟨r210, k0, k1, k2, k3⟩ | ⟨r210, k0, k1, k2, k3, k4, k5⟩ | ⟨r210, k0, k1, k2, k3, k4, k5, k6⟩ | ⟨r210, k0, k1, k2, k3, k4, k5, k6, k7⟩ | ⟨r210, k0, k1, k2, k3, k4, k5, k6, k7⟩ | ⟨r210, r216, k0, k1, k2, k3, k4, k5, k6⟩ | ⟨r210, r216, k0, k1, k2, k3, k4, k5, k6, k7⟩ | ⟨r210, r216, k0, k1, k2, k3, k4, k5, k6, k7, k8⟩ | ⟨r210, r216, k0, k1, k2, k3, k4, k5, k6, k7, k8, k9⟩ | ⟨r210, r216, k0, k1, k2, k3, k4, k5, k6, k7, k8, k9⟩
  · exact Or.inl ⟨k3, fun e => absurd e ((own_yes _ _ hj196).1 k0), fun e => absurd e ((own_yes _ _ hj199).1 k1), Or.inl k2⟩
  · exact Or.inl ⟨k4, fun e => absurd e ((own_yes _ _ hj196).1 k0), fun e => absurd e ((own_yes _ _ hj199).1 k1), Or.inr (Or.inl k3)⟩
  · exact Or.inr ⟨fun e => absurd (k5.symm.trans e) (by decide), Or.inr (Or.inr ⟨k2, k3, k4⟩)⟩
  · exact Or.inl ⟨k5, fun e => absurd e ((own_yes _ _ hj196).1 k0), fun e => absurd e ((own_yes _ _ hj199).1 k1), Or.inr (Or.inr k4)⟩
  · exact Or.inr ⟨fun e => absurd (k4.symm.trans e) (by decide), Or.inr (Or.inl ⟨(own_yes _ _ hj199).2 k1, (own_d3 _ _ k2).1 k3⟩)⟩
  · exact Or.inl ⟨k5, fun e => absurd e ((own_yes _ _ hj196).1 k0), fun _ => (own_d3 _ _ k2).2 k3, Or.inl k4⟩
  · exact Or.inl ⟨k6, fun e => absurd e ((own_yes _ _ hj196).1 k0), fun _ => (own_d3 _ _ k2).2 k3, Or.inr (Or.inl k5)⟩
  · exact Or.inr ⟨fun e => absurd (k7.symm.trans e) (by decide), Or.inr (Or.inr ⟨k4, k5, k6⟩)⟩
  · exact Or.inl ⟨k7, fun e => absurd e ((own_yes _ _ hj196).1 k0), fun _ => (own_d3 _ _ k2).2 k3, Or.inr (Or.inr k6)⟩
  · exact Or.inr ⟨fun e => absurd (k3.symm.trans e) (by decide), Or.inl ⟨(own_yes _ _ hj196).2 k0, (own_d3 _ _ k1).1 k2⟩⟩
  · exact Or.inl ⟨k5, fun _ => (own_d3 _ _ k1).2 k2, fun e => absurd e ((own_yes _ _ hj199).1 k3), Or.inl k4⟩
  · exact Or.inl ⟨k6, fun _ => (own_d3 _ _ k1).2 k2, fun e => absurd e ((own_yes _ _ hj199).1 k3), Or.inr (Or.inl k5)⟩
  · exact Or.inr ⟨fun e => absurd (k7.symm.trans e) (by decide), Or.inr (Or.inr ⟨k4, k5, k6⟩)⟩
  · exact Or.inl ⟨k7, fun _ => (own_d3 _ _ k1).2 k2, fun e => absurd e ((own_yes _ _ hj199).1 k3), Or.inr (Or.inr k6)⟩
  · exact Or.inr ⟨fun e => absurd (k6.symm.trans e) (by decide), Or.inr (Or.inl ⟨(own_yes _ _ hj199).2 k3, (own_d3 _ _ k4).1 k5⟩)⟩
  · exact Or.inl ⟨k7, fun _ => (own_d3 _ _ k1).2 k2, fun _ => (own_d3 _ _ k4).2 k5, Or.inl k6⟩
  · exact Or.inl ⟨k8, fun _ => (own_d3 _ _ k1).2 k2, fun _ => (own_d3 _ _ k4).2 k5, Or.inr (Or.inl k7)⟩
  · exact Or.inr ⟨fun e => absurd (k9.symm.trans e) (by decide), Or.inr (Or.inr ⟨k6, k7, k8⟩)⟩
  · exact Or.inl ⟨k9, fun _ => (own_d3 _ _ k1).2 k2, fun _ => (own_d3 _ _ k4).2 k5, Or.inr (Or.inr k8)⟩
theorem sub0_5 (r185 : Int32) (r186 : Int32) (r244 : Int32) (z245 : Int32) (r246 : Int32) (z247 : Int32) (z248 : Int32) (r249 : Int32) (hft : 0 ≤ r185.toInt ∧ r185.toInt ≤ r186.toInt ∧ r186.toInt ≤ 21) (hr244 : Rel5 r185 (1 : Int32) r244) (hz245 : r244 - (1 : Int32) = z245) (hr246 : Rel4 r186 (20 : Int32) r246) (hz247 : r246 - (1 : Int32) = z247) (hz248 : z247 - z245 = z248) (hr249 : Rel5 (0 : Int32) z248 r249) : r249.toInt = max 0 (min r186.toInt 20 - max r185.toInt 1) := by
  simp only [Rel5] at hr244
  simp only [Rel4] at hr246
  simp only [Rel5] at hr249
  have o0 := rng32 r185
  have o1 := rng32 r244
  have o2 := rng32 (r244 - (1 : Int32))
  have o3 := c_isub r244 (1 : Int32)
  have o4 := rng32 z245
  have o5 := rng32 r186
  have o6 := rng32 r246
  have o7 := rng32 (r246 - (1 : Int32))
  have o8 := c_isub r246 (1 : Int32)
  have o9 := rng32 z247
  have o10 := rng32 (z247 - z245)
  have o11 := c_isub z247 z245
  have o12 := rng32 z248
  have o13 := rng32 r249
  simp only [Int32.lt_iff_toInt_lt, Int64.lt_iff_toInt_lt, Int32.le_iff_toInt_le, Int64.le_iff_toInt_le, ← Int32.toInt_inj, ← Int64.toInt_inj, Int32.reduceToInt, Int64.reduceToInt, Int32.toInt_toInt64, ne_eq] at * <;> omega
theorem sub0_6 (r185 : Int32) (r186 : Int32) (r244 : Int32) (z245 : Int32) (r246 : Int32) (z247 : Int32) (z248 : Int32) (r249 : Int32) (hft : 0 ≤ r185.toInt ∧ r185.toInt ≤ r186.toInt ∧ r186.toInt ≤ 21) (hr244 : Rel5 r185 (1 : Int32) r244) (hz245 : r244 - (1 : Int32) = z245) (hr246 : Rel4 r186 (20 : Int32) r246) (hz247 : r246 - (1 : Int32) = z247) (hz248 : z247 - z245 = z248) (hr249 : Rel5 (0 : Int32) z248 r249) : z247.toInt = min r186.toInt 20 - 1 := by
  simp only [Rel5] at hr244
  simp only [Rel4] at hr246
  simp only [Rel5] at hr249
  have o0 := rng32 r185
  have o1 := rng32 r244
  have o2 := rng32 (r244 - (1 : Int32))
  have o3 := c_isub r244 (1 : Int32)
  have o4 := rng32 z245
  have o5 := rng32 r186
  have o6 := rng32 r246
  have o7 := rng32 (r246 - (1 : Int32))
  have o8 := c_isub r246 (1 : Int32)
  have o9 := rng32 z247
  have o10 := rng32 (z247 - z245)
  have o11 := c_isub z247 z245
  have o12 := rng32 z248
  have o13 := rng32 r249
  simp only [Int32.lt_iff_toInt_lt, Int64.lt_iff_toInt_lt, Int32.le_iff_toInt_le, Int64.le_iff_toInt_le, ← Int32.toInt_inj, ← Int64.toInt_inj, Int32.reduceToInt, Int64.reduceToInt, Int32.toInt_toInt64, ne_eq] at * <;> omega
theorem sub0_7 (z1 : Int64) (r185 : Int32) (r186 : Int32) (z247 : Int32) (r249 : Int32) (hM : 0 ≤ z1.toInt) (hft : 0 ≤ r185.toInt ∧ r185.toInt ≤ r186.toInt ∧ r186.toInt ≤ 21) (hN : r249.toInt = max 0 (min r186.toInt 20 - max r185.toInt 1)) (hN2 : z247.toInt = min r186.toInt 20 - 1) (hc484_249 : r249 = (0 : Int32)) : (0 : Int64).toInt = ((own_R z1.toInt.toNat r185.toInt.toNat r186.toInt.toNat : Nat) : Int) := by
  rw [hc484_249] at hN; simp only [Int32.reduceToInt] at hN
  rw [own_R0 _ _ _ (by unfold own_n; omega)]; rfl
theorem sub0_8 (r185 : Int32) (r186 : Int32) (z198 : Int32) (r249 : Int32) (z252 : Int32) (z261 : Int32) (z263 : Int32) (hft : 0 ≤ r185.toInt ∧ r185.toInt ≤ r186.toInt ∧ r186.toInt ≤ 21) (hN : r249.toInt = max 0 (min r186.toInt 20 - max r185.toInt 1)) (hj253 : (z198 = (0 : Int32) ∧ z252 = (0 : Int32)) ∨ (¬ (z198 = (0 : Int32)) ∧ z252 = (1 : Int32))) (hz261 : r249 + z252 = z261) (hc586_261 : z261 < (18 : Int32)) (hz263 : r249 + z252 = z263) : 0 ≤ z263.toInt ∧ z263.toInt ≤ 17 ∧ z263.toInt = r249.toInt + z252.toInt := by
  have o0 := rng32 z198
  have o1 := rng32 z252
  have o2 := rng32 r249
  have o3 := rng32 (r249 + z252)
  have o4 := c_iadd r249 z252
  have o5 := rng32 z261
  have o6 := rng32 z263
  have o7 := rng32 r185
  have o8 := rng32 r186
  simp only [Int32.lt_iff_toInt_lt, Int64.lt_iff_toInt_lt, Int32.le_iff_toInt_le, Int64.le_iff_toInt_le, ← Int32.toInt_inj, ← Int64.toInt_inj, Int32.reduceToInt, Int64.reduceToInt, Int32.toInt_toInt64, ne_eq] at * <;> omega
theorem sub0_9 (z198 : Int32) (z252 : Int32) (hj253 : (z198 = (0 : Int32) ∧ z252 = (0 : Int32)) ∨ (¬ (z198 = (0 : Int32)) ∧ z252 = (1 : Int32))) : 0 ≤ z252.toInt ∧ z252.toInt ≤ 18 := by
  have o0 := rng32 z198
  have o1 := rng32 z252
  simp only [Int32.lt_iff_toInt_lt, Int64.lt_iff_toInt_lt, Int32.le_iff_toInt_le, Int64.le_iff_toInt_le, ← Int32.toInt_inj, ← Int64.toInt_inj, Int32.reduceToInt, Int64.reduceToInt, Int32.toInt_toInt64, ne_eq] at * <;> omega
theorem sub0_10 (z1 : Int64) (r185 : Int32) (r186 : Int32) (z247 : Int32) (r249 : Int32) (hM : 0 ≤ z1.toInt) (hft : 0 ≤ r185.toInt ∧ r185.toInt ≤ r186.toInt ∧ r186.toInt ≤ 21) (hN : r249.toInt = max 0 (min r186.toInt 20 - max r185.toInt 1)) (hN2 : z247.toInt = min r186.toInt 20 - 1) (hc484_249 : ¬ (r249 = (0 : Int32))) (hc497_287 : r249 = (19 : Int32)) : z1.toInt = ((own_R z1.toInt.toNat r185.toInt.toNat r186.toInt.toNat : Nat) : Int) := by
  rw [hc497_287] at hN; simp only [Int32.reduceToInt] at hN
  have q := rng64 z1
  rw [own_R19 _ _ _ (by unfold own_n; omega) (by omega)]; omega
theorem sub0_11 (r185 : Int32) (r186 : Int32) (z198 : Int32) (r249 : Int32) (z290 : Int32) (z299 : Int32) (z301 : Int32) (hft : 0 ≤ r185.toInt ∧ r185.toInt ≤ r186.toInt ∧ r186.toInt ≤ 21) (hN : r249.toInt = max 0 (min r186.toInt 20 - max r185.toInt 1)) (hj291 : (z198 = (0 : Int32) ∧ z290 = (0 : Int32)) ∨ (¬ (z198 = (0 : Int32)) ∧ z290 = (1 : Int32))) (hz299 : r249 + z290 = z299) (hc586_299 : z299 < (18 : Int32)) (hz301 : r249 + z290 = z301) : 0 ≤ z301.toInt ∧ z301.toInt ≤ 17 ∧ z301.toInt = r249.toInt + z290.toInt := by
  have o0 := rng32 z198
  have o1 := rng32 z290
  have o2 := rng32 r249
  have o3 := rng32 (r249 + z290)
  have o4 := c_iadd r249 z290
  have o5 := rng32 z299
  have o6 := rng32 z301
  have o7 := rng32 r185
  have o8 := rng32 r186
  simp only [Int32.lt_iff_toInt_lt, Int64.lt_iff_toInt_lt, Int32.le_iff_toInt_le, Int64.le_iff_toInt_le, ← Int32.toInt_inj, ← Int64.toInt_inj, Int32.reduceToInt, Int64.reduceToInt, Int32.toInt_toInt64, ne_eq] at * <;> omega
theorem sub0_12 (z198 : Int32) (z290 : Int32) (hj291 : (z198 = (0 : Int32) ∧ z290 = (0 : Int32)) ∨ (¬ (z198 = (0 : Int32)) ∧ z290 = (1 : Int32))) : 0 ≤ z290.toInt ∧ z290.toInt ≤ 18 := by
  have o0 := rng32 z198
  have o1 := rng32 z290
  simp only [Int32.lt_iff_toInt_lt, Int64.lt_iff_toInt_lt, Int32.le_iff_toInt_le, Int64.le_iff_toInt_le, ← Int32.toInt_inj, ← Int64.toInt_inj, Int32.reduceToInt, Int64.reduceToInt, Int32.toInt_toInt64, ne_eq] at * <;> omega
theorem sub0_13 (r185 : Int32) (r186 : Int32) (z247 : Int32) (r249 : Int32) (z328 : Int32) (hft : 0 ≤ r185.toInt ∧ r185.toInt ≤ r186.toInt ∧ r186.toInt ≤ 21) (hN : r249.toInt = max 0 (min r186.toInt 20 - max r185.toInt 1)) (hN2 : z247.toInt = min r186.toInt 20 - 1) (hc484_249 : ¬ (r249 = (0 : Int32))) (hc497_287 : ¬ (r249 = (19 : Int32))) (hz328 : (19 : Int32) - z247 = z328) : 0 ≤ z328.toInt ∧ z328.toInt ≤ 18 := by
  have o0 := rng32 r249
  have o1 := rng32 z247
  have o2 := rng32 ((19 : Int32) - z247)
  have o3 := c_isub (19 : Int32) z247
  have o4 := rng32 z328
  have o5 := rng32 r185
  have o6 := rng32 r186
  simp only [Int32.lt_iff_toInt_lt, Int64.lt_iff_toInt_lt, Int32.le_iff_toInt_le, Int64.le_iff_toInt_le, ← Int32.toInt_inj, ← Int64.toInt_inj, Int32.reduceToInt, Int64.reduceToInt, Int32.toInt_toInt64, ne_eq] at * <;> omega
theorem sub0_14 (r185 : Int32) (r186 : Int32) (r249 : Int32) (hft : 0 ≤ r185.toInt ∧ r185.toInt ≤ r186.toInt ∧ r186.toInt ≤ 21) (hN : r249.toInt = max 0 (min r186.toInt 20 - max r185.toInt 1)) (hc484_249 : ¬ (r249 = (0 : Int32))) (hc497_287 : ¬ (r249 = (19 : Int32))) : 0 ≤ r249.toInt ∧ r249.toInt ≤ 18 := by
  have o0 := rng32 r249
  have o1 := rng32 r185
  have o2 := rng32 r186
  simp only [Int32.lt_iff_toInt_lt, Int64.lt_iff_toInt_lt, Int32.le_iff_toInt_le, Int64.le_iff_toInt_le, ← Int32.toInt_inj, ← Int64.toInt_inj, Int32.reduceToInt, Int64.reduceToInt, Int32.toInt_toInt64, ne_eq] at * <;> omega
theorem sub0_15 (z1 : Int64) (r185 : Int32) (r186 : Int32) (z247 : Int32) (r249 : Int32) (z328 : Int32) (r329 : Int64) (z334 : Int64) (r335 : Int64) (z340 : Int64) (hM : 0 ≤ z1.toInt) (hft : 0 ≤ r185.toInt ∧ r185.toInt ≤ r186.toInt ∧ r186.toInt ≤ 21) (hN : r249.toInt = max 0 (min r186.toInt 20 - max r185.toInt 1)) (hN2 : z247.toInt = min r186.toInt 20 - 1) (hc484_249 : ¬ (r249 = (0 : Int32))) (hc497_287 : ¬ (r249 = (19 : Int32))) (hz328 : (19 : Int32) - z247 = z328) (hK1 : 0 ≤ z328.toInt ∧ z328.toInt ≤ 18) (hr329 : Rel2 z328 r329) (hz334 : z1 / r329 = z334) (hK2 : 0 ≤ r249.toInt ∧ r249.toInt ≤ 18) (hr335 : Rel2 r249 r335) (hz340 : z334 % r335 = z340) : z340.toInt = ((own_R z1.toInt.toNat r185.toInt.toNat r186.toInt.toNat : Nat) : Int) := by
  have u := own_divp _ _ _ _ (by omega) hM hr329 hz334
  have v := own_remp _ _ _ _ (by omega) (by rw [u]; exact Int.natCast_nonneg _) hr335 hz340
  have w1 := c_isub (19 : Int32) z247
  have w2 := rng32 ((19 : Int32) - z247)
  simp only [Int32.reduceToInt] at w1
  rw [hz328] at w1 w2
  rw [v, u, Int.toNat_natCast]
  unfold own_R
  rw [show r249.toInt.toNat = own_n r185.toInt.toNat r186.toInt.toNat by unfold own_n; omega, show z328.toInt.toNat = 20 - min r186.toInt.toNat 20 by omega]
theorem sub0_16 (r185 : Int32) (r186 : Int32) (z198 : Int32) (r249 : Int32) (z342 : Int32) (z351 : Int32) (z353 : Int32) (hft : 0 ≤ r185.toInt ∧ r185.toInt ≤ r186.toInt ∧ r186.toInt ≤ 21) (hN : r249.toInt = max 0 (min r186.toInt 20 - max r185.toInt 1)) (hj343 : (z198 = (0 : Int32) ∧ z342 = (0 : Int32)) ∨ (¬ (z198 = (0 : Int32)) ∧ z342 = (1 : Int32))) (hz351 : r249 + z342 = z351) (hc586_351 : z351 < (18 : Int32)) (hz353 : r249 + z342 = z353) : 0 ≤ z353.toInt ∧ z353.toInt ≤ 17 ∧ z353.toInt = r249.toInt + z342.toInt := by
  have o0 := rng32 z198
  have o1 := rng32 z342
  have o2 := rng32 r249
  have o3 := rng32 (r249 + z342)
  have o4 := c_iadd r249 z342
  have o5 := rng32 z351
  have o6 := rng32 z353
  have o7 := rng32 r185
  have o8 := rng32 r186
  simp only [Int32.lt_iff_toInt_lt, Int64.lt_iff_toInt_lt, Int32.le_iff_toInt_le, Int64.le_iff_toInt_le, ← Int32.toInt_inj, ← Int64.toInt_inj, Int32.reduceToInt, Int64.reduceToInt, Int32.toInt_toInt64, ne_eq] at * <;> omega
theorem sub0_17 (z198 : Int32) (z342 : Int32) (hj343 : (z198 = (0 : Int32) ∧ z342 = (0 : Int32)) ∨ (¬ (z198 = (0 : Int32)) ∧ z342 = (1 : Int32))) : 0 ≤ z342.toInt ∧ z342.toInt ≤ 18 := by
  have o0 := rng32 z198
  have o1 := rng32 z342
  simp only [Int32.lt_iff_toInt_lt, Int64.lt_iff_toInt_lt, Int32.le_iff_toInt_le, Int64.le_iff_toInt_le, ← Int32.toInt_inj, ← Int64.toInt_inj, Int32.reduceToInt, Int64.reduceToInt, Int32.toInt_toInt64, ne_eq] at * <;> omega
theorem leaf_0 (q1 : Int64) (p2 : Int32) (p3 : Int32) (p4 : Int32) (p5 : Int32) (p6 : Int32) (z1 : Int64) (z2 : Int32) (z3 : Int32) (z4 : Int32) (z7 : Int32) (z170 : Int32) (F176 : List Int32) (z182 : Int32) (z184 : Int32) (r185 : Int32) (r186 : Int32) (r187 : Int64) (z192 : Int32) (hM : 0 ≤ z1.toInt) (hPos : 1 ≤ z7.toInt ∧ z7.toInt ≤ 19) (hF : own_F z1 F176 z2 z3 z7 z170) (hft : 0 ≤ r185.toInt ∧ r185.toInt ≤ r186.toInt ∧ r186.toInt ≤ 21) (hr187 : Rel6 r185 r186 F176 r187) (hc348_189 : r185 = r186) (hj193 : (r187 = (-1 : Int64) ∧ z192 = (1 : Int32)) ∨ (¬ (r187 = (-1 : Int64)) ∧ z192 = (0 : Int32))) : z192 = 1 := by
  have E : r187 = (-1 : Int64) := by
    rcases hr187 with ⟨_, e⟩ | ⟨e, _⟩
    · exact e
    · exact absurd hc348_189.symm e
  rcases hj193 with ⟨u, v⟩ | ⟨u, v⟩
  · exact v
  · exact absurd E u
theorem leaf_1 (q1 : Int64) (p2 : Int32) (p3 : Int32) (p4 : Int32) (p5 : Int32) (p6 : Int32) (z1 : Int64) (z2 : Int32) (z3 : Int32) (z4 : Int32) (z7 : Int32) (z170 : Int32) (F176 : List Int32) (z182 : Int32) (z184 : Int32) (r185 : Int32) (r186 : Int32) (r187 : Int64) (z195 : Int32) (z198 : Int32) (z221 : Int32) (z245 : Int32) (z247 : Int32) (r249 : Int32) (z252 : Int32) (z255 : Int64) (z258 : Int64) (z261 : Int32) (z263 : Int32) (r264 : Int64) (z268 : Int64) (r269 : Int64) (z273 : Int64) (z274 : Int64) (z275 : Int64) (z277 : Int32) (hM : 0 ≤ z1.toInt) (hft : 0 ≤ r185.toInt ∧ r185.toInt ≤ r186.toInt ∧ r186.toInt ≤ 21) (hc348_189 : ¬ (r185 = r186)) (hj196 : (r185 = (0 : Int32) ∧ z195 = (1 : Int32)) ∨ (¬ (r185 = (0 : Int32)) ∧ z195 = (0 : Int32))) (hj199 : (r186 = (21 : Int32) ∧ z198 = (1 : Int32)) ∨ (¬ (r186 = (21 : Int32)) ∧ z198 = (0 : Int32))) (hB : own_B z1 z2 z3 r185 r186 r187 z221) (hc439_242 : z221 = (0 : Int32)) (hN : r249.toInt = max 0 (min r186.toInt 20 - max r185.toInt 1)) (hR : (0 : Int64).toInt = ((own_R z1.toInt.toNat r185.toInt.toNat r186.toInt.toNat : Nat) : Int)) (hj253 : (z198 = (0 : Int32) ∧ z252 = (0 : Int32)) ∨ (¬ (z198 = (0 : Int32)) ∧ z252 = (1 : Int32))) (hj256 : (z198 = (0 : Int32) ∧ z255 = (0 : Int64)) ∨ (¬ (z198 = (0 : Int32)) ∧ z255 = ((z3 - (48 : Int32)).toInt64))) (hj259 : (z195 = (0 : Int32) ∧ z258 = (0 : Int64)) ∨ (¬ (z195 = (0 : Int32)) ∧ z258 = ((z2 - (48 : Int32)).toInt64))) (hc575_259 : (0 : Int64) < z258) (hz261 : r249 + z252 = z261) (hc586_261 : z261 < (18 : Int32)) (hz263 : r249 + z252 = z263) (hK3 : 0 ≤ z263.toInt ∧ z263.toInt ≤ 17 ∧ z263.toInt = r249.toInt + z252.toInt) (hr264 : Rel2 z263 r264) (hz268 : z258 * r264 = z268) (hK4 : 0 ≤ z252.toInt ∧ z252.toInt ≤ 18) (hr269 : Rel2 z252 r269) (hz273 : (0 : Int64) * r269 = z273) (hz274 : z268 + z273 = z274) (hz275 : z274 + z255 = z275) (hj278 : (r187 = z275 ∧ z277 = (1 : Int32)) ∨ (¬ (r187 = z275) ∧ z277 = (0 : Int32))) : z277 = 1 := by
  obtain ⟨T, D, C, n, R, a1, a2, a3, a4, a5, a6, a7, a8, a9, b1, b2, b3⟩ := own_norm z1 z2 z3 r185 r186 z221 z195 z198 r249 z252 r187 z258 z255 (0 : Int64) hft hB hc439_242 hj196 hj199 hN hR hj253 hj256 hj259
  have E := own_nA r187 z258 z255 (0 : Int64) _ _ r249 z252 z263 T D C n R a1 a2 a3 a5 a6 a7 a8 a9 b1 b2 b3 hK3.2.2 (by omega) hr264 hr269
  rw [hz268, hz273, hz274, hz275] at E
  rcases hj278 with ⟨u, v⟩ | ⟨u, v⟩
  · exact v
  · exact absurd E u
theorem leaf_2 (q1 : Int64) (p2 : Int32) (p3 : Int32) (p4 : Int32) (p5 : Int32) (p6 : Int32) (z1 : Int64) (z2 : Int32) (z3 : Int32) (z4 : Int32) (z7 : Int32) (z170 : Int32) (F176 : List Int32) (z182 : Int32) (z184 : Int32) (r185 : Int32) (r186 : Int32) (r187 : Int64) (z195 : Int32) (z198 : Int32) (z221 : Int32) (z245 : Int32) (z247 : Int32) (r249 : Int32) (z252 : Int32) (z255 : Int64) (z258 : Int64) (z261 : Int32) (z280 : Int32) (hM : 0 ≤ z1.toInt) (hft : 0 ≤ r185.toInt ∧ r185.toInt ≤ r186.toInt ∧ r186.toInt ≤ 21) (hc348_189 : ¬ (r185 = r186)) (hj196 : (r185 = (0 : Int32) ∧ z195 = (1 : Int32)) ∨ (¬ (r185 = (0 : Int32)) ∧ z195 = (0 : Int32))) (hj199 : (r186 = (21 : Int32) ∧ z198 = (1 : Int32)) ∨ (¬ (r186 = (21 : Int32)) ∧ z198 = (0 : Int32))) (hB : own_B z1 z2 z3 r185 r186 r187 z221) (hc439_242 : z221 = (0 : Int32)) (hN : r249.toInt = max 0 (min r186.toInt 20 - max r185.toInt 1)) (hR : (0 : Int64).toInt = ((own_R z1.toInt.toNat r185.toInt.toNat r186.toInt.toNat : Nat) : Int)) (hj253 : (z198 = (0 : Int32) ∧ z252 = (0 : Int32)) ∨ (¬ (z198 = (0 : Int32)) ∧ z252 = (1 : Int32))) (hj256 : (z198 = (0 : Int32) ∧ z255 = (0 : Int64)) ∨ (¬ (z198 = (0 : Int32)) ∧ z255 = ((z3 - (48 : Int32)).toInt64))) (hj259 : (z195 = (0 : Int32) ∧ z258 = (0 : Int64)) ∨ (¬ (z195 = (0 : Int32)) ∧ z258 = ((z2 - (48 : Int32)).toInt64))) (hc575_259 : (0 : Int64) < z258) (hz261 : r249 + z252 = z261) (hc586_261 : ¬ (z261 < (18 : Int32))) (hj281 : (r187 = (9223372036854775807 : Int64) ∧ z280 = (1 : Int32)) ∨ (¬ (r187 = (9223372036854775807 : Int64)) ∧ z280 = (0 : Int32))) : z280 = 1 := by
  obtain ⟨T, D, C, n, R, a1, a2, a3, a4, a5, a6, a7, a8, a9, b1, b2, b3⟩ := own_norm z1 z2 z3 r185 r186 z221 z195 z198 r249 z252 r187 z258 z255 (0 : Int64) hft hB hc439_242 hj196 hj199 hN hR hj253 hj256 hj259
  rw [Int64.lt_iff_toInt_lt] at hc575_259; simp only [Int64.reduceToInt] at hc575_259
  rw [Int32.lt_iff_toInt_lt] at hc586_261; simp only [Int32.reduceToInt] at hc586_261
  have w1 := c_iadd r249 z252
  have w2 := rng32 (r249 + z252)
  rw [hz261] at w1 w2
  have E := own_nB _ T D C n R (by omega) (by omega) b3
  rcases hj281 with ⟨u, v⟩ | ⟨u, v⟩
  · exact v
  · exact absurd E u
theorem leaf_3 (q1 : Int64) (p2 : Int32) (p3 : Int32) (p4 : Int32) (p5 : Int32) (p6 : Int32) (z1 : Int64) (z2 : Int32) (z3 : Int32) (z4 : Int32) (z7 : Int32) (z170 : Int32) (F176 : List Int32) (z182 : Int32) (z184 : Int32) (r185 : Int32) (r186 : Int32) (r187 : Int64) (z195 : Int32) (z198 : Int32) (z221 : Int32) (z245 : Int32) (z247 : Int32) (r249 : Int32) (z252 : Int32) (z255 : Int64) (z258 : Int64) (z283 : Int64) (z286 : Int32) (hM : 0 ≤ z1.toInt) (hft : 0 ≤ r185.toInt ∧ r185.toInt ≤ r186.toInt ∧ r186.toInt ≤ 21) (hc348_189 : ¬ (r185 = r186)) (hj196 : (r185 = (0 : Int32) ∧ z195 = (1 : Int32)) ∨ (¬ (r185 = (0 : Int32)) ∧ z195 = (0 : Int32))) (hj199 : (r186 = (21 : Int32) ∧ z198 = (1 : Int32)) ∨ (¬ (r186 = (21 : Int32)) ∧ z198 = (0 : Int32))) (hB : own_B z1 z2 z3 r185 r186 r187 z221) (hc439_242 : z221 = (0 : Int32)) (hN : r249.toInt = max 0 (min r186.toInt 20 - max r185.toInt 1)) (hR : (0 : Int64).toInt = ((own_R z1.toInt.toNat r185.toInt.toNat r186.toInt.toNat : Nat) : Int)) (hj253 : (z198 = (0 : Int32) ∧ z252 = (0 : Int32)) ∨ (¬ (z198 = (0 : Int32)) ∧ z252 = (1 : Int32))) (hj256 : (z198 = (0 : Int32) ∧ z255 = (0 : Int64)) ∨ (¬ (z198 = (0 : Int32)) ∧ z255 = ((z3 - (48 : Int32)).toInt64))) (hj259 : (z195 = (0 : Int32) ∧ z258 = (0 : Int64)) ∨ (¬ (z195 = (0 : Int32)) ∧ z258 = ((z2 - (48 : Int32)).toInt64))) (hc575_259 : ¬ ((0 : Int64) < z258)) (hj284 : (z252 = (0 : Int32) ∧ z283 = (0 : Int64)) ∨ (¬ (z252 = (0 : Int32)) ∧ z283 = ((0 : Int64) + z255))) (hj287 : (r187 = z283 ∧ z286 = (1 : Int32)) ∨ (¬ (r187 = z283) ∧ z286 = (0 : Int32))) : z286 = 1 := by
  obtain ⟨T, D, C, n, R, a1, a2, a3, a4, a5, a6, a7, a8, a9, b1, b2, b3⟩ := own_norm z1 z2 z3 r185 r186 z221 z195 z198 r249 z252 r187 z258 z255 (0 : Int64) hft hB hc439_242 hj196 hj199 hN hR hj253 hj256 hj259
  rw [Int64.lt_iff_toInt_lt] at hc575_259; simp only [Int64.reduceToInt] at hc575_259
  have D0 : D = 0 := by omega
  rw [D0] at b3
  have E := own_nC _ _ _ _ _ T C n R a1 a2 a7 a8 a9 b2 b3 (hj284.elim (fun q => Or.inr (Or.inl ⟨q.1, by decide, q.2⟩)) (fun q => Or.inr (Or.inr (Or.inr ⟨q.1, by decide, q.2.trans (congrArg (fun x : Int64 => x + z255) (by decide : (0 : Int64) = (0 : Int64) * (10 : Int64)))⟩))))
  rcases hj287 with ⟨u, v⟩ | ⟨u, v⟩
  · exact v
  · exact absurd E u
theorem leaf_4 (q1 : Int64) (p2 : Int32) (p3 : Int32) (p4 : Int32) (p5 : Int32) (p6 : Int32) (z1 : Int64) (z2 : Int32) (z3 : Int32) (z4 : Int32) (z7 : Int32) (z170 : Int32) (F176 : List Int32) (z182 : Int32) (z184 : Int32) (r185 : Int32) (r186 : Int32) (r187 : Int64) (z195 : Int32) (z198 : Int32) (z221 : Int32) (z245 : Int32) (z247 : Int32) (r249 : Int32) (z290 : Int32) (z293 : Int64) (z296 : Int64) (z299 : Int32) (z301 : Int32) (r302 : Int64) (z306 : Int64) (r307 : Int64) (z311 : Int64) (z312 : Int64) (z313 : Int64) (z315 : Int32) (hM : 0 ≤ z1.toInt) (hft : 0 ≤ r185.toInt ∧ r185.toInt ≤ r186.toInt ∧ r186.toInt ≤ 21) (hc348_189 : ¬ (r185 = r186)) (hj196 : (r185 = (0 : Int32) ∧ z195 = (1 : Int32)) ∨ (¬ (r185 = (0 : Int32)) ∧ z195 = (0 : Int32))) (hj199 : (r186 = (21 : Int32) ∧ z198 = (1 : Int32)) ∨ (¬ (r186 = (21 : Int32)) ∧ z198 = (0 : Int32))) (hB : own_B z1 z2 z3 r185 r186 r187 z221) (hc439_242 : z221 = (0 : Int32)) (hN : r249.toInt = max 0 (min r186.toInt 20 - max r185.toInt 1)) (hR : z1.toInt = ((own_R z1.toInt.toNat r185.toInt.toNat r186.toInt.toNat : Nat) : Int)) (hj291 : (z198 = (0 : Int32) ∧ z290 = (0 : Int32)) ∨ (¬ (z198 = (0 : Int32)) ∧ z290 = (1 : Int32))) (hj294 : (z198 = (0 : Int32) ∧ z293 = (0 : Int64)) ∨ (¬ (z198 = (0 : Int32)) ∧ z293 = ((z3 - (48 : Int32)).toInt64))) (hj297 : (z195 = (0 : Int32) ∧ z296 = (0 : Int64)) ∨ (¬ (z195 = (0 : Int32)) ∧ z296 = ((z2 - (48 : Int32)).toInt64))) (hc575_297 : (0 : Int64) < z296) (hz299 : r249 + z290 = z299) (hc586_299 : z299 < (18 : Int32)) (hz301 : r249 + z290 = z301) (hK3 : 0 ≤ z301.toInt ∧ z301.toInt ≤ 17 ∧ z301.toInt = r249.toInt + z290.toInt) (hr302 : Rel2 z301 r302) (hz306 : z296 * r302 = z306) (hK4 : 0 ≤ z290.toInt ∧ z290.toInt ≤ 18) (hr307 : Rel2 z290 r307) (hz311 : z1 * r307 = z311) (hz312 : z306 + z311 = z312) (hz313 : z312 + z293 = z313) (hj316 : (r187 = z313 ∧ z315 = (1 : Int32)) ∨ (¬ (r187 = z313) ∧ z315 = (0 : Int32))) : z315 = 1 := by
  obtain ⟨T, D, C, n, R, a1, a2, a3, a4, a5, a6, a7, a8, a9, b1, b2, b3⟩ := own_norm z1 z2 z3 r185 r186 z221 z195 z198 r249 z290 r187 z296 z293 z1 hft hB hc439_242 hj196 hj199 hN hR hj291 hj294 hj297
  have E := own_nA r187 z296 z293 z1 _ _ r249 z290 z301 T D C n R a1 a2 a3 a5 a6 a7 a8 a9 b1 b2 b3 hK3.2.2 (by omega) hr302 hr307
  rw [hz306, hz311, hz312, hz313] at E
  rcases hj316 with ⟨u, v⟩ | ⟨u, v⟩
  · exact v
  · exact absurd E u
theorem leaf_5 (q1 : Int64) (p2 : Int32) (p3 : Int32) (p4 : Int32) (p5 : Int32) (p6 : Int32) (z1 : Int64) (z2 : Int32) (z3 : Int32) (z4 : Int32) (z7 : Int32) (z170 : Int32) (F176 : List Int32) (z182 : Int32) (z184 : Int32) (r185 : Int32) (r186 : Int32) (r187 : Int64) (z195 : Int32) (z198 : Int32) (z221 : Int32) (z245 : Int32) (z247 : Int32) (r249 : Int32) (z290 : Int32) (z293 : Int64) (z296 : Int64) (z299 : Int32) (z318 : Int32) (hM : 0 ≤ z1.toInt) (hft : 0 ≤ r185.toInt ∧ r185.toInt ≤ r186.toInt ∧ r186.toInt ≤ 21) (hc348_189 : ¬ (r185 = r186)) (hj196 : (r185 = (0 : Int32) ∧ z195 = (1 : Int32)) ∨ (¬ (r185 = (0 : Int32)) ∧ z195 = (0 : Int32))) (hj199 : (r186 = (21 : Int32) ∧ z198 = (1 : Int32)) ∨ (¬ (r186 = (21 : Int32)) ∧ z198 = (0 : Int32))) (hB : own_B z1 z2 z3 r185 r186 r187 z221) (hc439_242 : z221 = (0 : Int32)) (hN : r249.toInt = max 0 (min r186.toInt 20 - max r185.toInt 1)) (hR : z1.toInt = ((own_R z1.toInt.toNat r185.toInt.toNat r186.toInt.toNat : Nat) : Int)) (hj291 : (z198 = (0 : Int32) ∧ z290 = (0 : Int32)) ∨ (¬ (z198 = (0 : Int32)) ∧ z290 = (1 : Int32))) (hj294 : (z198 = (0 : Int32) ∧ z293 = (0 : Int64)) ∨ (¬ (z198 = (0 : Int32)) ∧ z293 = ((z3 - (48 : Int32)).toInt64))) (hj297 : (z195 = (0 : Int32) ∧ z296 = (0 : Int64)) ∨ (¬ (z195 = (0 : Int32)) ∧ z296 = ((z2 - (48 : Int32)).toInt64))) (hc575_297 : (0 : Int64) < z296) (hz299 : r249 + z290 = z299) (hc586_299 : ¬ (z299 < (18 : Int32))) (hj319 : (r187 = (9223372036854775807 : Int64) ∧ z318 = (1 : Int32)) ∨ (¬ (r187 = (9223372036854775807 : Int64)) ∧ z318 = (0 : Int32))) : z318 = 1 := by
  obtain ⟨T, D, C, n, R, a1, a2, a3, a4, a5, a6, a7, a8, a9, b1, b2, b3⟩ := own_norm z1 z2 z3 r185 r186 z221 z195 z198 r249 z290 r187 z296 z293 z1 hft hB hc439_242 hj196 hj199 hN hR hj291 hj294 hj297
  rw [Int64.lt_iff_toInt_lt] at hc575_297; simp only [Int64.reduceToInt] at hc575_297
  rw [Int32.lt_iff_toInt_lt] at hc586_299; simp only [Int32.reduceToInt] at hc586_299
  have w1 := c_iadd r249 z290
  have w2 := rng32 (r249 + z290)
  rw [hz299] at w1 w2
  have E := own_nB _ T D C n R (by omega) (by omega) b3
  rcases hj319 with ⟨u, v⟩ | ⟨u, v⟩
  · exact v
  · exact absurd E u
theorem leaf_6 (q1 : Int64) (p2 : Int32) (p3 : Int32) (p4 : Int32) (p5 : Int32) (p6 : Int32) (z1 : Int64) (z2 : Int32) (z3 : Int32) (z4 : Int32) (z7 : Int32) (z170 : Int32) (F176 : List Int32) (z182 : Int32) (z184 : Int32) (r185 : Int32) (r186 : Int32) (r187 : Int64) (z195 : Int32) (z198 : Int32) (z221 : Int32) (z245 : Int32) (z247 : Int32) (r249 : Int32) (z290 : Int32) (z293 : Int64) (z296 : Int64) (z323 : Int64) (z326 : Int32) (hM : 0 ≤ z1.toInt) (hft : 0 ≤ r185.toInt ∧ r185.toInt ≤ r186.toInt ∧ r186.toInt ≤ 21) (hc348_189 : ¬ (r185 = r186)) (hj196 : (r185 = (0 : Int32) ∧ z195 = (1 : Int32)) ∨ (¬ (r185 = (0 : Int32)) ∧ z195 = (0 : Int32))) (hj199 : (r186 = (21 : Int32) ∧ z198 = (1 : Int32)) ∨ (¬ (r186 = (21 : Int32)) ∧ z198 = (0 : Int32))) (hB : own_B z1 z2 z3 r185 r186 r187 z221) (hc439_242 : z221 = (0 : Int32)) (hN : r249.toInt = max 0 (min r186.toInt 20 - max r185.toInt 1)) (hR : z1.toInt = ((own_R z1.toInt.toNat r185.toInt.toNat r186.toInt.toNat : Nat) : Int)) (hj291 : (z198 = (0 : Int32) ∧ z290 = (0 : Int32)) ∨ (¬ (z198 = (0 : Int32)) ∧ z290 = (1 : Int32))) (hj294 : (z198 = (0 : Int32) ∧ z293 = (0 : Int64)) ∨ (¬ (z198 = (0 : Int32)) ∧ z293 = ((z3 - (48 : Int32)).toInt64))) (hj297 : (z195 = (0 : Int32) ∧ z296 = (0 : Int64)) ∨ (¬ (z195 = (0 : Int32)) ∧ z296 = ((z2 - (48 : Int32)).toInt64))) (hc575_297 : ¬ ((0 : Int64) < z296)) (hj324 : (z290 = (0 : Int32) ∧ (999999999999999999 : Int64) < z1 ∧ z323 = (9223372036854775807 : Int64)) ∨ (z290 = (0 : Int32) ∧ ¬ ((999999999999999999 : Int64) < z1) ∧ z323 = z1) ∨ (¬ (z290 = (0 : Int32)) ∧ (99999999999999999 : Int64) < z1 ∧ z323 = (9223372036854775807 : Int64)) ∨ (¬ (z290 = (0 : Int32)) ∧ ¬ ((99999999999999999 : Int64) < z1) ∧ z323 = ((z1 * (10 : Int64)) + z293))) (hj327 : (r187 = z323 ∧ z326 = (1 : Int32)) ∨ (¬ (r187 = z323) ∧ z326 = (0 : Int32))) : z326 = 1 := by
  obtain ⟨T, D, C, n, R, a1, a2, a3, a4, a5, a6, a7, a8, a9, b1, b2, b3⟩ := own_norm z1 z2 z3 r185 r186 z221 z195 z198 r249 z290 r187 z296 z293 z1 hft hB hc439_242 hj196 hj199 hN hR hj291 hj294 hj297
  rw [Int64.lt_iff_toInt_lt] at hc575_297; simp only [Int64.reduceToInt] at hc575_297
  have D0 : D = 0 := by omega
  rw [D0] at b3
  have E := own_nC _ _ _ _ _ T C n R a1 a2 a7 a8 a9 b2 b3 hj324
  rcases hj327 with ⟨u, v⟩ | ⟨u, v⟩
  · exact v
  · exact absurd E u
theorem leaf_7 (q1 : Int64) (p2 : Int32) (p3 : Int32) (p4 : Int32) (p5 : Int32) (p6 : Int32) (z1 : Int64) (z2 : Int32) (z3 : Int32) (z4 : Int32) (z7 : Int32) (z170 : Int32) (F176 : List Int32) (z182 : Int32) (z184 : Int32) (r185 : Int32) (r186 : Int32) (r187 : Int64) (z195 : Int32) (z198 : Int32) (z221 : Int32) (z245 : Int32) (z247 : Int32) (r249 : Int32) (z340 : Int64) (z342 : Int32) (z345 : Int64) (z348 : Int64) (z351 : Int32) (z353 : Int32) (r354 : Int64) (z358 : Int64) (r359 : Int64) (z363 : Int64) (z364 : Int64) (z365 : Int64) (z367 : Int32) (hM : 0 ≤ z1.toInt) (hft : 0 ≤ r185.toInt ∧ r185.toInt ≤ r186.toInt ∧ r186.toInt ≤ 21) (hc348_189 : ¬ (r185 = r186)) (hj196 : (r185 = (0 : Int32) ∧ z195 = (1 : Int32)) ∨ (¬ (r185 = (0 : Int32)) ∧ z195 = (0 : Int32))) (hj199 : (r186 = (21 : Int32) ∧ z198 = (1 : Int32)) ∨ (¬ (r186 = (21 : Int32)) ∧ z198 = (0 : Int32))) (hB : own_B z1 z2 z3 r185 r186 r187 z221) (hc439_242 : z221 = (0 : Int32)) (hN : r249.toInt = max 0 (min r186.toInt 20 - max r185.toInt 1)) (hR : z340.toInt = ((own_R z1.toInt.toNat r185.toInt.toNat r186.toInt.toNat : Nat) : Int)) (hj343 : (z198 = (0 : Int32) ∧ z342 = (0 : Int32)) ∨ (¬ (z198 = (0 : Int32)) ∧ z342 = (1 : Int32))) (hj346 : (z198 = (0 : Int32) ∧ z345 = (0 : Int64)) ∨ (¬ (z198 = (0 : Int32)) ∧ z345 = ((z3 - (48 : Int32)).toInt64))) (hj349 : (z195 = (0 : Int32) ∧ z348 = (0 : Int64)) ∨ (¬ (z195 = (0 : Int32)) ∧ z348 = ((z2 - (48 : Int32)).toInt64))) (hc575_349 : (0 : Int64) < z348) (hz351 : r249 + z342 = z351) (hc586_351 : z351 < (18 : Int32)) (hz353 : r249 + z342 = z353) (hK3 : 0 ≤ z353.toInt ∧ z353.toInt ≤ 17 ∧ z353.toInt = r249.toInt + z342.toInt) (hr354 : Rel2 z353 r354) (hz358 : z348 * r354 = z358) (hK4 : 0 ≤ z342.toInt ∧ z342.toInt ≤ 18) (hr359 : Rel2 z342 r359) (hz363 : z340 * r359 = z363) (hz364 : z358 + z363 = z364) (hz365 : z364 + z345 = z365) (hj368 : (r187 = z365 ∧ z367 = (1 : Int32)) ∨ (¬ (r187 = z365) ∧ z367 = (0 : Int32))) : z367 = 1 := by
  obtain ⟨T, D, C, n, R, a1, a2, a3, a4, a5, a6, a7, a8, a9, b1, b2, b3⟩ := own_norm z1 z2 z3 r185 r186 z221 z195 z198 r249 z342 r187 z348 z345 z340 hft hB hc439_242 hj196 hj199 hN hR hj343 hj346 hj349
  have E := own_nA r187 z348 z345 z340 _ _ r249 z342 z353 T D C n R a1 a2 a3 a5 a6 a7 a8 a9 b1 b2 b3 hK3.2.2 (by omega) hr354 hr359
  rw [hz358, hz363, hz364, hz365] at E
  rcases hj368 with ⟨u, v⟩ | ⟨u, v⟩
  · exact v
  · exact absurd E u
theorem leaf_8 (q1 : Int64) (p2 : Int32) (p3 : Int32) (p4 : Int32) (p5 : Int32) (p6 : Int32) (z1 : Int64) (z2 : Int32) (z3 : Int32) (z4 : Int32) (z7 : Int32) (z170 : Int32) (F176 : List Int32) (z182 : Int32) (z184 : Int32) (r185 : Int32) (r186 : Int32) (r187 : Int64) (z195 : Int32) (z198 : Int32) (z221 : Int32) (z245 : Int32) (z247 : Int32) (r249 : Int32) (z340 : Int64) (z342 : Int32) (z345 : Int64) (z348 : Int64) (z351 : Int32) (z370 : Int32) (hM : 0 ≤ z1.toInt) (hft : 0 ≤ r185.toInt ∧ r185.toInt ≤ r186.toInt ∧ r186.toInt ≤ 21) (hc348_189 : ¬ (r185 = r186)) (hj196 : (r185 = (0 : Int32) ∧ z195 = (1 : Int32)) ∨ (¬ (r185 = (0 : Int32)) ∧ z195 = (0 : Int32))) (hj199 : (r186 = (21 : Int32) ∧ z198 = (1 : Int32)) ∨ (¬ (r186 = (21 : Int32)) ∧ z198 = (0 : Int32))) (hB : own_B z1 z2 z3 r185 r186 r187 z221) (hc439_242 : z221 = (0 : Int32)) (hN : r249.toInt = max 0 (min r186.toInt 20 - max r185.toInt 1)) (hR : z340.toInt = ((own_R z1.toInt.toNat r185.toInt.toNat r186.toInt.toNat : Nat) : Int)) (hj343 : (z198 = (0 : Int32) ∧ z342 = (0 : Int32)) ∨ (¬ (z198 = (0 : Int32)) ∧ z342 = (1 : Int32))) (hj346 : (z198 = (0 : Int32) ∧ z345 = (0 : Int64)) ∨ (¬ (z198 = (0 : Int32)) ∧ z345 = ((z3 - (48 : Int32)).toInt64))) (hj349 : (z195 = (0 : Int32) ∧ z348 = (0 : Int64)) ∨ (¬ (z195 = (0 : Int32)) ∧ z348 = ((z2 - (48 : Int32)).toInt64))) (hc575_349 : (0 : Int64) < z348) (hz351 : r249 + z342 = z351) (hc586_351 : ¬ (z351 < (18 : Int32))) (hj371 : (r187 = (9223372036854775807 : Int64) ∧ z370 = (1 : Int32)) ∨ (¬ (r187 = (9223372036854775807 : Int64)) ∧ z370 = (0 : Int32))) : z370 = 1 := by
  obtain ⟨T, D, C, n, R, a1, a2, a3, a4, a5, a6, a7, a8, a9, b1, b2, b3⟩ := own_norm z1 z2 z3 r185 r186 z221 z195 z198 r249 z342 r187 z348 z345 z340 hft hB hc439_242 hj196 hj199 hN hR hj343 hj346 hj349
  rw [Int64.lt_iff_toInt_lt] at hc575_349; simp only [Int64.reduceToInt] at hc575_349
  rw [Int32.lt_iff_toInt_lt] at hc586_351; simp only [Int32.reduceToInt] at hc586_351
  have w1 := c_iadd r249 z342
  have w2 := rng32 (r249 + z342)
  rw [hz351] at w1 w2
  have E := own_nB _ T D C n R (by omega) (by omega) b3
  rcases hj371 with ⟨u, v⟩ | ⟨u, v⟩
  · exact v
  · exact absurd E u
theorem leaf_9 (q1 : Int64) (p2 : Int32) (p3 : Int32) (p4 : Int32) (p5 : Int32) (p6 : Int32) (z1 : Int64) (z2 : Int32) (z3 : Int32) (z4 : Int32) (z7 : Int32) (z170 : Int32) (F176 : List Int32) (z182 : Int32) (z184 : Int32) (r185 : Int32) (r186 : Int32) (r187 : Int64) (z195 : Int32) (z198 : Int32) (z221 : Int32) (z245 : Int32) (z247 : Int32) (r249 : Int32) (z340 : Int64) (z342 : Int32) (z345 : Int64) (z348 : Int64) (z375 : Int64) (z378 : Int32) (hM : 0 ≤ z1.toInt) (hft : 0 ≤ r185.toInt ∧ r185.toInt ≤ r186.toInt ∧ r186.toInt ≤ 21) (hc348_189 : ¬ (r185 = r186)) (hj196 : (r185 = (0 : Int32) ∧ z195 = (1 : Int32)) ∨ (¬ (r185 = (0 : Int32)) ∧ z195 = (0 : Int32))) (hj199 : (r186 = (21 : Int32) ∧ z198 = (1 : Int32)) ∨ (¬ (r186 = (21 : Int32)) ∧ z198 = (0 : Int32))) (hB : own_B z1 z2 z3 r185 r186 r187 z221) (hc439_242 : z221 = (0 : Int32)) (hN : r249.toInt = max 0 (min r186.toInt 20 - max r185.toInt 1)) (hR : z340.toInt = ((own_R z1.toInt.toNat r185.toInt.toNat r186.toInt.toNat : Nat) : Int)) (hj343 : (z198 = (0 : Int32) ∧ z342 = (0 : Int32)) ∨ (¬ (z198 = (0 : Int32)) ∧ z342 = (1 : Int32))) (hj346 : (z198 = (0 : Int32) ∧ z345 = (0 : Int64)) ∨ (¬ (z198 = (0 : Int32)) ∧ z345 = ((z3 - (48 : Int32)).toInt64))) (hj349 : (z195 = (0 : Int32) ∧ z348 = (0 : Int64)) ∨ (¬ (z195 = (0 : Int32)) ∧ z348 = ((z2 - (48 : Int32)).toInt64))) (hc575_349 : ¬ ((0 : Int64) < z348)) (hj376 : (z342 = (0 : Int32) ∧ (999999999999999999 : Int64) < z340 ∧ z375 = (9223372036854775807 : Int64)) ∨ (z342 = (0 : Int32) ∧ ¬ ((999999999999999999 : Int64) < z340) ∧ z375 = z340) ∨ (¬ (z342 = (0 : Int32)) ∧ (99999999999999999 : Int64) < z340 ∧ z375 = (9223372036854775807 : Int64)) ∨ (¬ (z342 = (0 : Int32)) ∧ ¬ ((99999999999999999 : Int64) < z340) ∧ z375 = ((z340 * (10 : Int64)) + z345))) (hj379 : (r187 = z375 ∧ z378 = (1 : Int32)) ∨ (¬ (r187 = z375) ∧ z378 = (0 : Int32))) : z378 = 1 := by
  obtain ⟨T, D, C, n, R, a1, a2, a3, a4, a5, a6, a7, a8, a9, b1, b2, b3⟩ := own_norm z1 z2 z3 r185 r186 z221 z195 z198 r249 z342 r187 z348 z345 z340 hft hB hc439_242 hj196 hj199 hN hR hj343 hj346 hj349
  rw [Int64.lt_iff_toInt_lt] at hc575_349; simp only [Int64.reduceToInt] at hc575_349
  have D0 : D = 0 := by omega
  rw [D0] at b3
  have E := own_nC _ _ _ _ _ T C n R a1 a2 a7 a8 a9 b2 b3 hj376
  rcases hj379 with ⟨u, v⟩ | ⟨u, v⟩
  · exact v
  · exact absurd E u
theorem leaf_10 (q1 : Int64) (p2 : Int32) (p3 : Int32) (p4 : Int32) (p5 : Int32) (p6 : Int32) (z1 : Int64) (z2 : Int32) (z3 : Int32) (z4 : Int32) (z7 : Int32) (z170 : Int32) (F176 : List Int32) (z182 : Int32) (z184 : Int32) (r185 : Int32) (r186 : Int32) (r187 : Int64) (z195 : Int32) (z198 : Int32) (z221 : Int32) (z381 : Int32) (hM : 0 ≤ z1.toInt) (hft : 0 ≤ r185.toInt ∧ r185.toInt ≤ r186.toInt ∧ r186.toInt ≤ 21) (hc348_189 : ¬ (r185 = r186)) (hj196 : (r185 = (0 : Int32) ∧ z195 = (1 : Int32)) ∨ (¬ (r185 = (0 : Int32)) ∧ z195 = (0 : Int32))) (hj199 : (r186 = (21 : Int32) ∧ z198 = (1 : Int32)) ∨ (¬ (r186 = (21 : Int32)) ∧ z198 = (0 : Int32))) (hB : own_B z1 z2 z3 r185 r186 r187 z221) (hc439_242 : ¬ (z221 = (0 : Int32))) (hj382 : (r187 = (-1 : Int64) ∧ z381 = (1 : Int32)) ∨ (¬ (r187 = (-1 : Int64)) ∧ z381 = (0 : Int32))) : z381 = 1 := by
  have E : r187 = (-1 : Int64) := by
    rcases hB with ⟨e, _⟩ | ⟨_, e⟩
    · exact absurd e hc439_242
    · exact e
  rcases hj382 with ⟨u, v⟩ | ⟨u, v⟩
  · exact v
  · exact absurd E u
def Q0 (Z : State) (q1 : Int64) (p2 : Int32) (p3 : Int32) (p4 : Int32) (p5 : Int32) (p6 : Int32) (h0 : Heap) (n0 : Nat) (v : Option Value) (h : Heap) (L : List Loc) : Prop := v = some (.int (1 : Int32)) ∧ Fr n0 L
theorem ef_rm0 (m : MethodId) (q1 : Int64) (p2 : Int32) (p3 : Int32) (p4 : Int32) (p5 : Int32) (p6 : Int32) : entryFrame m #[(.long q1), (.int p2), (.int p3), (.int p4), (.int p5), (.int p6)] maxLocals = mkF m 0 #[.val (.long q1), .second, .val (.int p2), .val (.int p3), .val (.int p4), .val (.int p5), .val (.int p6), .unset, .unset, .unset, .unset, .unset, .unset, .unset, .unset, .unset, .unset, .unset, .unset, .unset, .unset, .unset, .unset, .unset, .unset, .unset, .unset, .unset, .unset, .unset, .unset, .unset, .unset, .unset, .unset, .unset] [] := by first | (simp [entryFrame, mkF, argsToLocals, Value.category, maxLocals]; done) | rfl
set_option maxRecDepth 65536 in
set_option maxHeartbeats 40000000 in
theorem rm0 (l : Launch) (Z : State) (a0 : Array Value) (hw : ∀ d ∈ tables_1, d.before a0 Z = true) (ws : List Jvm.Cond) (q1 : Int64) (p2 : Int32) (p3 : Int32) (p4 : Int32) (p5 : Int32) (p6 : Int32) (h0 : Heap) (n0 : Nat) (Z0 : n0 ≤ h0.size)  :
    MetFree l x (head1 (Jvm.Cond.code x code maxLocals ret :: ws) room_1) (fun a U => a = #[(.long q1), (.int p2), (.int p3), (.int p4), (.int p5), (.int p6)] ∧ Z.Warmed39 U.vm ∧ U.heap = h0) (fun _ _ _ _ _ => True) (fun _ U o U' => ∃ v L, o = .returned v ∧ (Q0 Z q1 p2 p3 p4 p5 p6 h0 n0) v U'.heap L ∧ FrameEnd U o U' L 56 1024) := by
  refine MetFree.of_bodySF (plainFor_of_name pn_0) hisR ?_
  intro p e s m args below meth c s₁ Bd hml0 hP hK
  obtain ⟨rfl, hZ, hh⟩ := hP
  have hx := Bd.exec
  have hby := Bd.bytes
  have hml : c.maxLocals = 36 := hml0
  have hown : s.vm.findClass "com/example/utility_meter_billing/utilitymeterbilling/io/WholeNumberValuePinLaw" = some m.cls := findClass_of_methodNamed Bd.named
  have hnm := (name_of_methodNamed Bd.named Bd.method).1
  have hlk : meth.locks = false := BodyLoose.notSynchronized Bd
  have X0 : Stand p l e room_1 s m #[(.long q1), (.int p2), (.int p3), (.int p4), (.int p5), (.int p6)] below meth c s₁ [] 0 0 := Stand.of_body Bd
  have e0 : s₁.heap = h0 := by rw [← hh, Bd.state]; rfl
  have N0 := Fr.nil n0
  show Go p e below s 56 1024 (Q0 Z q1 p2 p3 p4 p5 p6 h0 n0) s₁ (entryFrame m #[(.long q1), (.int p2), (.int p3), (.int p4), (.int p5), (.int p6)] maxLocals)
  rw [ef_rm0 m q1 p2 p3 p4 p5 p6]
  refine g_lloadN 1 X0 hx (hb hby at_0) rfl (v := q1) rfl ?_
  refine g_ldc2 4 X0 hx hZ hown (hw _ (List.mem_of_getElem? (i := 0) rfl)) (hb hby at_1) rfl ?_
  obtain ⟨z1, hz1⟩ : ∃ z : Int64, q1 &&& (9223372036854775807 : Int64) = z := ⟨_, rfl⟩
  refine g_land 5 X0 hx (hb hby at_4) rfl (z := z1) hz1 ?_
  refine g_lstore 7 X0 hx (hb hby at_5) rfl (Ls' := #[.val (.long q1), .second, .val (.int p2), .val (.int p3), .val (.int p4), .val (.int p5), .val (.int p6), .val (.long z1), .second, .unset, .unset, .unset, .unset, .unset, .unset, .unset, .unset, .unset, .unset, .unset, .unset, .unset, .unset, .unset, .unset, .unset, .unset, .unset, .unset, .unset, .unset, .unset, .unset, .unset, .unset, .unset]) rfl ?_
  refine g_iloadN 8 X0 hx (hb hby at_7) rfl (v := p2) rfl ?_
  obtain ⟨z2, hz2⟩ : ∃ z : Int32, p2.toInt8.toInt32 = z := ⟨_, rfl⟩
  refine g_i2b 9 X0 hx (hb hby at_8) rfl (z := z2) hz2 ?_
  refine g_istore 11 X0 hx (hb hby at_9) rfl (Ls' := #[.val (.long q1), .second, .val (.int p2), .val (.int p3), .val (.int p4), .val (.int p5), .val (.int p6), .val (.long z1), .second, .val (.int z2), .unset, .unset, .unset, .unset, .unset, .unset, .unset, .unset, .unset, .unset, .unset, .unset, .unset, .unset, .unset, .unset, .unset, .unset, .unset, .unset, .unset, .unset, .unset, .unset, .unset, .unset]) rfl ?_
  refine g_iloadN 12 X0 hx (hb hby at_11) rfl (v := p3) rfl ?_
  obtain ⟨z3, hz3⟩ : ∃ z : Int32, p3.toInt8.toInt32 = z := ⟨_, rfl⟩
  refine g_i2b 13 X0 hx (hb hby at_12) rfl (z := z3) hz3 ?_
  refine g_istore 15 X0 hx (hb hby at_13) rfl (Ls' := #[.val (.long q1), .second, .val (.int p2), .val (.int p3), .val (.int p4), .val (.int p5), .val (.int p6), .val (.long z1), .second, .val (.int z2), .val (.int z3), .unset, .unset, .unset, .unset, .unset, .unset, .unset, .unset, .unset, .unset, .unset, .unset, .unset, .unset, .unset, .unset, .unset, .unset, .unset, .unset, .unset, .unset, .unset, .unset, .unset]) rfl ?_
  refine g_iload 17 X0 hx (hb hby at_15) rfl (v := p6) rfl ?_
  obtain ⟨z4, hz4⟩ : ∃ z : Int32, p6.toInt8.toInt32 = z := ⟨_, rfl⟩
  refine g_i2b 18 X0 hx (hb hby at_17) rfl (z := z4) hz4 ?_
  refine g_istore 20 X0 hx (hb hby at_18) rfl (Ls' := #[.val (.long q1), .second, .val (.int p2), .val (.int p3), .val (.int p4), .val (.int p5), .val (.int p6), .val (.long z1), .second, .val (.int z2), .val (.int z3), .val (.int z4), .unset, .unset, .unset, .unset, .unset, .unset, .unset, .unset, .unset, .unset, .unset, .unset, .unset, .unset, .unset, .unset, .unset, .unset, .unset, .unset, .unset, .unset, .unset, .unset]) rfl ?_
  refine g_iconst 21 X0 hx (hb hby at_20) rfl (z := (1 : Int32)) rfl ?_
  refine g_iload 23 X0 hx (hb hby at_21) rfl (v := p6) rfl ?_
  refine g_bipush 25 X0 hx (hb hby at_23) rfl (z := (8 : Int32)) rfl ?_
  obtain ⟨z5, hz5⟩ : ∃ z : Int32, (p6.toUInt32 >>> ((8 : Int32) &&& 31).toUInt32).toInt32 = z := ⟨_, rfl⟩
  refine g_iushr 26 X0 hx (hb hby at_25) rfl (z := z5) hz5 ?_
  refine g_bipush 28 X0 hx (hb hby at_26) rfl (z := (19 : Int32)) rfl ?_
  obtain ⟨z6, hz6⟩ : ∃ z : Int32, z5 % (19 : Int32) = z := ⟨_, rfl⟩
  refine g_irem 29 X0 hx (hb hby at_28) rfl (by decide) (z := z6) hz6 ?_
  obtain ⟨z7, hz7⟩ : ∃ z : Int32, (1 : Int32) + z6 = z := ⟨_, rfl⟩
  refine g_iadd 30 X0 hx (hb hby at_29) rfl (z := z7) hz7 ?_
  refine g_istore 32 X0 hx (hb hby at_30) rfl (Ls' := #[.val (.long q1), .second, .val (.int p2), .val (.int p3), .val (.int p4), .val (.int p5), .val (.int p6), .val (.long z1), .second, .val (.int z2), .val (.int z3), .val (.int z4), .val (.int z7), .unset, .unset, .unset, .unset, .unset, .unset, .unset, .unset, .unset, .unset, .unset, .unset, .unset, .unset, .unset, .unset, .unset, .unset, .unset, .unset, .unset, .unset, .unset]) rfl ?_
  have hM : 0 ≤ z1.toInt := (sub0_0 q1 z1 hz1)
  have hPos : 1 ≤ z7.toInt ∧ z7.toInt ≤ 19 := (sub0_1 p6 z5 z6 z7 hz5 hz6 hz7)
  refine g_bipush 34 X0 hx (hb hby at_32) rfl (z := (21 : Int32)) rfl ?_
  refine g_new_byte 36 X0 hx hZ (hw _ (List.mem_of_getElem? (i := 1) rfl)) e0 21 21 (by decide) rfl (by decide) (by decide) (by decide) (by decide) (hb hby at_34) rfl ?_
  intro T8 h8 b8 X8 e8 E8 g8 A8
  have Zs9 : n0 ≤ h8.size := (Nat.le_trans Z0 E8.1)
  have g_b8 : n0 ≤ b8 := Nat.le_trans Z0 (Nat.le_of_eq g8.symm)
  have A8' : AI Z h8 b8 .byte [(0 : Int32), (0 : Int32), (0 : Int32), (0 : Int32), (0 : Int32), (0 : Int32), (0 : Int32), (0 : Int32), (0 : Int32), (0 : Int32), (0 : Int32), (0 : Int32), (0 : Int32), (0 : Int32), (0 : Int32), (0 : Int32), (0 : Int32), (0 : Int32), (0 : Int32), (0 : Int32), (0 : Int32)] := A8
  refine g_astore 38 X8 hx (hb hby at_36) rfl (Ls' := #[.val (.long q1), .second, .val (.int p2), .val (.int p3), .val (.int p4), .val (.int p5), .val (.int p6), .val (.long z1), .second, .val (.int z2), .val (.int z3), .val (.int z4), .val (.int z7), .val (.ref b8), .unset, .unset, .unset, .unset, .unset, .unset, .unset, .unset, .unset, .unset, .unset, .unset, .unset, .unset, .unset, .unset, .unset, .unset, .unset, .unset, .unset, .unset]) rfl rfl ?_
  refine g_aload 40 X8 hx (hb hby at_38) rfl (v := (.ref b8)) rfl rfl ?_
  refine g_iconst 41 X8 hx (hb hby at_40) rfl (z := (0 : Int32)) rfl ?_
  refine g_iload 43 X8 hx (hb hby at_41) rfl (v := z2) rfl ?_
  refine g_bastore 44 X8 hx hZ e8 A8' 0 (by decide) rfl (Nat.le_of_ble_eq_true rfl) (z := z2.toInt8.toInt32) rfl (hb hby at_43) rfl ?_
  intro T10 h10 X10 e10 W10 A10
  have Zs11 : n0 ≤ h10.size := (Nat.le_trans Zs9 (Keep.of_wr W10).1)
  have A10' : AI Z h10 b8 .byte [z2.toInt8.toInt32, (0 : Int32), (0 : Int32), (0 : Int32), (0 : Int32), (0 : Int32), (0 : Int32), (0 : Int32), (0 : Int32), (0 : Int32), (0 : Int32), (0 : Int32), (0 : Int32), (0 : Int32), (0 : Int32), (0 : Int32), (0 : Int32), (0 : Int32), (0 : Int32), (0 : Int32), (0 : Int32)] := A10
  have N12 := Fr.snoc X10 N0 g_b8
  refine g_aload 46 X10 hx (hb hby at_44) rfl (v := (.ref b8)) rfl rfl ?_
  refine g_iconst 47 X10 hx (hb hby at_46) rfl (z := (1 : Int32)) rfl ?_
  refine g_lload 49 X10 hx (hb hby at_47) rfl (v := z1) rfl ?_
  refine g_bipush 51 X10 hx (hb hby at_49) rfl (z := (18 : Int32)) rfl ?_
  have hq51_hm_13 : 0 ≤ z1.toInt := hM
  have hq51_hk_14 : 0 ≤ (18 : Int32).toInt ∧ (18 : Int32).toInt ≤ 18 := by decide
  refine g_callS 54 X10 hx hZ (y := (⟨"com/example/utility_meter_billing/utilitymeterbilling/io/WholeNumberValuePinLaw", "dig", "(JI)B"⟩ : MethodName)) hown (hw _ (List.mem_of_getElem? (i := 2) rfl)) (hw _ (List.mem_of_getElem? (i := 3) rfl)) (hw _ (List.mem_of_getElem? (i := 4) rfl)) (hw _ (List.mem_of_getElem? (i := 5) rfl)) (by decide) e10 (rm1 l Z a0 hw [] z1 (18 : Int32) h10 n0 Zs11 hq51_hm_13 hq51_hk_14) (by rw [hml]; rfl) [(.long z1), (.int (18 : Int32))] [(.int (1 : Int32)), (.ref b8)] rfl rfl (lenOf pd_1 rfl) 2 (Nat.le_of_eq rfl) (hb hby at_51) (by decide) (by decide) (by decide) (by decide) rfl ?_
  intro v13 T13 L13 X13 hQ13
  obtain ⟨r13, rfl, hr13, N13q, K13⟩ := hQ13
  have N13 := Fr.app N12 N13q
  have f16 := A10'.keep K13 nin0
  have Zs17 : n0 ≤ T13.heap.size := (Nat.le_trans Zs11 K13.1)
  show Go p e below s 56 1024 (Q0 Z q1 p2 p3 p4 p5 p6 h0 n0) T13 (mkF m 54 #[.val (.long q1), .second, .val (.int p2), .val (.int p3), .val (.int p4), .val (.int p5), .val (.int p6), .val (.long z1), .second, .val (.int z2), .val (.int z3), .val (.int z4), .val (.int z7), .val (.ref b8), .unset, .unset, .unset, .unset, .unset, .unset, .unset, .unset, .unset, .unset, .unset, .unset, .unset, .unset, .unset, .unset, .unset, .unset, .unset, .unset, .unset, .unset] [(.int r13), (.int (1 : Int32)), (.ref b8)])
  refine g_bastore 55 X13 hx hZ rfl f16 1 (by decide) rfl (Nat.le_of_ble_eq_true rfl) (z := r13.toInt8.toInt32) rfl (hb hby at_54) rfl ?_
  intro T18 h18 X18 e18 W18 A18
  have Zs19 : n0 ≤ h18.size := (Nat.le_trans Zs17 (Keep.of_wr W18).1)
  have A18' : AI Z h18 b8 .byte [z2.toInt8.toInt32, r13.toInt8.toInt32, (0 : Int32), (0 : Int32), (0 : Int32), (0 : Int32), (0 : Int32), (0 : Int32), (0 : Int32), (0 : Int32), (0 : Int32), (0 : Int32), (0 : Int32), (0 : Int32), (0 : Int32), (0 : Int32), (0 : Int32), (0 : Int32), (0 : Int32), (0 : Int32), (0 : Int32)] := A18
  have N20 := Fr.snoc X18 N13 g_b8
  refine g_aload 57 X18 hx (hb hby at_55) rfl (v := (.ref b8)) rfl rfl ?_
  refine g_iconst 58 X18 hx (hb hby at_57) rfl (z := (2 : Int32)) rfl ?_
  refine g_lload 60 X18 hx (hb hby at_58) rfl (v := z1) rfl ?_
  refine g_bipush 62 X18 hx (hb hby at_60) rfl (z := (17 : Int32)) rfl ?_
  have hq62_hm_21 : 0 ≤ z1.toInt := hM
  have hq62_hk_22 : 0 ≤ (17 : Int32).toInt ∧ (17 : Int32).toInt ≤ 18 := by decide
  refine g_callS 65 X18 hx hZ (y := (⟨"com/example/utility_meter_billing/utilitymeterbilling/io/WholeNumberValuePinLaw", "dig", "(JI)B"⟩ : MethodName)) hown (hw _ (List.mem_of_getElem? (i := 2) rfl)) (hw _ (List.mem_of_getElem? (i := 3) rfl)) (hw _ (List.mem_of_getElem? (i := 4) rfl)) (hw _ (List.mem_of_getElem? (i := 5) rfl)) (by decide) e18 (rm1 l Z a0 hw [] z1 (17 : Int32) h18 n0 Zs19 hq62_hm_21 hq62_hk_22) (by rw [hml]; rfl) [(.long z1), (.int (17 : Int32))] [(.int (2 : Int32)), (.ref b8)] rfl rfl (lenOf pd_1 rfl) 2 (Nat.le_of_eq rfl) (hb hby at_62) (by decide) (by decide) (by decide) (by decide) rfl ?_
  intro v21 T21 L21 X21 hQ21
  obtain ⟨r21, rfl, hr21, N21q, K21⟩ := hQ21
  have N21 := Fr.app N20 N21q
  have f24 := A18'.keep K21 nin0
  have Zs25 : n0 ≤ T21.heap.size := (Nat.le_trans Zs19 K21.1)
  show Go p e below s 56 1024 (Q0 Z q1 p2 p3 p4 p5 p6 h0 n0) T21 (mkF m 65 #[.val (.long q1), .second, .val (.int p2), .val (.int p3), .val (.int p4), .val (.int p5), .val (.int p6), .val (.long z1), .second, .val (.int z2), .val (.int z3), .val (.int z4), .val (.int z7), .val (.ref b8), .unset, .unset, .unset, .unset, .unset, .unset, .unset, .unset, .unset, .unset, .unset, .unset, .unset, .unset, .unset, .unset, .unset, .unset, .unset, .unset, .unset, .unset] [(.int r21), (.int (2 : Int32)), (.ref b8)])
  refine g_bastore 66 X21 hx hZ rfl f24 2 (by decide) rfl (Nat.le_of_ble_eq_true rfl) (z := r21.toInt8.toInt32) rfl (hb hby at_65) rfl ?_
  intro T26 h26 X26 e26 W26 A26
  have Zs27 : n0 ≤ h26.size := (Nat.le_trans Zs25 (Keep.of_wr W26).1)
  have A26' : AI Z h26 b8 .byte [z2.toInt8.toInt32, r13.toInt8.toInt32, r21.toInt8.toInt32, (0 : Int32), (0 : Int32), (0 : Int32), (0 : Int32), (0 : Int32), (0 : Int32), (0 : Int32), (0 : Int32), (0 : Int32), (0 : Int32), (0 : Int32), (0 : Int32), (0 : Int32), (0 : Int32), (0 : Int32), (0 : Int32), (0 : Int32), (0 : Int32)] := A26
  have N28 := Fr.snoc X26 N21 g_b8
  refine g_aload 68 X26 hx (hb hby at_66) rfl (v := (.ref b8)) rfl rfl ?_
  refine g_iconst 69 X26 hx (hb hby at_68) rfl (z := (3 : Int32)) rfl ?_
  refine g_lload 71 X26 hx (hb hby at_69) rfl (v := z1) rfl ?_
  refine g_bipush 73 X26 hx (hb hby at_71) rfl (z := (16 : Int32)) rfl ?_
  have hq73_hm_29 : 0 ≤ z1.toInt := hM
  have hq73_hk_30 : 0 ≤ (16 : Int32).toInt ∧ (16 : Int32).toInt ≤ 18 := by decide
  refine g_callS 76 X26 hx hZ (y := (⟨"com/example/utility_meter_billing/utilitymeterbilling/io/WholeNumberValuePinLaw", "dig", "(JI)B"⟩ : MethodName)) hown (hw _ (List.mem_of_getElem? (i := 2) rfl)) (hw _ (List.mem_of_getElem? (i := 3) rfl)) (hw _ (List.mem_of_getElem? (i := 4) rfl)) (hw _ (List.mem_of_getElem? (i := 5) rfl)) (by decide) e26 (rm1 l Z a0 hw [] z1 (16 : Int32) h26 n0 Zs27 hq73_hm_29 hq73_hk_30) (by rw [hml]; rfl) [(.long z1), (.int (16 : Int32))] [(.int (3 : Int32)), (.ref b8)] rfl rfl (lenOf pd_1 rfl) 2 (Nat.le_of_eq rfl) (hb hby at_73) (by decide) (by decide) (by decide) (by decide) rfl ?_
  intro v29 T29 L29 X29 hQ29
  obtain ⟨r29, rfl, hr29, N29q, K29⟩ := hQ29
  have N29 := Fr.app N28 N29q
  have f32 := A26'.keep K29 nin0
  have Zs33 : n0 ≤ T29.heap.size := (Nat.le_trans Zs27 K29.1)
  show Go p e below s 56 1024 (Q0 Z q1 p2 p3 p4 p5 p6 h0 n0) T29 (mkF m 76 #[.val (.long q1), .second, .val (.int p2), .val (.int p3), .val (.int p4), .val (.int p5), .val (.int p6), .val (.long z1), .second, .val (.int z2), .val (.int z3), .val (.int z4), .val (.int z7), .val (.ref b8), .unset, .unset, .unset, .unset, .unset, .unset, .unset, .unset, .unset, .unset, .unset, .unset, .unset, .unset, .unset, .unset, .unset, .unset, .unset, .unset, .unset, .unset] [(.int r29), (.int (3 : Int32)), (.ref b8)])
  refine g_bastore 77 X29 hx hZ rfl f32 3 (by decide) rfl (Nat.le_of_ble_eq_true rfl) (z := r29.toInt8.toInt32) rfl (hb hby at_76) rfl ?_
  intro T34 h34 X34 e34 W34 A34
  have Zs35 : n0 ≤ h34.size := (Nat.le_trans Zs33 (Keep.of_wr W34).1)
  have A34' : AI Z h34 b8 .byte [z2.toInt8.toInt32, r13.toInt8.toInt32, r21.toInt8.toInt32, r29.toInt8.toInt32, (0 : Int32), (0 : Int32), (0 : Int32), (0 : Int32), (0 : Int32), (0 : Int32), (0 : Int32), (0 : Int32), (0 : Int32), (0 : Int32), (0 : Int32), (0 : Int32), (0 : Int32), (0 : Int32), (0 : Int32), (0 : Int32), (0 : Int32)] := A34
  have N36 := Fr.snoc X34 N29 g_b8
  refine g_aload 79 X34 hx (hb hby at_77) rfl (v := (.ref b8)) rfl rfl ?_
  refine g_iconst 80 X34 hx (hb hby at_79) rfl (z := (4 : Int32)) rfl ?_
  refine g_lload 82 X34 hx (hb hby at_80) rfl (v := z1) rfl ?_
  refine g_bipush 84 X34 hx (hb hby at_82) rfl (z := (15 : Int32)) rfl ?_
  have hq84_hm_37 : 0 ≤ z1.toInt := hM
  have hq84_hk_38 : 0 ≤ (15 : Int32).toInt ∧ (15 : Int32).toInt ≤ 18 := by decide
  refine g_callS 87 X34 hx hZ (y := (⟨"com/example/utility_meter_billing/utilitymeterbilling/io/WholeNumberValuePinLaw", "dig", "(JI)B"⟩ : MethodName)) hown (hw _ (List.mem_of_getElem? (i := 2) rfl)) (hw _ (List.mem_of_getElem? (i := 3) rfl)) (hw _ (List.mem_of_getElem? (i := 4) rfl)) (hw _ (List.mem_of_getElem? (i := 5) rfl)) (by decide) e34 (rm1 l Z a0 hw [] z1 (15 : Int32) h34 n0 Zs35 hq84_hm_37 hq84_hk_38) (by rw [hml]; rfl) [(.long z1), (.int (15 : Int32))] [(.int (4 : Int32)), (.ref b8)] rfl rfl (lenOf pd_1 rfl) 2 (Nat.le_of_eq rfl) (hb hby at_84) (by decide) (by decide) (by decide) (by decide) rfl ?_
  intro v37 T37 L37 X37 hQ37
  obtain ⟨r37, rfl, hr37, N37q, K37⟩ := hQ37
  have N37 := Fr.app N36 N37q
  have f40 := A34'.keep K37 nin0
  have Zs41 : n0 ≤ T37.heap.size := (Nat.le_trans Zs35 K37.1)
  show Go p e below s 56 1024 (Q0 Z q1 p2 p3 p4 p5 p6 h0 n0) T37 (mkF m 87 #[.val (.long q1), .second, .val (.int p2), .val (.int p3), .val (.int p4), .val (.int p5), .val (.int p6), .val (.long z1), .second, .val (.int z2), .val (.int z3), .val (.int z4), .val (.int z7), .val (.ref b8), .unset, .unset, .unset, .unset, .unset, .unset, .unset, .unset, .unset, .unset, .unset, .unset, .unset, .unset, .unset, .unset, .unset, .unset, .unset, .unset, .unset, .unset] [(.int r37), (.int (4 : Int32)), (.ref b8)])
  refine g_bastore 88 X37 hx hZ rfl f40 4 (by decide) rfl (Nat.le_of_ble_eq_true rfl) (z := r37.toInt8.toInt32) rfl (hb hby at_87) rfl ?_
  intro T42 h42 X42 e42 W42 A42
  have Zs43 : n0 ≤ h42.size := (Nat.le_trans Zs41 (Keep.of_wr W42).1)
  have A42' : AI Z h42 b8 .byte [z2.toInt8.toInt32, r13.toInt8.toInt32, r21.toInt8.toInt32, r29.toInt8.toInt32, r37.toInt8.toInt32, (0 : Int32), (0 : Int32), (0 : Int32), (0 : Int32), (0 : Int32), (0 : Int32), (0 : Int32), (0 : Int32), (0 : Int32), (0 : Int32), (0 : Int32), (0 : Int32), (0 : Int32), (0 : Int32), (0 : Int32), (0 : Int32)] := A42
  have N44 := Fr.snoc X42 N37 g_b8
  refine g_aload 90 X42 hx (hb hby at_88) rfl (v := (.ref b8)) rfl rfl ?_
  refine g_iconst 91 X42 hx (hb hby at_90) rfl (z := (5 : Int32)) rfl ?_
  refine g_lload 93 X42 hx (hb hby at_91) rfl (v := z1) rfl ?_
  refine g_bipush 95 X42 hx (hb hby at_93) rfl (z := (14 : Int32)) rfl ?_
  have hq95_hm_45 : 0 ≤ z1.toInt := hM
  have hq95_hk_46 : 0 ≤ (14 : Int32).toInt ∧ (14 : Int32).toInt ≤ 18 := by decide
  refine g_callS 98 X42 hx hZ (y := (⟨"com/example/utility_meter_billing/utilitymeterbilling/io/WholeNumberValuePinLaw", "dig", "(JI)B"⟩ : MethodName)) hown (hw _ (List.mem_of_getElem? (i := 2) rfl)) (hw _ (List.mem_of_getElem? (i := 3) rfl)) (hw _ (List.mem_of_getElem? (i := 4) rfl)) (hw _ (List.mem_of_getElem? (i := 5) rfl)) (by decide) e42 (rm1 l Z a0 hw [] z1 (14 : Int32) h42 n0 Zs43 hq95_hm_45 hq95_hk_46) (by rw [hml]; rfl) [(.long z1), (.int (14 : Int32))] [(.int (5 : Int32)), (.ref b8)] rfl rfl (lenOf pd_1 rfl) 2 (Nat.le_of_eq rfl) (hb hby at_95) (by decide) (by decide) (by decide) (by decide) rfl ?_
  intro v45 T45 L45 X45 hQ45
  obtain ⟨r45, rfl, hr45, N45q, K45⟩ := hQ45
  have N45 := Fr.app N44 N45q
  have f48 := A42'.keep K45 nin0
  have Zs49 : n0 ≤ T45.heap.size := (Nat.le_trans Zs43 K45.1)
  show Go p e below s 56 1024 (Q0 Z q1 p2 p3 p4 p5 p6 h0 n0) T45 (mkF m 98 #[.val (.long q1), .second, .val (.int p2), .val (.int p3), .val (.int p4), .val (.int p5), .val (.int p6), .val (.long z1), .second, .val (.int z2), .val (.int z3), .val (.int z4), .val (.int z7), .val (.ref b8), .unset, .unset, .unset, .unset, .unset, .unset, .unset, .unset, .unset, .unset, .unset, .unset, .unset, .unset, .unset, .unset, .unset, .unset, .unset, .unset, .unset, .unset] [(.int r45), (.int (5 : Int32)), (.ref b8)])
  refine g_bastore 99 X45 hx hZ rfl f48 5 (by decide) rfl (Nat.le_of_ble_eq_true rfl) (z := r45.toInt8.toInt32) rfl (hb hby at_98) rfl ?_
  intro T50 h50 X50 e50 W50 A50
  have Zs51 : n0 ≤ h50.size := (Nat.le_trans Zs49 (Keep.of_wr W50).1)
  have A50' : AI Z h50 b8 .byte [z2.toInt8.toInt32, r13.toInt8.toInt32, r21.toInt8.toInt32, r29.toInt8.toInt32, r37.toInt8.toInt32, r45.toInt8.toInt32, (0 : Int32), (0 : Int32), (0 : Int32), (0 : Int32), (0 : Int32), (0 : Int32), (0 : Int32), (0 : Int32), (0 : Int32), (0 : Int32), (0 : Int32), (0 : Int32), (0 : Int32), (0 : Int32), (0 : Int32)] := A50
  have N52 := Fr.snoc X50 N45 g_b8
  refine g_aload 101 X50 hx (hb hby at_99) rfl (v := (.ref b8)) rfl rfl ?_
  refine g_bipush 103 X50 hx (hb hby at_101) rfl (z := (6 : Int32)) rfl ?_
  refine g_lload 105 X50 hx (hb hby at_103) rfl (v := z1) rfl ?_
  refine g_bipush 107 X50 hx (hb hby at_105) rfl (z := (13 : Int32)) rfl ?_
  have hq107_hm_53 : 0 ≤ z1.toInt := hM
  have hq107_hk_54 : 0 ≤ (13 : Int32).toInt ∧ (13 : Int32).toInt ≤ 18 := by decide
  refine g_callS 110 X50 hx hZ (y := (⟨"com/example/utility_meter_billing/utilitymeterbilling/io/WholeNumberValuePinLaw", "dig", "(JI)B"⟩ : MethodName)) hown (hw _ (List.mem_of_getElem? (i := 2) rfl)) (hw _ (List.mem_of_getElem? (i := 3) rfl)) (hw _ (List.mem_of_getElem? (i := 4) rfl)) (hw _ (List.mem_of_getElem? (i := 5) rfl)) (by decide) e50 (rm1 l Z a0 hw [] z1 (13 : Int32) h50 n0 Zs51 hq107_hm_53 hq107_hk_54) (by rw [hml]; rfl) [(.long z1), (.int (13 : Int32))] [(.int (6 : Int32)), (.ref b8)] rfl rfl (lenOf pd_1 rfl) 2 (Nat.le_of_eq rfl) (hb hby at_107) (by decide) (by decide) (by decide) (by decide) rfl ?_
  intro v53 T53 L53 X53 hQ53
  obtain ⟨r53, rfl, hr53, N53q, K53⟩ := hQ53
  have N53 := Fr.app N52 N53q
  have f56 := A50'.keep K53 nin0
  have Zs57 : n0 ≤ T53.heap.size := (Nat.le_trans Zs51 K53.1)
  show Go p e below s 56 1024 (Q0 Z q1 p2 p3 p4 p5 p6 h0 n0) T53 (mkF m 110 #[.val (.long q1), .second, .val (.int p2), .val (.int p3), .val (.int p4), .val (.int p5), .val (.int p6), .val (.long z1), .second, .val (.int z2), .val (.int z3), .val (.int z4), .val (.int z7), .val (.ref b8), .unset, .unset, .unset, .unset, .unset, .unset, .unset, .unset, .unset, .unset, .unset, .unset, .unset, .unset, .unset, .unset, .unset, .unset, .unset, .unset, .unset, .unset] [(.int r53), (.int (6 : Int32)), (.ref b8)])
  refine g_bastore 111 X53 hx hZ rfl f56 6 (by decide) rfl (Nat.le_of_ble_eq_true rfl) (z := r53.toInt8.toInt32) rfl (hb hby at_110) rfl ?_
  intro T58 h58 X58 e58 W58 A58
  have Zs59 : n0 ≤ h58.size := (Nat.le_trans Zs57 (Keep.of_wr W58).1)
  have A58' : AI Z h58 b8 .byte [z2.toInt8.toInt32, r13.toInt8.toInt32, r21.toInt8.toInt32, r29.toInt8.toInt32, r37.toInt8.toInt32, r45.toInt8.toInt32, r53.toInt8.toInt32, (0 : Int32), (0 : Int32), (0 : Int32), (0 : Int32), (0 : Int32), (0 : Int32), (0 : Int32), (0 : Int32), (0 : Int32), (0 : Int32), (0 : Int32), (0 : Int32), (0 : Int32), (0 : Int32)] := A58
  have N60 := Fr.snoc X58 N53 g_b8
  refine g_aload 113 X58 hx (hb hby at_111) rfl (v := (.ref b8)) rfl rfl ?_
  refine g_bipush 115 X58 hx (hb hby at_113) rfl (z := (7 : Int32)) rfl ?_
  refine g_lload 117 X58 hx (hb hby at_115) rfl (v := z1) rfl ?_
  refine g_bipush 119 X58 hx (hb hby at_117) rfl (z := (12 : Int32)) rfl ?_
  have hq119_hm_61 : 0 ≤ z1.toInt := hM
  have hq119_hk_62 : 0 ≤ (12 : Int32).toInt ∧ (12 : Int32).toInt ≤ 18 := by decide
  refine g_callS 122 X58 hx hZ (y := (⟨"com/example/utility_meter_billing/utilitymeterbilling/io/WholeNumberValuePinLaw", "dig", "(JI)B"⟩ : MethodName)) hown (hw _ (List.mem_of_getElem? (i := 2) rfl)) (hw _ (List.mem_of_getElem? (i := 3) rfl)) (hw _ (List.mem_of_getElem? (i := 4) rfl)) (hw _ (List.mem_of_getElem? (i := 5) rfl)) (by decide) e58 (rm1 l Z a0 hw [] z1 (12 : Int32) h58 n0 Zs59 hq119_hm_61 hq119_hk_62) (by rw [hml]; rfl) [(.long z1), (.int (12 : Int32))] [(.int (7 : Int32)), (.ref b8)] rfl rfl (lenOf pd_1 rfl) 2 (Nat.le_of_eq rfl) (hb hby at_119) (by decide) (by decide) (by decide) (by decide) rfl ?_
  intro v61 T61 L61 X61 hQ61
  obtain ⟨r61, rfl, hr61, N61q, K61⟩ := hQ61
  have N61 := Fr.app N60 N61q
  have f64 := A58'.keep K61 nin0
  have Zs65 : n0 ≤ T61.heap.size := (Nat.le_trans Zs59 K61.1)
  show Go p e below s 56 1024 (Q0 Z q1 p2 p3 p4 p5 p6 h0 n0) T61 (mkF m 122 #[.val (.long q1), .second, .val (.int p2), .val (.int p3), .val (.int p4), .val (.int p5), .val (.int p6), .val (.long z1), .second, .val (.int z2), .val (.int z3), .val (.int z4), .val (.int z7), .val (.ref b8), .unset, .unset, .unset, .unset, .unset, .unset, .unset, .unset, .unset, .unset, .unset, .unset, .unset, .unset, .unset, .unset, .unset, .unset, .unset, .unset, .unset, .unset] [(.int r61), (.int (7 : Int32)), (.ref b8)])
  refine g_bastore 123 X61 hx hZ rfl f64 7 (by decide) rfl (Nat.le_of_ble_eq_true rfl) (z := r61.toInt8.toInt32) rfl (hb hby at_122) rfl ?_
  intro T66 h66 X66 e66 W66 A66
  have Zs67 : n0 ≤ h66.size := (Nat.le_trans Zs65 (Keep.of_wr W66).1)
  have A66' : AI Z h66 b8 .byte [z2.toInt8.toInt32, r13.toInt8.toInt32, r21.toInt8.toInt32, r29.toInt8.toInt32, r37.toInt8.toInt32, r45.toInt8.toInt32, r53.toInt8.toInt32, r61.toInt8.toInt32, (0 : Int32), (0 : Int32), (0 : Int32), (0 : Int32), (0 : Int32), (0 : Int32), (0 : Int32), (0 : Int32), (0 : Int32), (0 : Int32), (0 : Int32), (0 : Int32), (0 : Int32)] := A66
  have N68 := Fr.snoc X66 N61 g_b8
  refine g_aload 125 X66 hx (hb hby at_123) rfl (v := (.ref b8)) rfl rfl ?_
  refine g_bipush 127 X66 hx (hb hby at_125) rfl (z := (8 : Int32)) rfl ?_
  refine g_lload 129 X66 hx (hb hby at_127) rfl (v := z1) rfl ?_
  refine g_bipush 131 X66 hx (hb hby at_129) rfl (z := (11 : Int32)) rfl ?_
  have hq131_hm_69 : 0 ≤ z1.toInt := hM
  have hq131_hk_70 : 0 ≤ (11 : Int32).toInt ∧ (11 : Int32).toInt ≤ 18 := by decide
  refine g_callS 134 X66 hx hZ (y := (⟨"com/example/utility_meter_billing/utilitymeterbilling/io/WholeNumberValuePinLaw", "dig", "(JI)B"⟩ : MethodName)) hown (hw _ (List.mem_of_getElem? (i := 2) rfl)) (hw _ (List.mem_of_getElem? (i := 3) rfl)) (hw _ (List.mem_of_getElem? (i := 4) rfl)) (hw _ (List.mem_of_getElem? (i := 5) rfl)) (by decide) e66 (rm1 l Z a0 hw [] z1 (11 : Int32) h66 n0 Zs67 hq131_hm_69 hq131_hk_70) (by rw [hml]; rfl) [(.long z1), (.int (11 : Int32))] [(.int (8 : Int32)), (.ref b8)] rfl rfl (lenOf pd_1 rfl) 2 (Nat.le_of_eq rfl) (hb hby at_131) (by decide) (by decide) (by decide) (by decide) rfl ?_
  intro v69 T69 L69 X69 hQ69
  obtain ⟨r69, rfl, hr69, N69q, K69⟩ := hQ69
  have N69 := Fr.app N68 N69q
  have f72 := A66'.keep K69 nin0
  have Zs73 : n0 ≤ T69.heap.size := (Nat.le_trans Zs67 K69.1)
  show Go p e below s 56 1024 (Q0 Z q1 p2 p3 p4 p5 p6 h0 n0) T69 (mkF m 134 #[.val (.long q1), .second, .val (.int p2), .val (.int p3), .val (.int p4), .val (.int p5), .val (.int p6), .val (.long z1), .second, .val (.int z2), .val (.int z3), .val (.int z4), .val (.int z7), .val (.ref b8), .unset, .unset, .unset, .unset, .unset, .unset, .unset, .unset, .unset, .unset, .unset, .unset, .unset, .unset, .unset, .unset, .unset, .unset, .unset, .unset, .unset, .unset] [(.int r69), (.int (8 : Int32)), (.ref b8)])
  refine g_bastore 135 X69 hx hZ rfl f72 8 (by decide) rfl (Nat.le_of_ble_eq_true rfl) (z := r69.toInt8.toInt32) rfl (hb hby at_134) rfl ?_
  intro T74 h74 X74 e74 W74 A74
  have Zs75 : n0 ≤ h74.size := (Nat.le_trans Zs73 (Keep.of_wr W74).1)
  have A74' : AI Z h74 b8 .byte [z2.toInt8.toInt32, r13.toInt8.toInt32, r21.toInt8.toInt32, r29.toInt8.toInt32, r37.toInt8.toInt32, r45.toInt8.toInt32, r53.toInt8.toInt32, r61.toInt8.toInt32, r69.toInt8.toInt32, (0 : Int32), (0 : Int32), (0 : Int32), (0 : Int32), (0 : Int32), (0 : Int32), (0 : Int32), (0 : Int32), (0 : Int32), (0 : Int32), (0 : Int32), (0 : Int32)] := A74
  have N76 := Fr.snoc X74 N69 g_b8
  refine g_aload 137 X74 hx (hb hby at_135) rfl (v := (.ref b8)) rfl rfl ?_
  refine g_bipush 139 X74 hx (hb hby at_137) rfl (z := (9 : Int32)) rfl ?_
  refine g_lload 141 X74 hx (hb hby at_139) rfl (v := z1) rfl ?_
  refine g_bipush 143 X74 hx (hb hby at_141) rfl (z := (10 : Int32)) rfl ?_
  have hq143_hm_77 : 0 ≤ z1.toInt := hM
  have hq143_hk_78 : 0 ≤ (10 : Int32).toInt ∧ (10 : Int32).toInt ≤ 18 := by decide
  refine g_callS 146 X74 hx hZ (y := (⟨"com/example/utility_meter_billing/utilitymeterbilling/io/WholeNumberValuePinLaw", "dig", "(JI)B"⟩ : MethodName)) hown (hw _ (List.mem_of_getElem? (i := 2) rfl)) (hw _ (List.mem_of_getElem? (i := 3) rfl)) (hw _ (List.mem_of_getElem? (i := 4) rfl)) (hw _ (List.mem_of_getElem? (i := 5) rfl)) (by decide) e74 (rm1 l Z a0 hw [] z1 (10 : Int32) h74 n0 Zs75 hq143_hm_77 hq143_hk_78) (by rw [hml]; rfl) [(.long z1), (.int (10 : Int32))] [(.int (9 : Int32)), (.ref b8)] rfl rfl (lenOf pd_1 rfl) 2 (Nat.le_of_eq rfl) (hb hby at_143) (by decide) (by decide) (by decide) (by decide) rfl ?_
  intro v77 T77 L77 X77 hQ77
  obtain ⟨r77, rfl, hr77, N77q, K77⟩ := hQ77
  have N77 := Fr.app N76 N77q
  have f80 := A74'.keep K77 nin0
  have Zs81 : n0 ≤ T77.heap.size := (Nat.le_trans Zs75 K77.1)
  show Go p e below s 56 1024 (Q0 Z q1 p2 p3 p4 p5 p6 h0 n0) T77 (mkF m 146 #[.val (.long q1), .second, .val (.int p2), .val (.int p3), .val (.int p4), .val (.int p5), .val (.int p6), .val (.long z1), .second, .val (.int z2), .val (.int z3), .val (.int z4), .val (.int z7), .val (.ref b8), .unset, .unset, .unset, .unset, .unset, .unset, .unset, .unset, .unset, .unset, .unset, .unset, .unset, .unset, .unset, .unset, .unset, .unset, .unset, .unset, .unset, .unset] [(.int r77), (.int (9 : Int32)), (.ref b8)])
  refine g_bastore 147 X77 hx hZ rfl f80 9 (by decide) rfl (Nat.le_of_ble_eq_true rfl) (z := r77.toInt8.toInt32) rfl (hb hby at_146) rfl ?_
  intro T82 h82 X82 e82 W82 A82
  have Zs83 : n0 ≤ h82.size := (Nat.le_trans Zs81 (Keep.of_wr W82).1)
  have A82' : AI Z h82 b8 .byte [z2.toInt8.toInt32, r13.toInt8.toInt32, r21.toInt8.toInt32, r29.toInt8.toInt32, r37.toInt8.toInt32, r45.toInt8.toInt32, r53.toInt8.toInt32, r61.toInt8.toInt32, r69.toInt8.toInt32, r77.toInt8.toInt32, (0 : Int32), (0 : Int32), (0 : Int32), (0 : Int32), (0 : Int32), (0 : Int32), (0 : Int32), (0 : Int32), (0 : Int32), (0 : Int32), (0 : Int32)] := A82
  have N84 := Fr.snoc X82 N77 g_b8
  refine g_aload 149 X82 hx (hb hby at_147) rfl (v := (.ref b8)) rfl rfl ?_
  refine g_bipush 151 X82 hx (hb hby at_149) rfl (z := (10 : Int32)) rfl ?_
  refine g_lload 153 X82 hx (hb hby at_151) rfl (v := z1) rfl ?_
  refine g_bipush 155 X82 hx (hb hby at_153) rfl (z := (9 : Int32)) rfl ?_
  have hq155_hm_85 : 0 ≤ z1.toInt := hM
  have hq155_hk_86 : 0 ≤ (9 : Int32).toInt ∧ (9 : Int32).toInt ≤ 18 := by decide
  refine g_callS 158 X82 hx hZ (y := (⟨"com/example/utility_meter_billing/utilitymeterbilling/io/WholeNumberValuePinLaw", "dig", "(JI)B"⟩ : MethodName)) hown (hw _ (List.mem_of_getElem? (i := 2) rfl)) (hw _ (List.mem_of_getElem? (i := 3) rfl)) (hw _ (List.mem_of_getElem? (i := 4) rfl)) (hw _ (List.mem_of_getElem? (i := 5) rfl)) (by decide) e82 (rm1 l Z a0 hw [] z1 (9 : Int32) h82 n0 Zs83 hq155_hm_85 hq155_hk_86) (by rw [hml]; rfl) [(.long z1), (.int (9 : Int32))] [(.int (10 : Int32)), (.ref b8)] rfl rfl (lenOf pd_1 rfl) 2 (Nat.le_of_eq rfl) (hb hby at_155) (by decide) (by decide) (by decide) (by decide) rfl ?_
  intro v85 T85 L85 X85 hQ85
  obtain ⟨r85, rfl, hr85, N85q, K85⟩ := hQ85
  have N85 := Fr.app N84 N85q
  have f88 := A82'.keep K85 nin0
  have Zs89 : n0 ≤ T85.heap.size := (Nat.le_trans Zs83 K85.1)
  show Go p e below s 56 1024 (Q0 Z q1 p2 p3 p4 p5 p6 h0 n0) T85 (mkF m 158 #[.val (.long q1), .second, .val (.int p2), .val (.int p3), .val (.int p4), .val (.int p5), .val (.int p6), .val (.long z1), .second, .val (.int z2), .val (.int z3), .val (.int z4), .val (.int z7), .val (.ref b8), .unset, .unset, .unset, .unset, .unset, .unset, .unset, .unset, .unset, .unset, .unset, .unset, .unset, .unset, .unset, .unset, .unset, .unset, .unset, .unset, .unset, .unset] [(.int r85), (.int (10 : Int32)), (.ref b8)])
  refine g_bastore 159 X85 hx hZ rfl f88 10 (by decide) rfl (Nat.le_of_ble_eq_true rfl) (z := r85.toInt8.toInt32) rfl (hb hby at_158) rfl ?_
  intro T90 h90 X90 e90 W90 A90
  have Zs91 : n0 ≤ h90.size := (Nat.le_trans Zs89 (Keep.of_wr W90).1)
  have A90' : AI Z h90 b8 .byte [z2.toInt8.toInt32, r13.toInt8.toInt32, r21.toInt8.toInt32, r29.toInt8.toInt32, r37.toInt8.toInt32, r45.toInt8.toInt32, r53.toInt8.toInt32, r61.toInt8.toInt32, r69.toInt8.toInt32, r77.toInt8.toInt32, r85.toInt8.toInt32, (0 : Int32), (0 : Int32), (0 : Int32), (0 : Int32), (0 : Int32), (0 : Int32), (0 : Int32), (0 : Int32), (0 : Int32), (0 : Int32)] := A90
  have N92 := Fr.snoc X90 N85 g_b8
  refine g_aload 161 X90 hx (hb hby at_159) rfl (v := (.ref b8)) rfl rfl ?_
  refine g_bipush 163 X90 hx (hb hby at_161) rfl (z := (11 : Int32)) rfl ?_
  refine g_lload 165 X90 hx (hb hby at_163) rfl (v := z1) rfl ?_
  refine g_bipush 167 X90 hx (hb hby at_165) rfl (z := (8 : Int32)) rfl ?_
  have hq167_hm_93 : 0 ≤ z1.toInt := hM
  have hq167_hk_94 : 0 ≤ (8 : Int32).toInt ∧ (8 : Int32).toInt ≤ 18 := by decide
  refine g_callS 170 X90 hx hZ (y := (⟨"com/example/utility_meter_billing/utilitymeterbilling/io/WholeNumberValuePinLaw", "dig", "(JI)B"⟩ : MethodName)) hown (hw _ (List.mem_of_getElem? (i := 2) rfl)) (hw _ (List.mem_of_getElem? (i := 3) rfl)) (hw _ (List.mem_of_getElem? (i := 4) rfl)) (hw _ (List.mem_of_getElem? (i := 5) rfl)) (by decide) e90 (rm1 l Z a0 hw [] z1 (8 : Int32) h90 n0 Zs91 hq167_hm_93 hq167_hk_94) (by rw [hml]; rfl) [(.long z1), (.int (8 : Int32))] [(.int (11 : Int32)), (.ref b8)] rfl rfl (lenOf pd_1 rfl) 2 (Nat.le_of_eq rfl) (hb hby at_167) (by decide) (by decide) (by decide) (by decide) rfl ?_
  intro v93 T93 L93 X93 hQ93
  obtain ⟨r93, rfl, hr93, N93q, K93⟩ := hQ93
  have N93 := Fr.app N92 N93q
  have f96 := A90'.keep K93 nin0
  have Zs97 : n0 ≤ T93.heap.size := (Nat.le_trans Zs91 K93.1)
  show Go p e below s 56 1024 (Q0 Z q1 p2 p3 p4 p5 p6 h0 n0) T93 (mkF m 170 #[.val (.long q1), .second, .val (.int p2), .val (.int p3), .val (.int p4), .val (.int p5), .val (.int p6), .val (.long z1), .second, .val (.int z2), .val (.int z3), .val (.int z4), .val (.int z7), .val (.ref b8), .unset, .unset, .unset, .unset, .unset, .unset, .unset, .unset, .unset, .unset, .unset, .unset, .unset, .unset, .unset, .unset, .unset, .unset, .unset, .unset, .unset, .unset] [(.int r93), (.int (11 : Int32)), (.ref b8)])
  refine g_bastore 171 X93 hx hZ rfl f96 11 (by decide) rfl (Nat.le_of_ble_eq_true rfl) (z := r93.toInt8.toInt32) rfl (hb hby at_170) rfl ?_
  intro T98 h98 X98 e98 W98 A98
  have Zs99 : n0 ≤ h98.size := (Nat.le_trans Zs97 (Keep.of_wr W98).1)
  have A98' : AI Z h98 b8 .byte [z2.toInt8.toInt32, r13.toInt8.toInt32, r21.toInt8.toInt32, r29.toInt8.toInt32, r37.toInt8.toInt32, r45.toInt8.toInt32, r53.toInt8.toInt32, r61.toInt8.toInt32, r69.toInt8.toInt32, r77.toInt8.toInt32, r85.toInt8.toInt32, r93.toInt8.toInt32, (0 : Int32), (0 : Int32), (0 : Int32), (0 : Int32), (0 : Int32), (0 : Int32), (0 : Int32), (0 : Int32), (0 : Int32)] := A98
  have N100 := Fr.snoc X98 N93 g_b8
  refine g_aload 173 X98 hx (hb hby at_171) rfl (v := (.ref b8)) rfl rfl ?_
  refine g_bipush 175 X98 hx (hb hby at_173) rfl (z := (12 : Int32)) rfl ?_
  refine g_lload 177 X98 hx (hb hby at_175) rfl (v := z1) rfl ?_
  refine g_bipush 179 X98 hx (hb hby at_177) rfl (z := (7 : Int32)) rfl ?_
  have hq179_hm_101 : 0 ≤ z1.toInt := hM
  have hq179_hk_102 : 0 ≤ (7 : Int32).toInt ∧ (7 : Int32).toInt ≤ 18 := by decide
  refine g_callS 182 X98 hx hZ (y := (⟨"com/example/utility_meter_billing/utilitymeterbilling/io/WholeNumberValuePinLaw", "dig", "(JI)B"⟩ : MethodName)) hown (hw _ (List.mem_of_getElem? (i := 2) rfl)) (hw _ (List.mem_of_getElem? (i := 3) rfl)) (hw _ (List.mem_of_getElem? (i := 4) rfl)) (hw _ (List.mem_of_getElem? (i := 5) rfl)) (by decide) e98 (rm1 l Z a0 hw [] z1 (7 : Int32) h98 n0 Zs99 hq179_hm_101 hq179_hk_102) (by rw [hml]; rfl) [(.long z1), (.int (7 : Int32))] [(.int (12 : Int32)), (.ref b8)] rfl rfl (lenOf pd_1 rfl) 2 (Nat.le_of_eq rfl) (hb hby at_179) (by decide) (by decide) (by decide) (by decide) rfl ?_
  intro v101 T101 L101 X101 hQ101
  obtain ⟨r101, rfl, hr101, N101q, K101⟩ := hQ101
  have N101 := Fr.app N100 N101q
  have f104 := A98'.keep K101 nin0
  have Zs105 : n0 ≤ T101.heap.size := (Nat.le_trans Zs99 K101.1)
  show Go p e below s 56 1024 (Q0 Z q1 p2 p3 p4 p5 p6 h0 n0) T101 (mkF m 182 #[.val (.long q1), .second, .val (.int p2), .val (.int p3), .val (.int p4), .val (.int p5), .val (.int p6), .val (.long z1), .second, .val (.int z2), .val (.int z3), .val (.int z4), .val (.int z7), .val (.ref b8), .unset, .unset, .unset, .unset, .unset, .unset, .unset, .unset, .unset, .unset, .unset, .unset, .unset, .unset, .unset, .unset, .unset, .unset, .unset, .unset, .unset, .unset] [(.int r101), (.int (12 : Int32)), (.ref b8)])
  refine g_bastore 183 X101 hx hZ rfl f104 12 (by decide) rfl (Nat.le_of_ble_eq_true rfl) (z := r101.toInt8.toInt32) rfl (hb hby at_182) rfl ?_
  intro T106 h106 X106 e106 W106 A106
  have Zs107 : n0 ≤ h106.size := (Nat.le_trans Zs105 (Keep.of_wr W106).1)
  have A106' : AI Z h106 b8 .byte [z2.toInt8.toInt32, r13.toInt8.toInt32, r21.toInt8.toInt32, r29.toInt8.toInt32, r37.toInt8.toInt32, r45.toInt8.toInt32, r53.toInt8.toInt32, r61.toInt8.toInt32, r69.toInt8.toInt32, r77.toInt8.toInt32, r85.toInt8.toInt32, r93.toInt8.toInt32, r101.toInt8.toInt32, (0 : Int32), (0 : Int32), (0 : Int32), (0 : Int32), (0 : Int32), (0 : Int32), (0 : Int32), (0 : Int32)] := A106
  have N108 := Fr.snoc X106 N101 g_b8
  refine g_aload 185 X106 hx (hb hby at_183) rfl (v := (.ref b8)) rfl rfl ?_
  refine g_bipush 187 X106 hx (hb hby at_185) rfl (z := (13 : Int32)) rfl ?_
  refine g_lload 189 X106 hx (hb hby at_187) rfl (v := z1) rfl ?_
  refine g_bipush 191 X106 hx (hb hby at_189) rfl (z := (6 : Int32)) rfl ?_
  have hq191_hm_109 : 0 ≤ z1.toInt := hM
  have hq191_hk_110 : 0 ≤ (6 : Int32).toInt ∧ (6 : Int32).toInt ≤ 18 := by decide
  refine g_callS 194 X106 hx hZ (y := (⟨"com/example/utility_meter_billing/utilitymeterbilling/io/WholeNumberValuePinLaw", "dig", "(JI)B"⟩ : MethodName)) hown (hw _ (List.mem_of_getElem? (i := 2) rfl)) (hw _ (List.mem_of_getElem? (i := 3) rfl)) (hw _ (List.mem_of_getElem? (i := 4) rfl)) (hw _ (List.mem_of_getElem? (i := 5) rfl)) (by decide) e106 (rm1 l Z a0 hw [] z1 (6 : Int32) h106 n0 Zs107 hq191_hm_109 hq191_hk_110) (by rw [hml]; rfl) [(.long z1), (.int (6 : Int32))] [(.int (13 : Int32)), (.ref b8)] rfl rfl (lenOf pd_1 rfl) 2 (Nat.le_of_eq rfl) (hb hby at_191) (by decide) (by decide) (by decide) (by decide) rfl ?_
  intro v109 T109 L109 X109 hQ109
  obtain ⟨r109, rfl, hr109, N109q, K109⟩ := hQ109
  have N109 := Fr.app N108 N109q
  have f112 := A106'.keep K109 nin0
  have Zs113 : n0 ≤ T109.heap.size := (Nat.le_trans Zs107 K109.1)
  show Go p e below s 56 1024 (Q0 Z q1 p2 p3 p4 p5 p6 h0 n0) T109 (mkF m 194 #[.val (.long q1), .second, .val (.int p2), .val (.int p3), .val (.int p4), .val (.int p5), .val (.int p6), .val (.long z1), .second, .val (.int z2), .val (.int z3), .val (.int z4), .val (.int z7), .val (.ref b8), .unset, .unset, .unset, .unset, .unset, .unset, .unset, .unset, .unset, .unset, .unset, .unset, .unset, .unset, .unset, .unset, .unset, .unset, .unset, .unset, .unset, .unset] [(.int r109), (.int (13 : Int32)), (.ref b8)])
  refine g_bastore 195 X109 hx hZ rfl f112 13 (by decide) rfl (Nat.le_of_ble_eq_true rfl) (z := r109.toInt8.toInt32) rfl (hb hby at_194) rfl ?_
  intro T114 h114 X114 e114 W114 A114
  have Zs115 : n0 ≤ h114.size := (Nat.le_trans Zs113 (Keep.of_wr W114).1)
  have A114' : AI Z h114 b8 .byte [z2.toInt8.toInt32, r13.toInt8.toInt32, r21.toInt8.toInt32, r29.toInt8.toInt32, r37.toInt8.toInt32, r45.toInt8.toInt32, r53.toInt8.toInt32, r61.toInt8.toInt32, r69.toInt8.toInt32, r77.toInt8.toInt32, r85.toInt8.toInt32, r93.toInt8.toInt32, r101.toInt8.toInt32, r109.toInt8.toInt32, (0 : Int32), (0 : Int32), (0 : Int32), (0 : Int32), (0 : Int32), (0 : Int32), (0 : Int32)] := A114
  have N116 := Fr.snoc X114 N109 g_b8
  refine g_aload 197 X114 hx (hb hby at_195) rfl (v := (.ref b8)) rfl rfl ?_
  refine g_bipush 199 X114 hx (hb hby at_197) rfl (z := (14 : Int32)) rfl ?_
  refine g_lload 201 X114 hx (hb hby at_199) rfl (v := z1) rfl ?_
  refine g_iconst 202 X114 hx (hb hby at_201) rfl (z := (5 : Int32)) rfl ?_
  have hq202_hm_117 : 0 ≤ z1.toInt := hM
  have hq202_hk_118 : 0 ≤ (5 : Int32).toInt ∧ (5 : Int32).toInt ≤ 18 := by decide
  refine g_callS 205 X114 hx hZ (y := (⟨"com/example/utility_meter_billing/utilitymeterbilling/io/WholeNumberValuePinLaw", "dig", "(JI)B"⟩ : MethodName)) hown (hw _ (List.mem_of_getElem? (i := 2) rfl)) (hw _ (List.mem_of_getElem? (i := 3) rfl)) (hw _ (List.mem_of_getElem? (i := 4) rfl)) (hw _ (List.mem_of_getElem? (i := 5) rfl)) (by decide) e114 (rm1 l Z a0 hw [] z1 (5 : Int32) h114 n0 Zs115 hq202_hm_117 hq202_hk_118) (by rw [hml]; rfl) [(.long z1), (.int (5 : Int32))] [(.int (14 : Int32)), (.ref b8)] rfl rfl (lenOf pd_1 rfl) 2 (Nat.le_of_eq rfl) (hb hby at_202) (by decide) (by decide) (by decide) (by decide) rfl ?_
  intro v117 T117 L117 X117 hQ117
  obtain ⟨r117, rfl, hr117, N117q, K117⟩ := hQ117
  have N117 := Fr.app N116 N117q
  have f120 := A114'.keep K117 nin0
  have Zs121 : n0 ≤ T117.heap.size := (Nat.le_trans Zs115 K117.1)
  show Go p e below s 56 1024 (Q0 Z q1 p2 p3 p4 p5 p6 h0 n0) T117 (mkF m 205 #[.val (.long q1), .second, .val (.int p2), .val (.int p3), .val (.int p4), .val (.int p5), .val (.int p6), .val (.long z1), .second, .val (.int z2), .val (.int z3), .val (.int z4), .val (.int z7), .val (.ref b8), .unset, .unset, .unset, .unset, .unset, .unset, .unset, .unset, .unset, .unset, .unset, .unset, .unset, .unset, .unset, .unset, .unset, .unset, .unset, .unset, .unset, .unset] [(.int r117), (.int (14 : Int32)), (.ref b8)])
  refine g_bastore 206 X117 hx hZ rfl f120 14 (by decide) rfl (Nat.le_of_ble_eq_true rfl) (z := r117.toInt8.toInt32) rfl (hb hby at_205) rfl ?_
  intro T122 h122 X122 e122 W122 A122
  have Zs123 : n0 ≤ h122.size := (Nat.le_trans Zs121 (Keep.of_wr W122).1)
  have A122' : AI Z h122 b8 .byte [z2.toInt8.toInt32, r13.toInt8.toInt32, r21.toInt8.toInt32, r29.toInt8.toInt32, r37.toInt8.toInt32, r45.toInt8.toInt32, r53.toInt8.toInt32, r61.toInt8.toInt32, r69.toInt8.toInt32, r77.toInt8.toInt32, r85.toInt8.toInt32, r93.toInt8.toInt32, r101.toInt8.toInt32, r109.toInt8.toInt32, r117.toInt8.toInt32, (0 : Int32), (0 : Int32), (0 : Int32), (0 : Int32), (0 : Int32), (0 : Int32)] := A122
  have N124 := Fr.snoc X122 N117 g_b8
  refine g_aload 208 X122 hx (hb hby at_206) rfl (v := (.ref b8)) rfl rfl ?_
  refine g_bipush 210 X122 hx (hb hby at_208) rfl (z := (15 : Int32)) rfl ?_
  refine g_lload 212 X122 hx (hb hby at_210) rfl (v := z1) rfl ?_
  refine g_iconst 213 X122 hx (hb hby at_212) rfl (z := (4 : Int32)) rfl ?_
  have hq213_hm_125 : 0 ≤ z1.toInt := hM
  have hq213_hk_126 : 0 ≤ (4 : Int32).toInt ∧ (4 : Int32).toInt ≤ 18 := by decide
  refine g_callS 216 X122 hx hZ (y := (⟨"com/example/utility_meter_billing/utilitymeterbilling/io/WholeNumberValuePinLaw", "dig", "(JI)B"⟩ : MethodName)) hown (hw _ (List.mem_of_getElem? (i := 2) rfl)) (hw _ (List.mem_of_getElem? (i := 3) rfl)) (hw _ (List.mem_of_getElem? (i := 4) rfl)) (hw _ (List.mem_of_getElem? (i := 5) rfl)) (by decide) e122 (rm1 l Z a0 hw [] z1 (4 : Int32) h122 n0 Zs123 hq213_hm_125 hq213_hk_126) (by rw [hml]; rfl) [(.long z1), (.int (4 : Int32))] [(.int (15 : Int32)), (.ref b8)] rfl rfl (lenOf pd_1 rfl) 2 (Nat.le_of_eq rfl) (hb hby at_213) (by decide) (by decide) (by decide) (by decide) rfl ?_
  intro v125 T125 L125 X125 hQ125
  obtain ⟨r125, rfl, hr125, N125q, K125⟩ := hQ125
  have N125 := Fr.app N124 N125q
  have f128 := A122'.keep K125 nin0
  have Zs129 : n0 ≤ T125.heap.size := (Nat.le_trans Zs123 K125.1)
  show Go p e below s 56 1024 (Q0 Z q1 p2 p3 p4 p5 p6 h0 n0) T125 (mkF m 216 #[.val (.long q1), .second, .val (.int p2), .val (.int p3), .val (.int p4), .val (.int p5), .val (.int p6), .val (.long z1), .second, .val (.int z2), .val (.int z3), .val (.int z4), .val (.int z7), .val (.ref b8), .unset, .unset, .unset, .unset, .unset, .unset, .unset, .unset, .unset, .unset, .unset, .unset, .unset, .unset, .unset, .unset, .unset, .unset, .unset, .unset, .unset, .unset] [(.int r125), (.int (15 : Int32)), (.ref b8)])
  refine g_bastore 217 X125 hx hZ rfl f128 15 (by decide) rfl (Nat.le_of_ble_eq_true rfl) (z := r125.toInt8.toInt32) rfl (hb hby at_216) rfl ?_
  intro T130 h130 X130 e130 W130 A130
  have Zs131 : n0 ≤ h130.size := (Nat.le_trans Zs129 (Keep.of_wr W130).1)
  have A130' : AI Z h130 b8 .byte [z2.toInt8.toInt32, r13.toInt8.toInt32, r21.toInt8.toInt32, r29.toInt8.toInt32, r37.toInt8.toInt32, r45.toInt8.toInt32, r53.toInt8.toInt32, r61.toInt8.toInt32, r69.toInt8.toInt32, r77.toInt8.toInt32, r85.toInt8.toInt32, r93.toInt8.toInt32, r101.toInt8.toInt32, r109.toInt8.toInt32, r117.toInt8.toInt32, r125.toInt8.toInt32, (0 : Int32), (0 : Int32), (0 : Int32), (0 : Int32), (0 : Int32)] := A130
  have N132 := Fr.snoc X130 N125 g_b8
  refine g_aload 219 X130 hx (hb hby at_217) rfl (v := (.ref b8)) rfl rfl ?_
  refine g_bipush 221 X130 hx (hb hby at_219) rfl (z := (16 : Int32)) rfl ?_
  refine g_lload 223 X130 hx (hb hby at_221) rfl (v := z1) rfl ?_
  refine g_iconst 224 X130 hx (hb hby at_223) rfl (z := (3 : Int32)) rfl ?_
  have hq224_hm_133 : 0 ≤ z1.toInt := hM
  have hq224_hk_134 : 0 ≤ (3 : Int32).toInt ∧ (3 : Int32).toInt ≤ 18 := by decide
  refine g_callS 227 X130 hx hZ (y := (⟨"com/example/utility_meter_billing/utilitymeterbilling/io/WholeNumberValuePinLaw", "dig", "(JI)B"⟩ : MethodName)) hown (hw _ (List.mem_of_getElem? (i := 2) rfl)) (hw _ (List.mem_of_getElem? (i := 3) rfl)) (hw _ (List.mem_of_getElem? (i := 4) rfl)) (hw _ (List.mem_of_getElem? (i := 5) rfl)) (by decide) e130 (rm1 l Z a0 hw [] z1 (3 : Int32) h130 n0 Zs131 hq224_hm_133 hq224_hk_134) (by rw [hml]; rfl) [(.long z1), (.int (3 : Int32))] [(.int (16 : Int32)), (.ref b8)] rfl rfl (lenOf pd_1 rfl) 2 (Nat.le_of_eq rfl) (hb hby at_224) (by decide) (by decide) (by decide) (by decide) rfl ?_
  intro v133 T133 L133 X133 hQ133
  obtain ⟨r133, rfl, hr133, N133q, K133⟩ := hQ133
  have N133 := Fr.app N132 N133q
  have f136 := A130'.keep K133 nin0
  have Zs137 : n0 ≤ T133.heap.size := (Nat.le_trans Zs131 K133.1)
  show Go p e below s 56 1024 (Q0 Z q1 p2 p3 p4 p5 p6 h0 n0) T133 (mkF m 227 #[.val (.long q1), .second, .val (.int p2), .val (.int p3), .val (.int p4), .val (.int p5), .val (.int p6), .val (.long z1), .second, .val (.int z2), .val (.int z3), .val (.int z4), .val (.int z7), .val (.ref b8), .unset, .unset, .unset, .unset, .unset, .unset, .unset, .unset, .unset, .unset, .unset, .unset, .unset, .unset, .unset, .unset, .unset, .unset, .unset, .unset, .unset, .unset] [(.int r133), (.int (16 : Int32)), (.ref b8)])
  refine g_bastore 228 X133 hx hZ rfl f136 16 (by decide) rfl (Nat.le_of_ble_eq_true rfl) (z := r133.toInt8.toInt32) rfl (hb hby at_227) rfl ?_
  intro T138 h138 X138 e138 W138 A138
  have Zs139 : n0 ≤ h138.size := (Nat.le_trans Zs137 (Keep.of_wr W138).1)
  have A138' : AI Z h138 b8 .byte [z2.toInt8.toInt32, r13.toInt8.toInt32, r21.toInt8.toInt32, r29.toInt8.toInt32, r37.toInt8.toInt32, r45.toInt8.toInt32, r53.toInt8.toInt32, r61.toInt8.toInt32, r69.toInt8.toInt32, r77.toInt8.toInt32, r85.toInt8.toInt32, r93.toInt8.toInt32, r101.toInt8.toInt32, r109.toInt8.toInt32, r117.toInt8.toInt32, r125.toInt8.toInt32, r133.toInt8.toInt32, (0 : Int32), (0 : Int32), (0 : Int32), (0 : Int32)] := A138
  have N140 := Fr.snoc X138 N133 g_b8
  refine g_aload 230 X138 hx (hb hby at_228) rfl (v := (.ref b8)) rfl rfl ?_
  refine g_bipush 232 X138 hx (hb hby at_230) rfl (z := (17 : Int32)) rfl ?_
  refine g_lload 234 X138 hx (hb hby at_232) rfl (v := z1) rfl ?_
  refine g_iconst 235 X138 hx (hb hby at_234) rfl (z := (2 : Int32)) rfl ?_
  have hq235_hm_141 : 0 ≤ z1.toInt := hM
  have hq235_hk_142 : 0 ≤ (2 : Int32).toInt ∧ (2 : Int32).toInt ≤ 18 := by decide
  refine g_callS 238 X138 hx hZ (y := (⟨"com/example/utility_meter_billing/utilitymeterbilling/io/WholeNumberValuePinLaw", "dig", "(JI)B"⟩ : MethodName)) hown (hw _ (List.mem_of_getElem? (i := 2) rfl)) (hw _ (List.mem_of_getElem? (i := 3) rfl)) (hw _ (List.mem_of_getElem? (i := 4) rfl)) (hw _ (List.mem_of_getElem? (i := 5) rfl)) (by decide) e138 (rm1 l Z a0 hw [] z1 (2 : Int32) h138 n0 Zs139 hq235_hm_141 hq235_hk_142) (by rw [hml]; rfl) [(.long z1), (.int (2 : Int32))] [(.int (17 : Int32)), (.ref b8)] rfl rfl (lenOf pd_1 rfl) 2 (Nat.le_of_eq rfl) (hb hby at_235) (by decide) (by decide) (by decide) (by decide) rfl ?_
  intro v141 T141 L141 X141 hQ141
  obtain ⟨r141, rfl, hr141, N141q, K141⟩ := hQ141
  have N141 := Fr.app N140 N141q
  have f144 := A138'.keep K141 nin0
  have Zs145 : n0 ≤ T141.heap.size := (Nat.le_trans Zs139 K141.1)
  show Go p e below s 56 1024 (Q0 Z q1 p2 p3 p4 p5 p6 h0 n0) T141 (mkF m 238 #[.val (.long q1), .second, .val (.int p2), .val (.int p3), .val (.int p4), .val (.int p5), .val (.int p6), .val (.long z1), .second, .val (.int z2), .val (.int z3), .val (.int z4), .val (.int z7), .val (.ref b8), .unset, .unset, .unset, .unset, .unset, .unset, .unset, .unset, .unset, .unset, .unset, .unset, .unset, .unset, .unset, .unset, .unset, .unset, .unset, .unset, .unset, .unset] [(.int r141), (.int (17 : Int32)), (.ref b8)])
  refine g_bastore 239 X141 hx hZ rfl f144 17 (by decide) rfl (Nat.le_of_ble_eq_true rfl) (z := r141.toInt8.toInt32) rfl (hb hby at_238) rfl ?_
  intro T146 h146 X146 e146 W146 A146
  have Zs147 : n0 ≤ h146.size := (Nat.le_trans Zs145 (Keep.of_wr W146).1)
  have A146' : AI Z h146 b8 .byte [z2.toInt8.toInt32, r13.toInt8.toInt32, r21.toInt8.toInt32, r29.toInt8.toInt32, r37.toInt8.toInt32, r45.toInt8.toInt32, r53.toInt8.toInt32, r61.toInt8.toInt32, r69.toInt8.toInt32, r77.toInt8.toInt32, r85.toInt8.toInt32, r93.toInt8.toInt32, r101.toInt8.toInt32, r109.toInt8.toInt32, r117.toInt8.toInt32, r125.toInt8.toInt32, r133.toInt8.toInt32, r141.toInt8.toInt32, (0 : Int32), (0 : Int32), (0 : Int32)] := A146
  have N148 := Fr.snoc X146 N141 g_b8
  refine g_aload 241 X146 hx (hb hby at_239) rfl (v := (.ref b8)) rfl rfl ?_
  refine g_bipush 243 X146 hx (hb hby at_241) rfl (z := (18 : Int32)) rfl ?_
  refine g_lload 245 X146 hx (hb hby at_243) rfl (v := z1) rfl ?_
  refine g_iconst 246 X146 hx (hb hby at_245) rfl (z := (1 : Int32)) rfl ?_
  have hq246_hm_149 : 0 ≤ z1.toInt := hM
  have hq246_hk_150 : 0 ≤ (1 : Int32).toInt ∧ (1 : Int32).toInt ≤ 18 := by decide
  refine g_callS 249 X146 hx hZ (y := (⟨"com/example/utility_meter_billing/utilitymeterbilling/io/WholeNumberValuePinLaw", "dig", "(JI)B"⟩ : MethodName)) hown (hw _ (List.mem_of_getElem? (i := 2) rfl)) (hw _ (List.mem_of_getElem? (i := 3) rfl)) (hw _ (List.mem_of_getElem? (i := 4) rfl)) (hw _ (List.mem_of_getElem? (i := 5) rfl)) (by decide) e146 (rm1 l Z a0 hw [] z1 (1 : Int32) h146 n0 Zs147 hq246_hm_149 hq246_hk_150) (by rw [hml]; rfl) [(.long z1), (.int (1 : Int32))] [(.int (18 : Int32)), (.ref b8)] rfl rfl (lenOf pd_1 rfl) 2 (Nat.le_of_eq rfl) (hb hby at_246) (by decide) (by decide) (by decide) (by decide) rfl ?_
  intro v149 T149 L149 X149 hQ149
  obtain ⟨r149, rfl, hr149, N149q, K149⟩ := hQ149
  have N149 := Fr.app N148 N149q
  have f152 := A146'.keep K149 nin0
  have Zs153 : n0 ≤ T149.heap.size := (Nat.le_trans Zs147 K149.1)
  show Go p e below s 56 1024 (Q0 Z q1 p2 p3 p4 p5 p6 h0 n0) T149 (mkF m 249 #[.val (.long q1), .second, .val (.int p2), .val (.int p3), .val (.int p4), .val (.int p5), .val (.int p6), .val (.long z1), .second, .val (.int z2), .val (.int z3), .val (.int z4), .val (.int z7), .val (.ref b8), .unset, .unset, .unset, .unset, .unset, .unset, .unset, .unset, .unset, .unset, .unset, .unset, .unset, .unset, .unset, .unset, .unset, .unset, .unset, .unset, .unset, .unset] [(.int r149), (.int (18 : Int32)), (.ref b8)])
  refine g_bastore 250 X149 hx hZ rfl f152 18 (by decide) rfl (Nat.le_of_ble_eq_true rfl) (z := r149.toInt8.toInt32) rfl (hb hby at_249) rfl ?_
  intro T154 h154 X154 e154 W154 A154
  have Zs155 : n0 ≤ h154.size := (Nat.le_trans Zs153 (Keep.of_wr W154).1)
  have A154' : AI Z h154 b8 .byte [z2.toInt8.toInt32, r13.toInt8.toInt32, r21.toInt8.toInt32, r29.toInt8.toInt32, r37.toInt8.toInt32, r45.toInt8.toInt32, r53.toInt8.toInt32, r61.toInt8.toInt32, r69.toInt8.toInt32, r77.toInt8.toInt32, r85.toInt8.toInt32, r93.toInt8.toInt32, r101.toInt8.toInt32, r109.toInt8.toInt32, r117.toInt8.toInt32, r125.toInt8.toInt32, r133.toInt8.toInt32, r141.toInt8.toInt32, r149.toInt8.toInt32, (0 : Int32), (0 : Int32)] := A154
  have N156 := Fr.snoc X154 N149 g_b8
  refine g_aload 252 X154 hx (hb hby at_250) rfl (v := (.ref b8)) rfl rfl ?_
  refine g_bipush 254 X154 hx (hb hby at_252) rfl (z := (19 : Int32)) rfl ?_
  refine g_lload 256 X154 hx (hb hby at_254) rfl (v := z1) rfl ?_
  refine g_iconst 257 X154 hx (hb hby at_256) rfl (z := (0 : Int32)) rfl ?_
  have hq257_hm_157 : 0 ≤ z1.toInt := hM
  have hq257_hk_158 : 0 ≤ (0 : Int32).toInt ∧ (0 : Int32).toInt ≤ 18 := by decide
  refine g_callS 260 X154 hx hZ (y := (⟨"com/example/utility_meter_billing/utilitymeterbilling/io/WholeNumberValuePinLaw", "dig", "(JI)B"⟩ : MethodName)) hown (hw _ (List.mem_of_getElem? (i := 2) rfl)) (hw _ (List.mem_of_getElem? (i := 3) rfl)) (hw _ (List.mem_of_getElem? (i := 4) rfl)) (hw _ (List.mem_of_getElem? (i := 5) rfl)) (by decide) e154 (rm1 l Z a0 hw [] z1 (0 : Int32) h154 n0 Zs155 hq257_hm_157 hq257_hk_158) (by rw [hml]; rfl) [(.long z1), (.int (0 : Int32))] [(.int (19 : Int32)), (.ref b8)] rfl rfl (lenOf pd_1 rfl) 2 (Nat.le_of_eq rfl) (hb hby at_257) (by decide) (by decide) (by decide) (by decide) rfl ?_
  intro v157 T157 L157 X157 hQ157
  obtain ⟨r157, rfl, hr157, N157q, K157⟩ := hQ157
  have N157 := Fr.app N156 N157q
  have f160 := A154'.keep K157 nin0
  have Zs161 : n0 ≤ T157.heap.size := (Nat.le_trans Zs155 K157.1)
  show Go p e below s 56 1024 (Q0 Z q1 p2 p3 p4 p5 p6 h0 n0) T157 (mkF m 260 #[.val (.long q1), .second, .val (.int p2), .val (.int p3), .val (.int p4), .val (.int p5), .val (.int p6), .val (.long z1), .second, .val (.int z2), .val (.int z3), .val (.int z4), .val (.int z7), .val (.ref b8), .unset, .unset, .unset, .unset, .unset, .unset, .unset, .unset, .unset, .unset, .unset, .unset, .unset, .unset, .unset, .unset, .unset, .unset, .unset, .unset, .unset, .unset] [(.int r157), (.int (19 : Int32)), (.ref b8)])
  refine g_bastore 261 X157 hx hZ rfl f160 19 (by decide) rfl (Nat.le_of_ble_eq_true rfl) (z := r157.toInt8.toInt32) rfl (hb hby at_260) rfl ?_
  intro T162 h162 X162 e162 W162 A162
  have Zs163 : n0 ≤ h162.size := (Nat.le_trans Zs161 (Keep.of_wr W162).1)
  have A162' : AI Z h162 b8 .byte [z2.toInt8.toInt32, r13.toInt8.toInt32, r21.toInt8.toInt32, r29.toInt8.toInt32, r37.toInt8.toInt32, r45.toInt8.toInt32, r53.toInt8.toInt32, r61.toInt8.toInt32, r69.toInt8.toInt32, r77.toInt8.toInt32, r85.toInt8.toInt32, r93.toInt8.toInt32, r101.toInt8.toInt32, r109.toInt8.toInt32, r117.toInt8.toInt32, r125.toInt8.toInt32, r133.toInt8.toInt32, r141.toInt8.toInt32, r149.toInt8.toInt32, r157.toInt8.toInt32, (0 : Int32)] := A162
  have N164 := Fr.snoc X162 N157 g_b8
  refine g_aload 263 X162 hx (hb hby at_261) rfl (v := (.ref b8)) rfl rfl ?_
  refine g_bipush 265 X162 hx (hb hby at_263) rfl (z := (20 : Int32)) rfl ?_
  refine g_iload 267 X162 hx (hb hby at_265) rfl (v := z3) rfl ?_
  refine g_bastore 268 X162 hx hZ e162 A162' 20 (by decide) rfl (Nat.le_of_ble_eq_true rfl) (z := z3.toInt8.toInt32) rfl (hb hby at_267) rfl ?_
  intro T165 h165 X165 e165 W165 A165
  have Zs166 : n0 ≤ h165.size := (Nat.le_trans Zs163 (Keep.of_wr W165).1)
  have A165' : AI Z h165 b8 .byte [z2.toInt8.toInt32, r13.toInt8.toInt32, r21.toInt8.toInt32, r29.toInt8.toInt32, r37.toInt8.toInt32, r45.toInt8.toInt32, r53.toInt8.toInt32, r61.toInt8.toInt32, r69.toInt8.toInt32, r77.toInt8.toInt32, r85.toInt8.toInt32, r93.toInt8.toInt32, r101.toInt8.toInt32, r109.toInt8.toInt32, r117.toInt8.toInt32, r125.toInt8.toInt32, r133.toInt8.toInt32, r141.toInt8.toInt32, r149.toInt8.toInt32, r157.toInt8.toInt32, z3.toInt8.toInt32] := A165
  have N167 := Fr.snoc X165 N164 g_b8
  refine g_iload 270 X165 hx (hb hby at_268) rfl (v := z4) rfl ?_
  refine g_callS 273 X165 hx hZ (y := (⟨"com/example/utility_meter_billing/utilitymeterbilling/io/WholeNumberValuePinLaw", "isDigit", "(B)Z"⟩ : MethodName)) hown (hw _ (List.mem_of_getElem? (i := 29) rfl)) (hw _ (List.mem_of_getElem? (i := 30) rfl)) (hw _ (List.mem_of_getElem? (i := 4) rfl)) (hw _ (List.mem_of_getElem? (i := 31) rfl)) (by decide) e165 (rm3 l Z a0 hw [] z4  h165 n0 Zs166 ) (by rw [hml]; rfl) [(.int z4)] [] rfl rfl (lenOf pd_2 rfl) 0 (Nat.le_of_eq rfl) (hb hby at_270) (by decide) (by decide) (by decide) (by decide) rfl ?_
  intro v168 T168 L168 X168 hQ168
  obtain ⟨r168, rfl, hr168, N168q, e168⟩ := hQ168
  have N168 := Fr.app N167 N168q
  show Go p e below s 56 1024 (Q0 Z q1 p2 p3 p4 p5 p6 h0 n0) T168 (mkF m 273 #[.val (.long q1), .second, .val (.int p2), .val (.int p3), .val (.int p4), .val (.int p5), .val (.int p6), .val (.long z1), .second, .val (.int z2), .val (.int z3), .val (.int z4), .val (.int z7), .val (.ref b8), .unset, .unset, .unset, .unset, .unset, .unset, .unset, .unset, .unset, .unset, .unset, .unset, .unset, .unset, .unset, .unset, .unset, .unset, .unset, .unset, .unset, .unset] [(.int r168)])
  suffices Jhj171 : ∀ (z170 : Int32), ((r168 = (0 : Int32) ∧ z170 = (1 : Int32)) ∨ (¬ (r168 = (0 : Int32)) ∧ z170 = (0 : Int32))) → Go p e below s 56 1024 (Q0 Z q1 p2 p3 p4 p5 p6 h0 n0) T168 (mkF m 281 #[.val (.long q1), .second, .val (.int p2), .val (.int p3), .val (.int p4), .val (.int p5), .val (.int p6), .val (.long z1), .second, .val (.int z2), .val (.int z3), .val (.int z4), .val (.int z7), .val (.ref b8), .unset, .unset, .unset, .unset, .unset, .unset, .unset, .unset, .unset, .unset, .unset, .unset, .unset, .unset, .unset, .unset, .unset, .unset, .unset, .unset, .unset, .unset] [(.int z170)]) by
    by_cases hc273_168 : r168 = (0 : Int32)
    ·
      refine g_ifNo 276 X168 hx (hb hby at_273)  ((if0 _ _).trans (teq hc273_168).2) rfl ?_
      refine g_iconst 277 X168 hx (hb hby at_276) rfl (z := (1 : Int32)) rfl ?_
      refine g_goto 281 X168 hx (hb hby at_277) (by decide) (by decide) ?_
      exact Jhj171 (1 : Int32) (Or.inl ⟨hc273_168, rfl⟩)
    ·
      refine g_ifYes 280 X168 hx (hb hby at_273)  ((if0 _ _).trans (feq hc273_168).2) (by decide) (by decide) ?_
      refine g_iconst 281 X168 hx (hb hby at_280) rfl (z := (0 : Int32)) rfl ?_
      exact Jhj171 (0 : Int32) (Or.inr (⟨hc273_168, rfl⟩))
  intro z170 hj171
  refine g_istore 283 X168 hx (hb hby at_281) rfl (Ls' := #[.val (.long q1), .second, .val (.int p2), .val (.int p3), .val (.int p4), .val (.int p5), .val (.int p6), .val (.long z1), .second, .val (.int z2), .val (.int z3), .val (.int z4), .val (.int z7), .val (.ref b8), .val (.int z170), .unset, .unset, .unset, .unset, .unset, .unset, .unset, .unset, .unset, .unset, .unset, .unset, .unset, .unset, .unset, .unset, .unset, .unset, .unset, .unset, .unset]) rfl ?_
  refine g_iload 285 X168 hx (hb hby at_283) rfl (v := z170) rfl ?_
  suffices J177 : ∀ (F176 : List Int32) (Tj177 : State) (hj177 : Heap) (lj177 : List Loc), ((z170 = (0 : Int32) ∧ F176 = [z2.toInt8.toInt32, r13.toInt8.toInt32, r21.toInt8.toInt32, r29.toInt8.toInt32, r37.toInt8.toInt32, r45.toInt8.toInt32, r53.toInt8.toInt32, r61.toInt8.toInt32, r69.toInt8.toInt32, r77.toInt8.toInt32, r85.toInt8.toInt32, r93.toInt8.toInt32, r101.toInt8.toInt32, r109.toInt8.toInt32, r117.toInt8.toInt32, r125.toInt8.toInt32, r133.toInt8.toInt32, r141.toInt8.toInt32, r149.toInt8.toInt32, r157.toInt8.toInt32, z3.toInt8.toInt32]) ∨ (¬ (z170 = (0 : Int32)) ∧ F176 = (List.set [z2.toInt8.toInt32, r13.toInt8.toInt32, r21.toInt8.toInt32, r29.toInt8.toInt32, r37.toInt8.toInt32, r45.toInt8.toInt32, r53.toInt8.toInt32, r61.toInt8.toInt32, r69.toInt8.toInt32, r77.toInt8.toInt32, r85.toInt8.toInt32, r93.toInt8.toInt32, r101.toInt8.toInt32, r109.toInt8.toInt32, r117.toInt8.toInt32, r125.toInt8.toInt32, r133.toInt8.toInt32, r141.toInt8.toInt32, r149.toInt8.toInt32, r157.toInt8.toInt32, z3.toInt8.toInt32] (z7.toInt.toNat) z4.toInt8.toInt32))) → (Stand p l e room_1 s m #[(.long q1), (.int p2), (.int p3), (.int p4), (.int p5), (.int p6)] below meth c Tj177 lj177 20 382) → (Tj177.heap = hj177) → (Fr n0 lj177) → (n0 ≤ hj177.size) → (AI Z hj177 b8 .byte F176) → Go p e below s 56 1024 (Q0 Z q1 p2 p3 p4 p5 p6 h0 n0) Tj177 (mkF m 295 #[.val (.long q1), .second, .val (.int p2), .val (.int p3), .val (.int p4), .val (.int p5), .val (.int p6), .val (.long z1), .second, .val (.int z2), .val (.int z3), .val (.int z4), .val (.int z7), .val (.ref b8), .val (.int z170), .unset, .unset, .unset, .unset, .unset, .unset, .unset, .unset, .unset, .unset, .unset, .unset, .unset, .unset, .unset, .unset, .unset, .unset, .unset, .unset, .unset] []) by
    by_cases hc285_171 : z170 = (0 : Int32)
    ·
      refine g_ifYes 295 X168 hx (hb hby at_285)  ((if0 _ _).trans (teq hc285_171).1) (by decide) (by decide) ?_
      exact J177 [z2.toInt8.toInt32, r13.toInt8.toInt32, r21.toInt8.toInt32, r29.toInt8.toInt32, r37.toInt8.toInt32, r45.toInt8.toInt32, r53.toInt8.toInt32, r61.toInt8.toInt32, r69.toInt8.toInt32, r77.toInt8.toInt32, r85.toInt8.toInt32, r93.toInt8.toInt32, r101.toInt8.toInt32, r109.toInt8.toInt32, r117.toInt8.toInt32, r125.toInt8.toInt32, r133.toInt8.toInt32, r141.toInt8.toInt32, r149.toInt8.toInt32, r157.toInt8.toInt32, z3.toInt8.toInt32] T168 h165 _ (Or.inl ⟨hc285_171, rfl⟩) (X168.more (by decide) (by decide)) e168 N168 Zs166 A165'
    ·
      refine g_ifNo 288 X168 hx (hb hby at_285)  ((if0 _ _).trans (feq hc285_171).1) rfl ?_
      refine g_aload 290 X168 hx (hb hby at_288) rfl (v := (.ref b8)) rfl rfl ?_
      refine g_iload 292 X168 hx (hb hby at_290) rfl (v := z7) rfl ?_
      refine g_iload 294 X168 hx (hb hby at_292) rfl (v := z4) rfl ?_
      refine g_bastore 295 X168 hx hZ e168 A165' (z7.toInt.toNat) (own_nat0 (by omega)) rfl (by show _ < 21; omega) (z := z4.toInt8.toInt32) rfl (hb hby at_294) rfl ?_
      intro T178 h178 X178 e178 W178 A178
      have Zs179 : n0 ≤ h178.size := (Nat.le_trans Zs166 (Keep.of_wr W178).1)
      have N180 := Fr.snoc X178 N168 g_b8
      exact J177 (List.set [z2.toInt8.toInt32, r13.toInt8.toInt32, r21.toInt8.toInt32, r29.toInt8.toInt32, r37.toInt8.toInt32, r45.toInt8.toInt32, r53.toInt8.toInt32, r61.toInt8.toInt32, r69.toInt8.toInt32, r77.toInt8.toInt32, r85.toInt8.toInt32, r93.toInt8.toInt32, r101.toInt8.toInt32, r109.toInt8.toInt32, r117.toInt8.toInt32, r125.toInt8.toInt32, r133.toInt8.toInt32, r141.toInt8.toInt32, r149.toInt8.toInt32, r157.toInt8.toInt32, z3.toInt8.toInt32] (z7.toInt.toNat) z4.toInt8.toInt32) T178 h178 _ (Or.inr ⟨hc285_171, rfl⟩) (X178.more (by decide) (by decide)) e178 N180 Zs179 A178
  intro F176 Tj177 hj177 lj177 hJ177 Xj177 ej177 Nj177 Zj177 fj177_0
  refine g_iload 297 Xj177 hx (hb hby at_295) rfl (v := p4) rfl ?_
  have hF : own_F z1 F176 z2 z3 z7 z170 := (sub0_2 p2 p3 p6 z1 z2 z3 z4 z7 r13 r21 r29 r37 r45 r53 r61 r69 r77 r85 r93 r101 r109 r117 r125 r133 r141 r149 r157 r168 z170 F176 hz2 hz3 hz4 hPos hr13 hr21 hr29 hr37 hr45 hr53 hr61 hr69 hr77 hr85 hr93 hr101 hr109 hr117 hr125 hr133 hr141 hr149 hr157 hr168 hj171 hJ177)
  refine g_ldc 299 Xj177 hx hZ hown (hw _ (List.mem_of_getElem? (i := 32) rfl)) (hb hby at_297) rfl ?_
  obtain ⟨z181, hz181⟩ : ∃ z : Int32, p4 &&& (2147483647 : Int32) = z := ⟨_, rfl⟩
  refine g_iand 300 Xj177 hx (hb hby at_299) rfl (z := z181) hz181 ?_
  refine g_bipush 302 Xj177 hx (hb hby at_300) rfl (z := (22 : Int32)) rfl ?_
  obtain ⟨z182, hz182⟩ : ∃ z : Int32, z181 % (22 : Int32) = z := ⟨_, rfl⟩
  refine g_irem 303 Xj177 hx (hb hby at_302) rfl (by decide) (z := z182) hz182 ?_
  refine g_istore 305 Xj177 hx (hb hby at_303) rfl (Ls' := #[.val (.long q1), .second, .val (.int p2), .val (.int p3), .val (.int p4), .val (.int p5), .val (.int p6), .val (.long z1), .second, .val (.int z2), .val (.int z3), .val (.int z4), .val (.int z7), .val (.ref b8), .val (.int z170), .val (.int z182), .unset, .unset, .unset, .unset, .unset, .unset, .unset, .unset, .unset, .unset, .unset, .unset, .unset, .unset, .unset, .unset, .unset, .unset, .unset, .unset]) rfl ?_
  refine g_iload 307 Xj177 hx (hb hby at_305) rfl (v := p5) rfl ?_
  refine g_ldc 309 Xj177 hx hZ hown (hw _ (List.mem_of_getElem? (i := 32) rfl)) (hb hby at_307) rfl ?_
  obtain ⟨z183, hz183⟩ : ∃ z : Int32, p5 &&& (2147483647 : Int32) = z := ⟨_, rfl⟩
  refine g_iand 310 Xj177 hx (hb hby at_309) rfl (z := z183) hz183 ?_
  refine g_bipush 312 Xj177 hx (hb hby at_310) rfl (z := (22 : Int32)) rfl ?_
  obtain ⟨z184, hz184⟩ : ∃ z : Int32, z183 % (22 : Int32) = z := ⟨_, rfl⟩
  refine g_irem 313 Xj177 hx (hb hby at_312) rfl (by decide) (z := z184) hz184 ?_
  refine g_istore 315 Xj177 hx (hb hby at_313) rfl (Ls' := #[.val (.long q1), .second, .val (.int p2), .val (.int p3), .val (.int p4), .val (.int p5), .val (.int p6), .val (.long z1), .second, .val (.int z2), .val (.int z3), .val (.int z4), .val (.int z7), .val (.ref b8), .val (.int z170), .val (.int z182), .val (.int z184), .unset, .unset, .unset, .unset, .unset, .unset, .unset, .unset, .unset, .unset, .unset, .unset, .unset, .unset, .unset, .unset, .unset, .unset, .unset]) rfl ?_
  refine g_iload 317 Xj177 hx (hb hby at_315) rfl (v := z182) rfl ?_
  refine g_iload 319 Xj177 hx (hb hby at_317) rfl (v := z184) rfl ?_
  refine g_callS 322 Xj177 hx hZ (y := (⟨"java/lang/Math", "min", "(II)I"⟩ : MethodName)) hown (hw _ (List.mem_of_getElem? (i := 33) rfl)) (hw _ (List.mem_of_getElem? (i := 34) rfl)) (hw _ (List.mem_of_getElem? (i := 35) rfl)) (hw _ (List.mem_of_getElem? (i := 36) rfl)) (by decide) ej177 (rm4 l Z a0 hw [] z182 z184  hj177 n0 Zj177 ) (by rw [hml]; rfl) [(.int z182), (.int z184)] [] rfl rfl (lenOf pd_3 rfl) 0 (Nat.le_of_eq rfl) (hb hby at_319) (by decide) (by decide) (by decide) (by decide) rfl ?_
  intro v185 T185 L185 X185 hQ185
  obtain ⟨r185, rfl, hr185, N185q, e185⟩ := hQ185
  have N185 := Fr.app Nj177 N185q
  show Go p e below s 56 1024 (Q0 Z q1 p2 p3 p4 p5 p6 h0 n0) T185 (mkF m 322 #[.val (.long q1), .second, .val (.int p2), .val (.int p3), .val (.int p4), .val (.int p5), .val (.int p6), .val (.long z1), .second, .val (.int z2), .val (.int z3), .val (.int z4), .val (.int z7), .val (.ref b8), .val (.int z170), .val (.int z182), .val (.int z184), .unset, .unset, .unset, .unset, .unset, .unset, .unset, .unset, .unset, .unset, .unset, .unset, .unset, .unset, .unset, .unset, .unset, .unset, .unset] [(.int r185)])
  refine g_istore 324 X185 hx (hb hby at_322) rfl (Ls' := #[.val (.long q1), .second, .val (.int p2), .val (.int p3), .val (.int p4), .val (.int p5), .val (.int p6), .val (.long z1), .second, .val (.int z2), .val (.int z3), .val (.int z4), .val (.int z7), .val (.ref b8), .val (.int z170), .val (.int z182), .val (.int z184), .val (.int r185), .unset, .unset, .unset, .unset, .unset, .unset, .unset, .unset, .unset, .unset, .unset, .unset, .unset, .unset, .unset, .unset, .unset, .unset]) rfl ?_
  refine g_iload 326 X185 hx (hb hby at_324) rfl (v := z182) rfl ?_
  refine g_iload 328 X185 hx (hb hby at_326) rfl (v := z184) rfl ?_
  refine g_callS 331 X185 hx hZ (y := (⟨"java/lang/Math", "max", "(II)I"⟩ : MethodName)) hown (hw _ (List.mem_of_getElem? (i := 37) rfl)) (hw _ (List.mem_of_getElem? (i := 38) rfl)) (hw _ (List.mem_of_getElem? (i := 35) rfl)) (hw _ (List.mem_of_getElem? (i := 39) rfl)) (by decide) e185 (rm5 l Z a0 hw [] z182 z184  hj177 n0 Zj177 ) (by rw [hml]; rfl) [(.int z182), (.int z184)] [] rfl rfl (lenOf pd_3 rfl) 0 (Nat.le_of_eq rfl) (hb hby at_328) (by decide) (by decide) (by decide) (by decide) rfl ?_
  intro v186 T186 L186 X186 hQ186
  obtain ⟨r186, rfl, hr186, N186q, e186⟩ := hQ186
  have N186 := Fr.app N185 N186q
  show Go p e below s 56 1024 (Q0 Z q1 p2 p3 p4 p5 p6 h0 n0) T186 (mkF m 331 #[.val (.long q1), .second, .val (.int p2), .val (.int p3), .val (.int p4), .val (.int p5), .val (.int p6), .val (.long z1), .second, .val (.int z2), .val (.int z3), .val (.int z4), .val (.int z7), .val (.ref b8), .val (.int z170), .val (.int z182), .val (.int z184), .val (.int r185), .unset, .unset, .unset, .unset, .unset, .unset, .unset, .unset, .unset, .unset, .unset, .unset, .unset, .unset, .unset, .unset, .unset, .unset] [(.int r186)])
  refine g_istore 333 X186 hx (hb hby at_331) rfl (Ls' := #[.val (.long q1), .second, .val (.int p2), .val (.int p3), .val (.int p4), .val (.int p5), .val (.int p6), .val (.long z1), .second, .val (.int z2), .val (.int z3), .val (.int z4), .val (.int z7), .val (.ref b8), .val (.int z170), .val (.int z182), .val (.int z184), .val (.int r185), .val (.int r186), .unset, .unset, .unset, .unset, .unset, .unset, .unset, .unset, .unset, .unset, .unset, .unset, .unset, .unset, .unset, .unset, .unset]) rfl ?_
  refine g_aload 335 X186 hx (hb hby at_333) rfl (v := (.ref b8)) rfl rfl ?_
  have hft : 0 ≤ r185.toInt ∧ r185.toInt ≤ r186.toInt ∧ r186.toInt ≤ 21 := (sub0_3 p4 p5 z181 z182 z183 z184 r185 r186 hz181 hz182 hz183 hz184 hr185 hr186)
  refine g_iload 337 X186 hx (hb hby at_335) rfl (v := r185) rfl ?_
  refine g_iload 339 X186 hx (hb hby at_337) rfl (v := r186) rfl ?_
  have hq339_hf_187 : 0 ≤ r185.toInt ∧ r185.toInt ≤ r186.toInt ∧ r186.toInt ≤ 21 := hft
  have hq339_hl_188 : F176.length = 21 := hF.1
  refine g_callS 342 X186 hx hZ (y := (⟨"com/example/utility_meter_billing/utilitymeterbilling/io/WholeNumber", "value", "([BII)J"⟩ : MethodName)) hown (hw _ (List.mem_of_getElem? (i := 40) rfl)) (hw _ (List.mem_of_getElem? (i := 41) rfl)) (hw _ (List.mem_of_getElem? (i := 42) rfl)) (hw _ (List.mem_of_getElem? (i := 43) rfl)) (by decide) e186 (rm6 l Z a0 hw [] b8 r185 r186 F176 hj177 n0 Zj177 fj177_0 hq339_hf_187 hq339_hl_188) (by rw [hml]; rfl) [(.ref b8), (.int r185), (.int r186)] [] rfl rfl (lenOf pd_4 rfl) 0 (Nat.le_of_eq rfl) (hb hby at_339) (by decide) (by decide) (by decide) (by decide) rfl ?_
  intro v187 T187 L187 X187 hQ187
  obtain ⟨r187, rfl, hr187, N187q, e187⟩ := hQ187
  have N187 := Fr.app N186 N187q
  show Go p e below s 56 1024 (Q0 Z q1 p2 p3 p4 p5 p6 h0 n0) T187 (mkF m 342 #[.val (.long q1), .second, .val (.int p2), .val (.int p3), .val (.int p4), .val (.int p5), .val (.int p6), .val (.long z1), .second, .val (.int z2), .val (.int z3), .val (.int z4), .val (.int z7), .val (.ref b8), .val (.int z170), .val (.int z182), .val (.int z184), .val (.int r185), .val (.int r186), .unset, .unset, .unset, .unset, .unset, .unset, .unset, .unset, .unset, .unset, .unset, .unset, .unset, .unset, .unset, .unset, .unset] [(.long r187)])
  refine g_lstore 344 X187 hx (hb hby at_342) rfl (Ls' := #[.val (.long q1), .second, .val (.int p2), .val (.int p3), .val (.int p4), .val (.int p5), .val (.int p6), .val (.long z1), .second, .val (.int z2), .val (.int z3), .val (.int z4), .val (.int z7), .val (.ref b8), .val (.int z170), .val (.int z182), .val (.int z184), .val (.int r185), .val (.int r186), .val (.long r187), .second, .unset, .unset, .unset, .unset, .unset, .unset, .unset, .unset, .unset, .unset, .unset, .unset, .unset, .unset, .unset]) rfl ?_
  refine g_iload 346 X187 hx (hb hby at_344) rfl (v := r185) rfl ?_
  refine g_iload 348 X187 hx (hb hby at_346) rfl (v := r186) rfl ?_
  by_cases hc348_189 : r185 = r186
  ·
    refine g_icmpNo 351 X187 hx (hb hby at_348)  (teq hc348_189).2 rfl ?_
    refine g_ldc2 354 X187 hx hZ hown (hw _ (List.mem_of_getElem? (i := 45) rfl)) (hb hby at_351) rfl ?_
    refine g_lstore 356 X187 hx (hb hby at_354) rfl (Ls' := #[.val (.long q1), .second, .val (.int p2), .val (.int p3), .val (.int p4), .val (.int p5), .val (.int p6), .val (.long z1), .second, .val (.int z2), .val (.int z3), .val (.int z4), .val (.int z7), .val (.ref b8), .val (.int z170), .val (.int z182), .val (.int z184), .val (.int r185), .val (.int r186), .val (.long r187), .second, .val (.long (-1 : Int64)), .second, .unset, .unset, .unset, .unset, .unset, .unset, .unset, .unset, .unset, .unset, .unset, .unset, .unset]) rfl ?_
    refine g_goto 678 X187 hx (hb hby at_356) (by decide) (by decide) ?_
    refine g_lload 680 X187 hx (hb hby at_678) rfl (v := r187) rfl ?_
    refine g_lload 682 X187 hx (hb hby at_680) rfl (v := (-1 : Int64)) rfl ?_
    suffices Jhj193 : ∀ (z192 : Int32), ((r187 = (-1 : Int64) ∧ z192 = (1 : Int32)) ∨ (¬ (r187 = (-1 : Int64)) ∧ z192 = (0 : Int32))) → Go p e below s 56 1024 (Q0 Z q1 p2 p3 p4 p5 p6 h0 n0) T187 (mkF m 691 #[.val (.long q1), .second, .val (.int p2), .val (.int p3), .val (.int p4), .val (.int p5), .val (.int p6), .val (.long z1), .second, .val (.int z2), .val (.int z3), .val (.int z4), .val (.int z7), .val (.ref b8), .val (.int z170), .val (.int z182), .val (.int z184), .val (.int r185), .val (.int r186), .val (.long r187), .second, .val (.long (-1 : Int64)), .second, .unset, .unset, .unset, .unset, .unset, .unset, .unset, .unset, .unset, .unset, .unset, .unset, .unset] [(.int z192)]) by
      by_cases hc682_190 : r187 = (-1 : Int64)
      ·
        refine g_lcmpNo 686 X187 hx (hb hby at_682) rfl (hb hby at_683) (teqL hc682_190).2 rfl ?_
        refine g_iconst 687 X187 hx (hb hby at_686) rfl (z := (1 : Int32)) rfl ?_
        refine g_goto 691 X187 hx (hb hby at_687) (by decide) (by decide) ?_
        exact Jhj193 (1 : Int32) (Or.inl ⟨hc682_190, rfl⟩)
      ·
        refine g_lcmpYes 690 X187 hx (hb hby at_682) rfl (hb hby at_683) (feqL hc682_190).2 (by decide) (by decide) ?_
        refine g_iconst 691 X187 hx (hb hby at_690) rfl (z := (0 : Int32)) rfl ?_
        exact Jhj193 (0 : Int32) (Or.inr (⟨hc682_190, rfl⟩))
    intro z192 hj193
    have hl0 : z192 = 1 := leaf_0 q1 p2 p3 p4 p5 p6 z1 z2 z3 z4 z7 z170 F176 z182 z184 r185 r186 r187 z192 hM hPos hF hft hr187 hc348_189 hj193
    subst hl0
    exact g_retN X187 hx (t := .boolean) Bd.returns hlk (by simp) rfl (hb hby at_691) (by decide) (by decide) ⟨rfl, N187⟩
  ·
    refine g_icmpYes 359 X187 hx (hb hby at_348)  (feq hc348_189).2 (by decide) (by decide) ?_
    refine g_iload 361 X187 hx (hb hby at_359) rfl (v := r185) rfl ?_
    suffices Jhj196 : ∀ (z195 : Int32), ((r185 = (0 : Int32) ∧ z195 = (1 : Int32)) ∨ (¬ (r185 = (0 : Int32)) ∧ z195 = (0 : Int32))) → Go p e below s 56 1024 (Q0 Z q1 p2 p3 p4 p5 p6 h0 n0) T187 (mkF m 369 #[.val (.long q1), .second, .val (.int p2), .val (.int p3), .val (.int p4), .val (.int p5), .val (.int p6), .val (.long z1), .second, .val (.int z2), .val (.int z3), .val (.int z4), .val (.int z7), .val (.ref b8), .val (.int z170), .val (.int z182), .val (.int z184), .val (.int r185), .val (.int r186), .val (.long r187), .second, .unset, .unset, .unset, .unset, .unset, .unset, .unset, .unset, .unset, .unset, .unset, .unset, .unset, .unset, .unset] [(.int z195)]) by
      by_cases hc361_193 : r185 = (0 : Int32)
      ·
        refine g_ifNo 364 X187 hx (hb hby at_361)  ((if0 _ _).trans (teq hc361_193).2) rfl ?_
        refine g_iconst 365 X187 hx (hb hby at_364) rfl (z := (1 : Int32)) rfl ?_
        refine g_goto 369 X187 hx (hb hby at_365) (by decide) (by decide) ?_
        exact Jhj196 (1 : Int32) (Or.inl ⟨hc361_193, rfl⟩)
      ·
        refine g_ifYes 368 X187 hx (hb hby at_361)  ((if0 _ _).trans (feq hc361_193).2) (by decide) (by decide) ?_
        refine g_iconst 369 X187 hx (hb hby at_368) rfl (z := (0 : Int32)) rfl ?_
        exact Jhj196 (0 : Int32) (Or.inr (⟨hc361_193, rfl⟩))
    intro z195 hj196
    refine g_istore 371 X187 hx (hb hby at_369) rfl (Ls' := #[.val (.long q1), .second, .val (.int p2), .val (.int p3), .val (.int p4), .val (.int p5), .val (.int p6), .val (.long z1), .second, .val (.int z2), .val (.int z3), .val (.int z4), .val (.int z7), .val (.ref b8), .val (.int z170), .val (.int z182), .val (.int z184), .val (.int r185), .val (.int r186), .val (.long r187), .second, .unset, .unset, .val (.int z195), .unset, .unset, .unset, .unset, .unset, .unset, .unset, .unset, .unset, .unset, .unset, .unset]) rfl ?_
    refine g_iload 373 X187 hx (hb hby at_371) rfl (v := r186) rfl ?_
    refine g_bipush 375 X187 hx (hb hby at_373) rfl (z := (21 : Int32)) rfl ?_
    suffices Jhj199 : ∀ (z198 : Int32), ((r186 = (21 : Int32) ∧ z198 = (1 : Int32)) ∨ (¬ (r186 = (21 : Int32)) ∧ z198 = (0 : Int32))) → Go p e below s 56 1024 (Q0 Z q1 p2 p3 p4 p5 p6 h0 n0) T187 (mkF m 383 #[.val (.long q1), .second, .val (.int p2), .val (.int p3), .val (.int p4), .val (.int p5), .val (.int p6), .val (.long z1), .second, .val (.int z2), .val (.int z3), .val (.int z4), .val (.int z7), .val (.ref b8), .val (.int z170), .val (.int z182), .val (.int z184), .val (.int r185), .val (.int r186), .val (.long r187), .second, .unset, .unset, .val (.int z195), .unset, .unset, .unset, .unset, .unset, .unset, .unset, .unset, .unset, .unset, .unset, .unset] [(.int z198)]) by
      by_cases hc375_196 : r186 = (21 : Int32)
      ·
        refine g_icmpNo 378 X187 hx (hb hby at_375)  (teq hc375_196).2 rfl ?_
        refine g_iconst 379 X187 hx (hb hby at_378) rfl (z := (1 : Int32)) rfl ?_
        refine g_goto 383 X187 hx (hb hby at_379) (by decide) (by decide) ?_
        exact Jhj199 (1 : Int32) (Or.inl ⟨hc375_196, rfl⟩)
      ·
        refine g_icmpYes 382 X187 hx (hb hby at_375)  (feq hc375_196).2 (by decide) (by decide) ?_
        refine g_iconst 383 X187 hx (hb hby at_382) rfl (z := (0 : Int32)) rfl ?_
        exact Jhj199 (0 : Int32) (Or.inr (⟨hc375_196, rfl⟩))
    intro z198 hj199
    refine g_istore 385 X187 hx (hb hby at_383) rfl (Ls' := #[.val (.long q1), .second, .val (.int p2), .val (.int p3), .val (.int p4), .val (.int p5), .val (.int p6), .val (.long z1), .second, .val (.int z2), .val (.int z3), .val (.int z4), .val (.int z7), .val (.ref b8), .val (.int z170), .val (.int z182), .val (.int z184), .val (.int r185), .val (.int r186), .val (.long r187), .second, .unset, .unset, .val (.int z195), .val (.int z198), .unset, .unset, .unset, .unset, .unset, .unset, .unset, .unset, .unset, .unset, .unset]) rfl ?_
    refine g_iload 387 X187 hx (hb hby at_385) rfl (v := z195) rfl ?_
    suffices J222 : ∀ (z221 : Int32) (Tj222 : State) (hj222 : Heap) (lj222 : List Loc), ((z195 = (0 : Int32) ∧ z198 = (0 : Int32) ∧ z170 = (0 : Int32) ∧ z221 = (0 : Int32)) ∨ (z195 = (0 : Int32) ∧ z198 = (0 : Int32) ∧ ¬ (z170 = (0 : Int32)) ∧ z7 < r185 ∧ z221 = (0 : Int32)) ∨ (z195 = (0 : Int32) ∧ z198 = (0 : Int32) ∧ ¬ (z170 = (0 : Int32)) ∧ ¬ (z7 < r185) ∧ z7 < r186 ∧ z221 = (1 : Int32)) ∨ (z195 = (0 : Int32) ∧ z198 = (0 : Int32) ∧ ¬ (z170 = (0 : Int32)) ∧ ¬ (z7 < r185) ∧ ¬ (z7 < r186) ∧ z221 = (0 : Int32)) ∨ (∃ (r205 : Int32), z195 = (0 : Int32) ∧ ¬ (z198 = (0 : Int32)) ∧ Rel3 z3 r205 ∧ r205 = (0 : Int32) ∧ z221 = (1 : Int32)) ∨ (∃ (r205 : Int32), z195 = (0 : Int32) ∧ ¬ (z198 = (0 : Int32)) ∧ Rel3 z3 r205 ∧ ¬ (r205 = (0 : Int32)) ∧ z170 = (0 : Int32) ∧ z221 = (0 : Int32)) ∨ (∃ (r205 : Int32), z195 = (0 : Int32) ∧ ¬ (z198 = (0 : Int32)) ∧ Rel3 z3 r205 ∧ ¬ (r205 = (0 : Int32)) ∧ ¬ (z170 = (0 : Int32)) ∧ z7 < r185 ∧ z221 = (0 : Int32)) ∨ (∃ (r205 : Int32), z195 = (0 : Int32) ∧ ¬ (z198 = (0 : Int32)) ∧ Rel3 z3 r205 ∧ ¬ (r205 = (0 : Int32)) ∧ ¬ (z170 = (0 : Int32)) ∧ ¬ (z7 < r185) ∧ z7 < r186 ∧ z221 = (1 : Int32)) ∨ (∃ (r205 : Int32), z195 = (0 : Int32) ∧ ¬ (z198 = (0 : Int32)) ∧ Rel3 z3 r205 ∧ ¬ (r205 = (0 : Int32)) ∧ ¬ (z170 = (0 : Int32)) ∧ ¬ (z7 < r185) ∧ ¬ (z7 < r186) ∧ z221 = (0 : Int32)) ∨ (∃ (r210 : Int32), ¬ (z195 = (0 : Int32)) ∧ Rel3 z2 r210 ∧ r210 = (0 : Int32) ∧ z221 = (1 : Int32)) ∨ (∃ (r210 : Int32), ¬ (z195 = (0 : Int32)) ∧ Rel3 z2 r210 ∧ ¬ (r210 = (0 : Int32)) ∧ z198 = (0 : Int32) ∧ z170 = (0 : Int32) ∧ z221 = (0 : Int32)) ∨ (∃ (r210 : Int32), ¬ (z195 = (0 : Int32)) ∧ Rel3 z2 r210 ∧ ¬ (r210 = (0 : Int32)) ∧ z198 = (0 : Int32) ∧ ¬ (z170 = (0 : Int32)) ∧ z7 < r185 ∧ z221 = (0 : Int32)) ∨ (∃ (r210 : Int32), ¬ (z195 = (0 : Int32)) ∧ Rel3 z2 r210 ∧ ¬ (r210 = (0 : Int32)) ∧ z198 = (0 : Int32) ∧ ¬ (z170 = (0 : Int32)) ∧ ¬ (z7 < r185) ∧ z7 < r186 ∧ z221 = (1 : Int32)) ∨ (∃ (r210 : Int32), ¬ (z195 = (0 : Int32)) ∧ Rel3 z2 r210 ∧ ¬ (r210 = (0 : Int32)) ∧ z198 = (0 : Int32) ∧ ¬ (z170 = (0 : Int32)) ∧ ¬ (z7 < r185) ∧ ¬ (z7 < r186) ∧ z221 = (0 : Int32)) ∨ (∃ (r210 : Int32) (r216 : Int32), ¬ (z195 = (0 : Int32)) ∧ Rel3 z2 r210 ∧ ¬ (r210 = (0 : Int32)) ∧ ¬ (z198 = (0 : Int32)) ∧ Rel3 z3 r216 ∧ r216 = (0 : Int32) ∧ z221 = (1 : Int32)) ∨ (∃ (r210 : Int32) (r216 : Int32), ¬ (z195 = (0 : Int32)) ∧ Rel3 z2 r210 ∧ ¬ (r210 = (0 : Int32)) ∧ ¬ (z198 = (0 : Int32)) ∧ Rel3 z3 r216 ∧ ¬ (r216 = (0 : Int32)) ∧ z170 = (0 : Int32) ∧ z221 = (0 : Int32)) ∨ (∃ (r210 : Int32) (r216 : Int32), ¬ (z195 = (0 : Int32)) ∧ Rel3 z2 r210 ∧ ¬ (r210 = (0 : Int32)) ∧ ¬ (z198 = (0 : Int32)) ∧ Rel3 z3 r216 ∧ ¬ (r216 = (0 : Int32)) ∧ ¬ (z170 = (0 : Int32)) ∧ z7 < r185 ∧ z221 = (0 : Int32)) ∨ (∃ (r210 : Int32) (r216 : Int32), ¬ (z195 = (0 : Int32)) ∧ Rel3 z2 r210 ∧ ¬ (r210 = (0 : Int32)) ∧ ¬ (z198 = (0 : Int32)) ∧ Rel3 z3 r216 ∧ ¬ (r216 = (0 : Int32)) ∧ ¬ (z170 = (0 : Int32)) ∧ ¬ (z7 < r185) ∧ z7 < r186 ∧ z221 = (1 : Int32)) ∨ (∃ (r210 : Int32) (r216 : Int32), ¬ (z195 = (0 : Int32)) ∧ Rel3 z2 r210 ∧ ¬ (r210 = (0 : Int32)) ∧ ¬ (z198 = (0 : Int32)) ∧ Rel3 z3 r216 ∧ ¬ (r216 = (0 : Int32)) ∧ ¬ (z170 = (0 : Int32)) ∧ ¬ (z7 < r185) ∧ ¬ (z7 < r186) ∧ z221 = (0 : Int32))) → (Stand p l e room_1 s m #[(.long q1), (.int p2), (.int p3), (.int p4), (.int p5), (.int p6)] below meth c Tj222 lj222 20 382) → (Tj222.heap = hj222) → (Fr n0 lj222) → (n0 ≤ hj222.size) → (AI Z hj222 b8 .byte F176) → Go p e below s 56 1024 (Q0 Z q1 p2 p3 p4 p5 p6 h0 n0) Tj222 (mkF m 435 #[.val (.long q1), .second, .val (.int p2), .val (.int p3), .val (.int p4), .val (.int p5), .val (.int p6), .val (.long z1), .second, .val (.int z2), .val (.int z3), .val (.int z4), .val (.int z7), .val (.ref b8), .val (.int z170), .val (.int z182), .val (.int z184), .val (.int r185), .val (.int r186), .val (.long r187), .second, .unset, .unset, .val (.int z195), .val (.int z198), .unset, .unset, .unset, .unset, .unset, .unset, .unset, .unset, .unset, .unset, .unset] [(.int z221)]) by
      by_cases hc387_199 : z195 = (0 : Int32)
      ·
        refine g_ifYes 398 X187 hx (hb hby at_387)  ((if0 _ _).trans (teq hc387_199).1) (by decide) (by decide) ?_
        refine g_iload 400 X187 hx (hb hby at_398) rfl (v := z198) rfl ?_
        by_cases hc400_222 : z198 = (0 : Int32)
        ·
          refine g_ifYes 411 X187 hx (hb hby at_400)  ((if0 _ _).trans (teq hc400_222).1) (by decide) (by decide) ?_
          refine g_iload 413 X187 hx (hb hby at_411) rfl (v := z170) rfl ?_
          by_cases hc413_223 : z170 = (0 : Int32)
          ·
            refine g_ifYes 434 X187 hx (hb hby at_413)  ((if0 _ _).trans (teq hc413_223).1) (by decide) (by decide) ?_
            refine g_iconst 435 X187 hx (hb hby at_434) rfl (z := (0 : Int32)) rfl ?_
            exact J222 (0 : Int32) T187 hj177 _ (Or.inl ⟨hc387_199, hc400_222, hc413_223, rfl⟩) (X187.more (by decide) (by decide)) e187 N187 Zj177 fj177_0
          ·
            refine g_ifNo 416 X187 hx (hb hby at_413)  ((if0 _ _).trans (feq hc413_223).1) rfl ?_
            refine g_iload 418 X187 hx (hb hby at_416) rfl (v := r185) rfl ?_
            refine g_iload 420 X187 hx (hb hby at_418) rfl (v := z7) rfl ?_
            by_cases hc420_224 : z7 < r185
            ·
              refine g_icmpYes 434 X187 hx (hb hby at_420)  (tlt hc420_224).2.2.1 (by decide) (by decide) ?_
              refine g_iconst 435 X187 hx (hb hby at_434) rfl (z := (0 : Int32)) rfl ?_
              exact J222 (0 : Int32) T187 hj177 _ (Or.inr (Or.inl ⟨hc387_199, hc400_222, hc413_223, hc420_224, rfl⟩)) (X187.more (by decide) (by decide)) e187 N187 Zj177 fj177_0
            ·
              refine g_icmpNo 423 X187 hx (hb hby at_420)  (flt hc420_224).2.2.1 rfl ?_
              refine g_iload 425 X187 hx (hb hby at_423) rfl (v := z7) rfl ?_
              refine g_iload 427 X187 hx (hb hby at_425) rfl (v := r186) rfl ?_
              by_cases hc427_225 : z7 < r186
              ·
                refine g_icmpNo 430 X187 hx (hb hby at_427)  (tlt hc427_225).2.1 rfl ?_
                refine g_iconst 431 X187 hx (hb hby at_430) rfl (z := (1 : Int32)) rfl ?_
                refine g_goto 435 X187 hx (hb hby at_431) (by decide) (by decide) ?_
                exact J222 (1 : Int32) T187 hj177 _ (Or.inr (Or.inr (Or.inl ⟨hc387_199, hc400_222, hc413_223, hc420_224, hc427_225, rfl⟩))) (X187.more (by decide) (by decide)) e187 N187 Zj177 fj177_0
              ·
                refine g_icmpYes 434 X187 hx (hb hby at_427)  (flt hc427_225).2.1 (by decide) (by decide) ?_
                refine g_iconst 435 X187 hx (hb hby at_434) rfl (z := (0 : Int32)) rfl ?_
                exact J222 (0 : Int32) T187 hj177 _ (Or.inr (Or.inr (Or.inr (Or.inl ⟨hc387_199, hc400_222, hc413_223, hc420_224, hc427_225, rfl⟩)))) (X187.more (by decide) (by decide)) e187 N187 Zj177 fj177_0
        ·
          refine g_ifNo 403 X187 hx (hb hby at_400)  ((if0 _ _).trans (feq hc400_222).1) rfl ?_
          refine g_iload 405 X187 hx (hb hby at_403) rfl (v := z3) rfl ?_
          refine g_callS 408 X187 hx hZ (y := (⟨"com/example/utility_meter_billing/utilitymeterbilling/io/WholeNumberValuePinLaw", "isDigit", "(B)Z"⟩ : MethodName)) hown (hw _ (List.mem_of_getElem? (i := 29) rfl)) (hw _ (List.mem_of_getElem? (i := 30) rfl)) (hw _ (List.mem_of_getElem? (i := 4) rfl)) (hw _ (List.mem_of_getElem? (i := 31) rfl)) (by decide) e187 (rm3 l Z a0 hw [] z3  hj177 n0 Zj177 ) (by rw [hml]; rfl) [(.int z3)] [] rfl rfl (lenOf pd_2 rfl) 0 (Nat.le_of_eq rfl) (hb hby at_405) (by decide) (by decide) (by decide) (by decide) rfl ?_
          intro v227 T227 L227 X227 hQ227
          obtain ⟨r227, rfl, hr227, N227q, e227⟩ := hQ227
          have N227 := Fr.app N187 N227q
          show Go p e below s 56 1024 (Q0 Z q1 p2 p3 p4 p5 p6 h0 n0) T227 (mkF m 408 #[.val (.long q1), .second, .val (.int p2), .val (.int p3), .val (.int p4), .val (.int p5), .val (.int p6), .val (.long z1), .second, .val (.int z2), .val (.int z3), .val (.int z4), .val (.int z7), .val (.ref b8), .val (.int z170), .val (.int z182), .val (.int z184), .val (.int r185), .val (.int r186), .val (.long r187), .second, .unset, .unset, .val (.int z195), .val (.int z198), .unset, .unset, .unset, .unset, .unset, .unset, .unset, .unset, .unset, .unset, .unset] [(.int r227)])
          by_cases hc408_227 : r227 = (0 : Int32)
          ·
            refine g_ifYes 430 X227 hx (hb hby at_408)  ((if0 _ _).trans (teq hc408_227).1) (by decide) (by decide) ?_
            refine g_iconst 431 X227 hx (hb hby at_430) rfl (z := (1 : Int32)) rfl ?_
            refine g_goto 435 X227 hx (hb hby at_431) (by decide) (by decide) ?_
            exact J222 (1 : Int32) T227 hj177 _ (Or.inr (Or.inr (Or.inr (Or.inr (Or.inl ⟨r227, hc387_199, hc400_222, hr227, hc408_227, rfl⟩))))) (X227.more (by decide) (by decide)) e227 N227 Zj177 fj177_0
          ·
            refine g_ifNo 411 X227 hx (hb hby at_408)  ((if0 _ _).trans (feq hc408_227).1) rfl ?_
            refine g_iload 413 X227 hx (hb hby at_411) rfl (v := z170) rfl ?_
            by_cases hc413_228 : z170 = (0 : Int32)
            ·
              refine g_ifYes 434 X227 hx (hb hby at_413)  ((if0 _ _).trans (teq hc413_228).1) (by decide) (by decide) ?_
              refine g_iconst 435 X227 hx (hb hby at_434) rfl (z := (0 : Int32)) rfl ?_
              exact J222 (0 : Int32) T227 hj177 _ (Or.inr (Or.inr (Or.inr (Or.inr (Or.inr (Or.inl ⟨r227, hc387_199, hc400_222, hr227, hc408_227, hc413_228, rfl⟩)))))) (X227.more (by decide) (by decide)) e227 N227 Zj177 fj177_0
            ·
              refine g_ifNo 416 X227 hx (hb hby at_413)  ((if0 _ _).trans (feq hc413_228).1) rfl ?_
              refine g_iload 418 X227 hx (hb hby at_416) rfl (v := r185) rfl ?_
              refine g_iload 420 X227 hx (hb hby at_418) rfl (v := z7) rfl ?_
              by_cases hc420_229 : z7 < r185
              ·
                refine g_icmpYes 434 X227 hx (hb hby at_420)  (tlt hc420_229).2.2.1 (by decide) (by decide) ?_
                refine g_iconst 435 X227 hx (hb hby at_434) rfl (z := (0 : Int32)) rfl ?_
                exact J222 (0 : Int32) T227 hj177 _ (Or.inr (Or.inr (Or.inr (Or.inr (Or.inr (Or.inr (Or.inl ⟨r227, hc387_199, hc400_222, hr227, hc408_227, hc413_228, hc420_229, rfl⟩))))))) (X227.more (by decide) (by decide)) e227 N227 Zj177 fj177_0
              ·
                refine g_icmpNo 423 X227 hx (hb hby at_420)  (flt hc420_229).2.2.1 rfl ?_
                refine g_iload 425 X227 hx (hb hby at_423) rfl (v := z7) rfl ?_
                refine g_iload 427 X227 hx (hb hby at_425) rfl (v := r186) rfl ?_
                by_cases hc427_230 : z7 < r186
                ·
                  refine g_icmpNo 430 X227 hx (hb hby at_427)  (tlt hc427_230).2.1 rfl ?_
                  refine g_iconst 431 X227 hx (hb hby at_430) rfl (z := (1 : Int32)) rfl ?_
                  refine g_goto 435 X227 hx (hb hby at_431) (by decide) (by decide) ?_
                  exact J222 (1 : Int32) T227 hj177 _ (Or.inr (Or.inr (Or.inr (Or.inr (Or.inr (Or.inr (Or.inr (Or.inl ⟨r227, hc387_199, hc400_222, hr227, hc408_227, hc413_228, hc420_229, hc427_230, rfl⟩)))))))) (X227.more (by decide) (by decide)) e227 N227 Zj177 fj177_0
                ·
                  refine g_icmpYes 434 X227 hx (hb hby at_427)  (flt hc427_230).2.1 (by decide) (by decide) ?_
                  refine g_iconst 435 X227 hx (hb hby at_434) rfl (z := (0 : Int32)) rfl ?_
                  exact J222 (0 : Int32) T227 hj177 _ (Or.inr (Or.inr (Or.inr (Or.inr (Or.inr (Or.inr (Or.inr (Or.inr (Or.inl ⟨r227, hc387_199, hc400_222, hr227, hc408_227, hc413_228, hc420_229, hc427_230, rfl⟩))))))))) (X227.more (by decide) (by decide)) e227 N227 Zj177 fj177_0
      ·
        refine g_ifNo 390 X187 hx (hb hby at_387)  ((if0 _ _).trans (feq hc387_199).1) rfl ?_
        refine g_iload 392 X187 hx (hb hby at_390) rfl (v := z2) rfl ?_
        refine g_callS 395 X187 hx hZ (y := (⟨"com/example/utility_meter_billing/utilitymeterbilling/io/WholeNumberValuePinLaw", "isDigit", "(B)Z"⟩ : MethodName)) hown (hw _ (List.mem_of_getElem? (i := 29) rfl)) (hw _ (List.mem_of_getElem? (i := 30) rfl)) (hw _ (List.mem_of_getElem? (i := 4) rfl)) (hw _ (List.mem_of_getElem? (i := 31) rfl)) (by decide) e187 (rm3 l Z a0 hw [] z2  hj177 n0 Zj177 ) (by rw [hml]; rfl) [(.int z2)] [] rfl rfl (lenOf pd_2 rfl) 0 (Nat.le_of_eq rfl) (hb hby at_392) (by decide) (by decide) (by decide) (by decide) rfl ?_
        intro v232 T232 L232 X232 hQ232
        obtain ⟨r232, rfl, hr232, N232q, e232⟩ := hQ232
        have N232 := Fr.app N187 N232q
        show Go p e below s 56 1024 (Q0 Z q1 p2 p3 p4 p5 p6 h0 n0) T232 (mkF m 395 #[.val (.long q1), .second, .val (.int p2), .val (.int p3), .val (.int p4), .val (.int p5), .val (.int p6), .val (.long z1), .second, .val (.int z2), .val (.int z3), .val (.int z4), .val (.int z7), .val (.ref b8), .val (.int z170), .val (.int z182), .val (.int z184), .val (.int r185), .val (.int r186), .val (.long r187), .second, .unset, .unset, .val (.int z195), .val (.int z198), .unset, .unset, .unset, .unset, .unset, .unset, .unset, .unset, .unset, .unset, .unset] [(.int r232)])
        by_cases hc395_232 : r232 = (0 : Int32)
        ·
          refine g_ifYes 430 X232 hx (hb hby at_395)  ((if0 _ _).trans (teq hc395_232).1) (by decide) (by decide) ?_
          refine g_iconst 431 X232 hx (hb hby at_430) rfl (z := (1 : Int32)) rfl ?_
          refine g_goto 435 X232 hx (hb hby at_431) (by decide) (by decide) ?_
          exact J222 (1 : Int32) T232 hj177 _ (Or.inr (Or.inr (Or.inr (Or.inr (Or.inr (Or.inr (Or.inr (Or.inr (Or.inr (Or.inl ⟨r232, hc387_199, hr232, hc395_232, rfl⟩)))))))))) (X232.more (by decide) (by decide)) e232 N232 Zj177 fj177_0
        ·
          refine g_ifNo 398 X232 hx (hb hby at_395)  ((if0 _ _).trans (feq hc395_232).1) rfl ?_
          refine g_iload 400 X232 hx (hb hby at_398) rfl (v := z198) rfl ?_
          by_cases hc400_233 : z198 = (0 : Int32)
          ·
            refine g_ifYes 411 X232 hx (hb hby at_400)  ((if0 _ _).trans (teq hc400_233).1) (by decide) (by decide) ?_
            refine g_iload 413 X232 hx (hb hby at_411) rfl (v := z170) rfl ?_
            by_cases hc413_234 : z170 = (0 : Int32)
            ·
              refine g_ifYes 434 X232 hx (hb hby at_413)  ((if0 _ _).trans (teq hc413_234).1) (by decide) (by decide) ?_
              refine g_iconst 435 X232 hx (hb hby at_434) rfl (z := (0 : Int32)) rfl ?_
              exact J222 (0 : Int32) T232 hj177 _ (Or.inr (Or.inr (Or.inr (Or.inr (Or.inr (Or.inr (Or.inr (Or.inr (Or.inr (Or.inr (Or.inl ⟨r232, hc387_199, hr232, hc395_232, hc400_233, hc413_234, rfl⟩))))))))))) (X232.more (by decide) (by decide)) e232 N232 Zj177 fj177_0
            ·
              refine g_ifNo 416 X232 hx (hb hby at_413)  ((if0 _ _).trans (feq hc413_234).1) rfl ?_
              refine g_iload 418 X232 hx (hb hby at_416) rfl (v := r185) rfl ?_
              refine g_iload 420 X232 hx (hb hby at_418) rfl (v := z7) rfl ?_
              by_cases hc420_235 : z7 < r185
              ·
                refine g_icmpYes 434 X232 hx (hb hby at_420)  (tlt hc420_235).2.2.1 (by decide) (by decide) ?_
                refine g_iconst 435 X232 hx (hb hby at_434) rfl (z := (0 : Int32)) rfl ?_
                exact J222 (0 : Int32) T232 hj177 _ (Or.inr (Or.inr (Or.inr (Or.inr (Or.inr (Or.inr (Or.inr (Or.inr (Or.inr (Or.inr (Or.inr (Or.inl ⟨r232, hc387_199, hr232, hc395_232, hc400_233, hc413_234, hc420_235, rfl⟩)))))))))))) (X232.more (by decide) (by decide)) e232 N232 Zj177 fj177_0
              ·
                refine g_icmpNo 423 X232 hx (hb hby at_420)  (flt hc420_235).2.2.1 rfl ?_
                refine g_iload 425 X232 hx (hb hby at_423) rfl (v := z7) rfl ?_
                refine g_iload 427 X232 hx (hb hby at_425) rfl (v := r186) rfl ?_
                by_cases hc427_236 : z7 < r186
                ·
                  refine g_icmpNo 430 X232 hx (hb hby at_427)  (tlt hc427_236).2.1 rfl ?_
                  refine g_iconst 431 X232 hx (hb hby at_430) rfl (z := (1 : Int32)) rfl ?_
                  refine g_goto 435 X232 hx (hb hby at_431) (by decide) (by decide) ?_
                  exact J222 (1 : Int32) T232 hj177 _ (Or.inr (Or.inr (Or.inr (Or.inr (Or.inr (Or.inr (Or.inr (Or.inr (Or.inr (Or.inr (Or.inr (Or.inr (Or.inl ⟨r232, hc387_199, hr232, hc395_232, hc400_233, hc413_234, hc420_235, hc427_236, rfl⟩))))))))))))) (X232.more (by decide) (by decide)) e232 N232 Zj177 fj177_0
                ·
                  refine g_icmpYes 434 X232 hx (hb hby at_427)  (flt hc427_236).2.1 (by decide) (by decide) ?_
                  refine g_iconst 435 X232 hx (hb hby at_434) rfl (z := (0 : Int32)) rfl ?_
                  exact J222 (0 : Int32) T232 hj177 _ (Or.inr (Or.inr (Or.inr (Or.inr (Or.inr (Or.inr (Or.inr (Or.inr (Or.inr (Or.inr (Or.inr (Or.inr (Or.inr (Or.inl ⟨r232, hc387_199, hr232, hc395_232, hc400_233, hc413_234, hc420_235, hc427_236, rfl⟩)))))))))))))) (X232.more (by decide) (by decide)) e232 N232 Zj177 fj177_0
          ·
            refine g_ifNo 403 X232 hx (hb hby at_400)  ((if0 _ _).trans (feq hc400_233).1) rfl ?_
            refine g_iload 405 X232 hx (hb hby at_403) rfl (v := z3) rfl ?_
            refine g_callS 408 X232 hx hZ (y := (⟨"com/example/utility_meter_billing/utilitymeterbilling/io/WholeNumberValuePinLaw", "isDigit", "(B)Z"⟩ : MethodName)) hown (hw _ (List.mem_of_getElem? (i := 29) rfl)) (hw _ (List.mem_of_getElem? (i := 30) rfl)) (hw _ (List.mem_of_getElem? (i := 4) rfl)) (hw _ (List.mem_of_getElem? (i := 31) rfl)) (by decide) e232 (rm3 l Z a0 hw [] z3  hj177 n0 Zj177 ) (by rw [hml]; rfl) [(.int z3)] [] rfl rfl (lenOf pd_2 rfl) 0 (Nat.le_of_eq rfl) (hb hby at_405) (by decide) (by decide) (by decide) (by decide) rfl ?_
            intro v238 T238 L238 X238 hQ238
            obtain ⟨r238, rfl, hr238, N238q, e238⟩ := hQ238
            have N238 := Fr.app N232 N238q
            show Go p e below s 56 1024 (Q0 Z q1 p2 p3 p4 p5 p6 h0 n0) T238 (mkF m 408 #[.val (.long q1), .second, .val (.int p2), .val (.int p3), .val (.int p4), .val (.int p5), .val (.int p6), .val (.long z1), .second, .val (.int z2), .val (.int z3), .val (.int z4), .val (.int z7), .val (.ref b8), .val (.int z170), .val (.int z182), .val (.int z184), .val (.int r185), .val (.int r186), .val (.long r187), .second, .unset, .unset, .val (.int z195), .val (.int z198), .unset, .unset, .unset, .unset, .unset, .unset, .unset, .unset, .unset, .unset, .unset] [(.int r238)])
            by_cases hc408_238 : r238 = (0 : Int32)
            ·
              refine g_ifYes 430 X238 hx (hb hby at_408)  ((if0 _ _).trans (teq hc408_238).1) (by decide) (by decide) ?_
              refine g_iconst 431 X238 hx (hb hby at_430) rfl (z := (1 : Int32)) rfl ?_
              refine g_goto 435 X238 hx (hb hby at_431) (by decide) (by decide) ?_
              exact J222 (1 : Int32) T238 hj177 _ (Or.inr (Or.inr (Or.inr (Or.inr (Or.inr (Or.inr (Or.inr (Or.inr (Or.inr (Or.inr (Or.inr (Or.inr (Or.inr (Or.inr (Or.inl ⟨r232, r238, hc387_199, hr232, hc395_232, hc400_233, hr238, hc408_238, rfl⟩))))))))))))))) (X238.more (by decide) (by decide)) e238 N238 Zj177 fj177_0
            ·
              refine g_ifNo 411 X238 hx (hb hby at_408)  ((if0 _ _).trans (feq hc408_238).1) rfl ?_
              refine g_iload 413 X238 hx (hb hby at_411) rfl (v := z170) rfl ?_
              by_cases hc413_239 : z170 = (0 : Int32)
              ·
                refine g_ifYes 434 X238 hx (hb hby at_413)  ((if0 _ _).trans (teq hc413_239).1) (by decide) (by decide) ?_
                refine g_iconst 435 X238 hx (hb hby at_434) rfl (z := (0 : Int32)) rfl ?_
                exact J222 (0 : Int32) T238 hj177 _ (Or.inr (Or.inr (Or.inr (Or.inr (Or.inr (Or.inr (Or.inr (Or.inr (Or.inr (Or.inr (Or.inr (Or.inr (Or.inr (Or.inr (Or.inr (Or.inl ⟨r232, r238, hc387_199, hr232, hc395_232, hc400_233, hr238, hc408_238, hc413_239, rfl⟩)))))))))))))))) (X238.more (by decide) (by decide)) e238 N238 Zj177 fj177_0
              ·
                refine g_ifNo 416 X238 hx (hb hby at_413)  ((if0 _ _).trans (feq hc413_239).1) rfl ?_
                refine g_iload 418 X238 hx (hb hby at_416) rfl (v := r185) rfl ?_
                refine g_iload 420 X238 hx (hb hby at_418) rfl (v := z7) rfl ?_
                by_cases hc420_240 : z7 < r185
                ·
                  refine g_icmpYes 434 X238 hx (hb hby at_420)  (tlt hc420_240).2.2.1 (by decide) (by decide) ?_
                  refine g_iconst 435 X238 hx (hb hby at_434) rfl (z := (0 : Int32)) rfl ?_
                  exact J222 (0 : Int32) T238 hj177 _ (Or.inr (Or.inr (Or.inr (Or.inr (Or.inr (Or.inr (Or.inr (Or.inr (Or.inr (Or.inr (Or.inr (Or.inr (Or.inr (Or.inr (Or.inr (Or.inr (Or.inl ⟨r232, r238, hc387_199, hr232, hc395_232, hc400_233, hr238, hc408_238, hc413_239, hc420_240, rfl⟩))))))))))))))))) (X238.more (by decide) (by decide)) e238 N238 Zj177 fj177_0
                ·
                  refine g_icmpNo 423 X238 hx (hb hby at_420)  (flt hc420_240).2.2.1 rfl ?_
                  refine g_iload 425 X238 hx (hb hby at_423) rfl (v := z7) rfl ?_
                  refine g_iload 427 X238 hx (hb hby at_425) rfl (v := r186) rfl ?_
                  by_cases hc427_241 : z7 < r186
                  ·
                    refine g_icmpNo 430 X238 hx (hb hby at_427)  (tlt hc427_241).2.1 rfl ?_
                    refine g_iconst 431 X238 hx (hb hby at_430) rfl (z := (1 : Int32)) rfl ?_
                    refine g_goto 435 X238 hx (hb hby at_431) (by decide) (by decide) ?_
                    exact J222 (1 : Int32) T238 hj177 _ (Or.inr (Or.inr (Or.inr (Or.inr (Or.inr (Or.inr (Or.inr (Or.inr (Or.inr (Or.inr (Or.inr (Or.inr (Or.inr (Or.inr (Or.inr (Or.inr (Or.inr (Or.inl ⟨r232, r238, hc387_199, hr232, hc395_232, hc400_233, hr238, hc408_238, hc413_239, hc420_240, hc427_241, rfl⟩)))))))))))))))))) (X238.more (by decide) (by decide)) e238 N238 Zj177 fj177_0
                  ·
                    refine g_icmpYes 434 X238 hx (hb hby at_427)  (flt hc427_241).2.1 (by decide) (by decide) ?_
                    refine g_iconst 435 X238 hx (hb hby at_434) rfl (z := (0 : Int32)) rfl ?_
                    exact J222 (0 : Int32) T238 hj177 _ (Or.inr (Or.inr (Or.inr (Or.inr (Or.inr (Or.inr (Or.inr (Or.inr (Or.inr (Or.inr (Or.inr (Or.inr (Or.inr (Or.inr (Or.inr (Or.inr (Or.inr (Or.inr ⟨r232, r238, hc387_199, hr232, hc395_232, hc400_233, hr238, hc408_238, hc413_239, hc420_240, hc427_241, rfl⟩)))))))))))))))))) (X238.more (by decide) (by decide)) e238 N238 Zj177 fj177_0
    intro z221 Tj222 hj222 lj222 hJ222 Xj222 ej222 Nj222 Zj222 fj222_0
    refine g_istore 437 Xj222 hx (hb hby at_435) rfl (Ls' := #[.val (.long q1), .second, .val (.int p2), .val (.int p3), .val (.int p4), .val (.int p5), .val (.int p6), .val (.long z1), .second, .val (.int z2), .val (.int z3), .val (.int z4), .val (.int z7), .val (.ref b8), .val (.int z170), .val (.int z182), .val (.int z184), .val (.int r185), .val (.int r186), .val (.long r187), .second, .unset, .unset, .val (.int z195), .val (.int z198), .val (.int z221), .unset, .unset, .unset, .unset, .unset, .unset, .unset, .unset, .unset, .unset]) rfl ?_
    have hB : own_B z1 z2 z3 r185 r186 r187 z221 := own_BB z1 F176 z2 z3 r185 r186 z7 z170 z221 r187 hPos hF hft hc348_189 hr187 (sub0_4 z2 z3 z7 z170 r185 r186 z195 z198 z221 hj196 hj199 hJ222)
    refine g_iload 439 Xj222 hx (hb hby at_437) rfl (v := z221) rfl ?_
    by_cases hc439_242 : z221 = (0 : Int32)
    ·
      refine g_ifYes 450 Xj222 hx (hb hby at_439)  ((if0 _ _).trans (teq hc439_242).1) (by decide) (by decide) ?_
      refine g_iload 452 Xj222 hx (hb hby at_450) rfl (v := r185) rfl ?_
      refine g_iconst 453 Xj222 hx (hb hby at_452) rfl (z := (1 : Int32)) rfl ?_
      refine g_callS 456 Xj222 hx hZ (y := (⟨"java/lang/Math", "max", "(II)I"⟩ : MethodName)) hown (hw _ (List.mem_of_getElem? (i := 37) rfl)) (hw _ (List.mem_of_getElem? (i := 38) rfl)) (hw _ (List.mem_of_getElem? (i := 35) rfl)) (hw _ (List.mem_of_getElem? (i := 39) rfl)) (by decide) ej222 (rm5 l Z a0 hw [] r185 (1 : Int32)  hj222 n0 Zj222 ) (by rw [hml]; rfl) [(.int r185), (.int (1 : Int32))] [] rfl rfl (lenOf pd_3 rfl) 0 (Nat.le_of_eq rfl) (hb hby at_453) (by decide) (by decide) (by decide) (by decide) rfl ?_
      intro v244 T244 L244 X244 hQ244
      obtain ⟨r244, rfl, hr244, N244q, e244⟩ := hQ244
      have N244 := Fr.app Nj222 N244q
      show Go p e below s 56 1024 (Q0 Z q1 p2 p3 p4 p5 p6 h0 n0) T244 (mkF m 456 #[.val (.long q1), .second, .val (.int p2), .val (.int p3), .val (.int p4), .val (.int p5), .val (.int p6), .val (.long z1), .second, .val (.int z2), .val (.int z3), .val (.int z4), .val (.int z7), .val (.ref b8), .val (.int z170), .val (.int z182), .val (.int z184), .val (.int r185), .val (.int r186), .val (.long r187), .second, .unset, .unset, .val (.int z195), .val (.int z198), .val (.int z221), .unset, .unset, .unset, .unset, .unset, .unset, .unset, .unset, .unset, .unset] [(.int r244)])
      refine g_iconst 457 X244 hx (hb hby at_456) rfl (z := (1 : Int32)) rfl ?_
      obtain ⟨z245, hz245⟩ : ∃ z : Int32, r244 - (1 : Int32) = z := ⟨_, rfl⟩
      refine g_isub 458 X244 hx (hb hby at_457) rfl (z := z245) hz245 ?_
      refine g_istore 460 X244 hx (hb hby at_458) rfl (Ls' := #[.val (.long q1), .second, .val (.int p2), .val (.int p3), .val (.int p4), .val (.int p5), .val (.int p6), .val (.long z1), .second, .val (.int z2), .val (.int z3), .val (.int z4), .val (.int z7), .val (.ref b8), .val (.int z170), .val (.int z182), .val (.int z184), .val (.int r185), .val (.int r186), .val (.long r187), .second, .unset, .unset, .val (.int z195), .val (.int z198), .val (.int z221), .val (.int z245), .unset, .unset, .unset, .unset, .unset, .unset, .unset, .unset, .unset]) rfl ?_
      refine g_iload 462 X244 hx (hb hby at_460) rfl (v := r186) rfl ?_
      refine g_bipush 464 X244 hx (hb hby at_462) rfl (z := (20 : Int32)) rfl ?_
      refine g_callS 467 X244 hx hZ (y := (⟨"java/lang/Math", "min", "(II)I"⟩ : MethodName)) hown (hw _ (List.mem_of_getElem? (i := 33) rfl)) (hw _ (List.mem_of_getElem? (i := 34) rfl)) (hw _ (List.mem_of_getElem? (i := 35) rfl)) (hw _ (List.mem_of_getElem? (i := 36) rfl)) (by decide) e244 (rm4 l Z a0 hw [] r186 (20 : Int32)  hj222 n0 Zj222 ) (by rw [hml]; rfl) [(.int r186), (.int (20 : Int32))] [] rfl rfl (lenOf pd_3 rfl) 0 (Nat.le_of_eq rfl) (hb hby at_464) (by decide) (by decide) (by decide) (by decide) rfl ?_
      intro v246 T246 L246 X246 hQ246
      obtain ⟨r246, rfl, hr246, N246q, e246⟩ := hQ246
      have N246 := Fr.app N244 N246q
      show Go p e below s 56 1024 (Q0 Z q1 p2 p3 p4 p5 p6 h0 n0) T246 (mkF m 467 #[.val (.long q1), .second, .val (.int p2), .val (.int p3), .val (.int p4), .val (.int p5), .val (.int p6), .val (.long z1), .second, .val (.int z2), .val (.int z3), .val (.int z4), .val (.int z7), .val (.ref b8), .val (.int z170), .val (.int z182), .val (.int z184), .val (.int r185), .val (.int r186), .val (.long r187), .second, .unset, .unset, .val (.int z195), .val (.int z198), .val (.int z221), .val (.int z245), .unset, .unset, .unset, .unset, .unset, .unset, .unset, .unset, .unset] [(.int r246)])
      refine g_iconst 468 X246 hx (hb hby at_467) rfl (z := (1 : Int32)) rfl ?_
      obtain ⟨z247, hz247⟩ : ∃ z : Int32, r246 - (1 : Int32) = z := ⟨_, rfl⟩
      refine g_isub 469 X246 hx (hb hby at_468) rfl (z := z247) hz247 ?_
      refine g_istore 471 X246 hx (hb hby at_469) rfl (Ls' := #[.val (.long q1), .second, .val (.int p2), .val (.int p3), .val (.int p4), .val (.int p5), .val (.int p6), .val (.long z1), .second, .val (.int z2), .val (.int z3), .val (.int z4), .val (.int z7), .val (.ref b8), .val (.int z170), .val (.int z182), .val (.int z184), .val (.int r185), .val (.int r186), .val (.long r187), .second, .unset, .unset, .val (.int z195), .val (.int z198), .val (.int z221), .val (.int z245), .val (.int z247), .unset, .unset, .unset, .unset, .unset, .unset, .unset, .unset]) rfl ?_
      refine g_iconst 472 X246 hx (hb hby at_471) rfl (z := (0 : Int32)) rfl ?_
      refine g_iload 474 X246 hx (hb hby at_472) rfl (v := z247) rfl ?_
      refine g_iload 476 X246 hx (hb hby at_474) rfl (v := z245) rfl ?_
      obtain ⟨z248, hz248⟩ : ∃ z : Int32, z247 - z245 = z := ⟨_, rfl⟩
      refine g_isub 477 X246 hx (hb hby at_476) rfl (z := z248) hz248 ?_
      refine g_callS 480 X246 hx hZ (y := (⟨"java/lang/Math", "max", "(II)I"⟩ : MethodName)) hown (hw _ (List.mem_of_getElem? (i := 37) rfl)) (hw _ (List.mem_of_getElem? (i := 38) rfl)) (hw _ (List.mem_of_getElem? (i := 35) rfl)) (hw _ (List.mem_of_getElem? (i := 39) rfl)) (by decide) e246 (rm5 l Z a0 hw [] (0 : Int32) z248  hj222 n0 Zj222 ) (by rw [hml]; rfl) [(.int (0 : Int32)), (.int z248)] [] rfl rfl (lenOf pd_3 rfl) 0 (Nat.le_of_eq rfl) (hb hby at_477) (by decide) (by decide) (by decide) (by decide) rfl ?_
      intro v249 T249 L249 X249 hQ249
      obtain ⟨r249, rfl, hr249, N249q, e249⟩ := hQ249
      have N249 := Fr.app N246 N249q
      show Go p e below s 56 1024 (Q0 Z q1 p2 p3 p4 p5 p6 h0 n0) T249 (mkF m 480 #[.val (.long q1), .second, .val (.int p2), .val (.int p3), .val (.int p4), .val (.int p5), .val (.int p6), .val (.long z1), .second, .val (.int z2), .val (.int z3), .val (.int z4), .val (.int z7), .val (.ref b8), .val (.int z170), .val (.int z182), .val (.int z184), .val (.int r185), .val (.int r186), .val (.long r187), .second, .unset, .unset, .val (.int z195), .val (.int z198), .val (.int z221), .val (.int z245), .val (.int z247), .unset, .unset, .unset, .unset, .unset, .unset, .unset, .unset] [(.int r249)])
      refine g_istore 482 X249 hx (hb hby at_480) rfl (Ls' := #[.val (.long q1), .second, .val (.int p2), .val (.int p3), .val (.int p4), .val (.int p5), .val (.int p6), .val (.long z1), .second, .val (.int z2), .val (.int z3), .val (.int z4), .val (.int z7), .val (.ref b8), .val (.int z170), .val (.int z182), .val (.int z184), .val (.int r185), .val (.int r186), .val (.long r187), .second, .unset, .unset, .val (.int z195), .val (.int z198), .val (.int z221), .val (.int z245), .val (.int z247), .val (.int r249), .unset, .unset, .unset, .unset, .unset, .unset, .unset]) rfl ?_
      refine g_iload 484 X249 hx (hb hby at_482) rfl (v := r249) rfl ?_
      have hN : r249.toInt = max 0 (min r186.toInt 20 - max r185.toInt 1) := (sub0_5 r185 r186 r244 z245 r246 z247 z248 r249 hft hr244 hz245 hr246 hz247 hz248 hr249)
      have hN2 : z247.toInt = min r186.toInt 20 - 1 := (sub0_6 r185 r186 r244 z245 r246 z247 z248 r249 hft hr244 hz245 hr246 hz247 hz248 hr249)
      by_cases hc484_249 : r249 = (0 : Int32)
      ·
        refine g_ifNo 487 X249 hx (hb hby at_484)  ((if0 _ _).trans (teq hc484_249).2) rfl ?_
        refine g_lconst 488 X249 hx (hb hby at_487) rfl (z := (0 : Int64)) rfl ?_
        refine g_lstore 490 X249 hx (hb hby at_488) rfl (Ls' := #[.val (.long q1), .second, .val (.int p2), .val (.int p3), .val (.int p4), .val (.int p5), .val (.int p6), .val (.long z1), .second, .val (.int z2), .val (.int z3), .val (.int z4), .val (.int z7), .val (.ref b8), .val (.int z170), .val (.int z182), .val (.int z184), .val (.int r185), .val (.int r186), .val (.long r187), .second, .unset, .unset, .val (.int z195), .val (.int z198), .val (.int z221), .val (.int z245), .val (.int z247), .val (.int r249), .val (.long (0 : Int64)), .second, .unset, .unset, .unset, .unset, .unset]) rfl ?_
        refine g_goto 526 X249 hx (hb hby at_490) (by decide) (by decide) ?_
        refine g_iload 528 X249 hx (hb hby at_526) rfl (v := z198) rfl ?_
        have hR : (0 : Int64).toInt = ((own_R z1.toInt.toNat r185.toInt.toNat r186.toInt.toNat : Nat) : Int) := (sub0_7 z1 r185 r186 z247 r249 hM hft hN hN2 hc484_249)
        suffices Jhj253 : ∀ (z252 : Int32), ((z198 = (0 : Int32) ∧ z252 = (0 : Int32)) ∨ (¬ (z198 = (0 : Int32)) ∧ z252 = (1 : Int32))) → Go p e below s 56 1024 (Q0 Z q1 p2 p3 p4 p5 p6 h0 n0) T249 (mkF m 536 #[.val (.long q1), .second, .val (.int p2), .val (.int p3), .val (.int p4), .val (.int p5), .val (.int p6), .val (.long z1), .second, .val (.int z2), .val (.int z3), .val (.int z4), .val (.int z7), .val (.ref b8), .val (.int z170), .val (.int z182), .val (.int z184), .val (.int r185), .val (.int r186), .val (.long r187), .second, .unset, .unset, .val (.int z195), .val (.int z198), .val (.int z221), .val (.int z245), .val (.int z247), .val (.int r249), .val (.long (0 : Int64)), .second, .unset, .unset, .unset, .unset, .unset] [(.int z252)]) by
          by_cases hc528_250 : z198 = (0 : Int32)
          ·
            refine g_ifYes 535 X249 hx (hb hby at_528)  ((if0 _ _).trans (teq hc528_250).1) (by decide) (by decide) ?_
            refine g_iconst 536 X249 hx (hb hby at_535) rfl (z := (0 : Int32)) rfl ?_
            exact Jhj253 (0 : Int32) (Or.inl ⟨hc528_250, rfl⟩)
          ·
            refine g_ifNo 531 X249 hx (hb hby at_528)  ((if0 _ _).trans (feq hc528_250).1) rfl ?_
            refine g_iconst 532 X249 hx (hb hby at_531) rfl (z := (1 : Int32)) rfl ?_
            refine g_goto 536 X249 hx (hb hby at_532) (by decide) (by decide) ?_
            exact Jhj253 (1 : Int32) (Or.inr (⟨hc528_250, rfl⟩))
        intro z252 hj253
        refine g_istore 538 X249 hx (hb hby at_536) rfl (Ls' := #[.val (.long q1), .second, .val (.int p2), .val (.int p3), .val (.int p4), .val (.int p5), .val (.int p6), .val (.long z1), .second, .val (.int z2), .val (.int z3), .val (.int z4), .val (.int z7), .val (.ref b8), .val (.int z170), .val (.int z182), .val (.int z184), .val (.int r185), .val (.int r186), .val (.long r187), .second, .unset, .unset, .val (.int z195), .val (.int z198), .val (.int z221), .val (.int z245), .val (.int z247), .val (.int r249), .val (.long (0 : Int64)), .second, .val (.int z252), .unset, .unset, .unset, .unset]) rfl ?_
        refine g_iload 540 X249 hx (hb hby at_538) rfl (v := z198) rfl ?_
        suffices Jhj256 : ∀ (z255 : Int64), ((z198 = (0 : Int32) ∧ z255 = (0 : Int64)) ∨ (¬ (z198 = (0 : Int32)) ∧ z255 = ((z3 - (48 : Int32)).toInt64))) → Go p e below s 56 1024 (Q0 Z q1 p2 p3 p4 p5 p6 h0 n0) T249 (mkF m 553 #[.val (.long q1), .second, .val (.int p2), .val (.int p3), .val (.int p4), .val (.int p5), .val (.int p6), .val (.long z1), .second, .val (.int z2), .val (.int z3), .val (.int z4), .val (.int z7), .val (.ref b8), .val (.int z170), .val (.int z182), .val (.int z184), .val (.int r185), .val (.int r186), .val (.long r187), .second, .unset, .unset, .val (.int z195), .val (.int z198), .val (.int z221), .val (.int z245), .val (.int z247), .val (.int r249), .val (.long (0 : Int64)), .second, .val (.int z252), .unset, .unset, .unset, .unset] [(.long z255)]) by
          by_cases hc540_253 : z198 = (0 : Int32)
          ·
            refine g_ifYes 552 X249 hx (hb hby at_540)  ((if0 _ _).trans (teq hc540_253).1) (by decide) (by decide) ?_
            refine g_lconst 553 X249 hx (hb hby at_552) rfl (z := (0 : Int64)) rfl ?_
            exact Jhj256 (0 : Int64) (Or.inl ⟨hc540_253, rfl⟩)
          ·
            refine g_ifNo 543 X249 hx (hb hby at_540)  ((if0 _ _).trans (feq hc540_253).1) rfl ?_
            refine g_iload 545 X249 hx (hb hby at_543) rfl (v := z3) rfl ?_
            refine g_bipush 547 X249 hx (hb hby at_545) rfl (z := (48 : Int32)) rfl ?_
            refine g_isub 548 X249 hx (hb hby at_547) rfl (z := (z3 - (48 : Int32))) rfl ?_
            refine g_i2l 549 X249 hx (hb hby at_548) rfl (z := ((z3 - (48 : Int32)).toInt64)) rfl ?_
            refine g_goto 553 X249 hx (hb hby at_549) (by decide) (by decide) ?_
            exact Jhj256 ((z3 - (48 : Int32)).toInt64) (Or.inr (⟨hc540_253, rfl⟩))
        intro z255 hj256
        refine g_lstore 555 X249 hx (hb hby at_553) rfl (Ls' := #[.val (.long q1), .second, .val (.int p2), .val (.int p3), .val (.int p4), .val (.int p5), .val (.int p6), .val (.long z1), .second, .val (.int z2), .val (.int z3), .val (.int z4), .val (.int z7), .val (.ref b8), .val (.int z170), .val (.int z182), .val (.int z184), .val (.int r185), .val (.int r186), .val (.long r187), .second, .unset, .unset, .val (.int z195), .val (.int z198), .val (.int z221), .val (.int z245), .val (.int z247), .val (.int r249), .val (.long (0 : Int64)), .second, .val (.int z252), .val (.long z255), .second, .unset, .unset]) rfl ?_
        refine g_iload 557 X249 hx (hb hby at_555) rfl (v := z195) rfl ?_
        suffices Jhj259 : ∀ (z258 : Int64), ((z195 = (0 : Int32) ∧ z258 = (0 : Int64)) ∨ (¬ (z195 = (0 : Int32)) ∧ z258 = ((z2 - (48 : Int32)).toInt64))) → Go p e below s 56 1024 (Q0 Z q1 p2 p3 p4 p5 p6 h0 n0) T249 (mkF m 570 #[.val (.long q1), .second, .val (.int p2), .val (.int p3), .val (.int p4), .val (.int p5), .val (.int p6), .val (.long z1), .second, .val (.int z2), .val (.int z3), .val (.int z4), .val (.int z7), .val (.ref b8), .val (.int z170), .val (.int z182), .val (.int z184), .val (.int r185), .val (.int r186), .val (.long r187), .second, .unset, .unset, .val (.int z195), .val (.int z198), .val (.int z221), .val (.int z245), .val (.int z247), .val (.int r249), .val (.long (0 : Int64)), .second, .val (.int z252), .val (.long z255), .second, .unset, .unset] [(.long z258)]) by
          by_cases hc557_256 : z195 = (0 : Int32)
          ·
            refine g_ifYes 569 X249 hx (hb hby at_557)  ((if0 _ _).trans (teq hc557_256).1) (by decide) (by decide) ?_
            refine g_lconst 570 X249 hx (hb hby at_569) rfl (z := (0 : Int64)) rfl ?_
            exact Jhj259 (0 : Int64) (Or.inl ⟨hc557_256, rfl⟩)
          ·
            refine g_ifNo 560 X249 hx (hb hby at_557)  ((if0 _ _).trans (feq hc557_256).1) rfl ?_
            refine g_iload 562 X249 hx (hb hby at_560) rfl (v := z2) rfl ?_
            refine g_bipush 564 X249 hx (hb hby at_562) rfl (z := (48 : Int32)) rfl ?_
            refine g_isub 565 X249 hx (hb hby at_564) rfl (z := (z2 - (48 : Int32))) rfl ?_
            refine g_i2l 566 X249 hx (hb hby at_565) rfl (z := ((z2 - (48 : Int32)).toInt64)) rfl ?_
            refine g_goto 570 X249 hx (hb hby at_566) (by decide) (by decide) ?_
            exact Jhj259 ((z2 - (48 : Int32)).toInt64) (Or.inr (⟨hc557_256, rfl⟩))
        intro z258 hj259
        refine g_lstore 572 X249 hx (hb hby at_570) rfl (Ls' := #[.val (.long q1), .second, .val (.int p2), .val (.int p3), .val (.int p4), .val (.int p5), .val (.int p6), .val (.long z1), .second, .val (.int z2), .val (.int z3), .val (.int z4), .val (.int z7), .val (.ref b8), .val (.int z170), .val (.int z182), .val (.int z184), .val (.int r185), .val (.int r186), .val (.long r187), .second, .unset, .unset, .val (.int z195), .val (.int z198), .val (.int z221), .val (.int z245), .val (.int z247), .val (.int r249), .val (.long (0 : Int64)), .second, .val (.int z252), .val (.long z255), .second, .val (.long z258), .second]) rfl ?_
        refine g_lload 574 X249 hx (hb hby at_572) rfl (v := z258) rfl ?_
        refine g_lconst 575 X249 hx (hb hby at_574) rfl (z := (0 : Int64)) rfl ?_
        by_cases hc575_259 : (0 : Int64) < z258
        ·
          refine g_lcmpNo 579 X249 hx (hb hby at_575) rfl (hb hby at_576) (tltL hc575_259).2.2.2 rfl ?_
          refine g_iload 581 X249 hx (hb hby at_579) rfl (v := r249) rfl ?_
          refine g_iload 583 X249 hx (hb hby at_581) rfl (v := z252) rfl ?_
          obtain ⟨z261, hz261⟩ : ∃ z : Int32, r249 + z252 = z := ⟨_, rfl⟩
          refine g_iadd 584 X249 hx (hb hby at_583) rfl (z := z261) hz261 ?_
          refine g_bipush 586 X249 hx (hb hby at_584) rfl (z := (18 : Int32)) rfl ?_
          by_cases hc586_261 : z261 < (18 : Int32)
          ·
            refine g_icmpYes 597 X249 hx (hb hby at_586)  (tlt hc586_261).1 (by decide) (by decide) ?_
            refine g_lload 599 X249 hx (hb hby at_597) rfl (v := z258) rfl ?_
            refine g_iload 601 X249 hx (hb hby at_599) rfl (v := r249) rfl ?_
            refine g_iload 603 X249 hx (hb hby at_601) rfl (v := z252) rfl ?_
            obtain ⟨z263, hz263⟩ : ∃ z : Int32, r249 + z252 = z := ⟨_, rfl⟩
            refine g_iadd 604 X249 hx (hb hby at_603) rfl (z := z263) hz263 ?_
            have hK3 : 0 ≤ z263.toInt ∧ z263.toInt ≤ 17 ∧ z263.toInt = r249.toInt + z252.toInt := (sub0_8 r185 r186 z198 r249 z252 z261 z263 hft hN hj253 hz261 hc586_261 hz263)
            have hq604_hk_264 : 0 ≤ z263.toInt ∧ z263.toInt ≤ 18 := ⟨hK3.1, by omega⟩
            refine g_callS 607 X249 hx hZ (y := (⟨"com/example/utility_meter_billing/utilitymeterbilling/io/WholeNumberValuePinLaw", "p", "(I)J"⟩ : MethodName)) hown (hw _ (List.mem_of_getElem? (i := 7) rfl)) (hw _ (List.mem_of_getElem? (i := 8) rfl)) (hw _ (List.mem_of_getElem? (i := 4) rfl)) (hw _ (List.mem_of_getElem? (i := 9) rfl)) (by decide) e249 (rm2 l Z a0 hw [] z263 hj222 n0 Zj222 hq604_hk_264) (by rw [hml]; rfl) [(.int z263)] [(.long z258)] rfl rfl (lenOf pd_0 rfl) 2 (Nat.le_of_eq rfl) (hb hby at_604) (by decide) (by decide) (by decide) (by decide) rfl ?_
            intro v264 T264 L264 X264 hQ264
            obtain ⟨r264, rfl, hr264, N264q, K264⟩ := hQ264
            have N264 := Fr.app N249 N264q
            have f266 := fj222_0.keep K264 nin0
            have Zs267 : n0 ≤ T264.heap.size := (Nat.le_trans Zj222 K264.1)
            show Go p e below s 56 1024 (Q0 Z q1 p2 p3 p4 p5 p6 h0 n0) T264 (mkF m 607 #[.val (.long q1), .second, .val (.int p2), .val (.int p3), .val (.int p4), .val (.int p5), .val (.int p6), .val (.long z1), .second, .val (.int z2), .val (.int z3), .val (.int z4), .val (.int z7), .val (.ref b8), .val (.int z170), .val (.int z182), .val (.int z184), .val (.int r185), .val (.int r186), .val (.long r187), .second, .unset, .unset, .val (.int z195), .val (.int z198), .val (.int z221), .val (.int z245), .val (.int z247), .val (.int r249), .val (.long (0 : Int64)), .second, .val (.int z252), .val (.long z255), .second, .val (.long z258), .second] [(.long r264), (.long z258)])
            obtain ⟨z268, hz268⟩ : ∃ z : Int64, z258 * r264 = z := ⟨_, rfl⟩
            refine g_lmul 608 X264 hx (hb hby at_607) rfl (z := z268) hz268 ?_
            refine g_lload 610 X264 hx (hb hby at_608) rfl (v := (0 : Int64)) rfl ?_
            refine g_iload 612 X264 hx (hb hby at_610) rfl (v := z252) rfl ?_
            have hK4 : 0 ≤ z252.toInt ∧ z252.toInt ≤ 18 := (sub0_9 z198 z252 hj253)
            have hq612_hk_269 : 0 ≤ z252.toInt ∧ z252.toInt ≤ 18 := hK4
            refine g_callS 615 X264 hx hZ (y := (⟨"com/example/utility_meter_billing/utilitymeterbilling/io/WholeNumberValuePinLaw", "p", "(I)J"⟩ : MethodName)) hown (hw _ (List.mem_of_getElem? (i := 7) rfl)) (hw _ (List.mem_of_getElem? (i := 8) rfl)) (hw _ (List.mem_of_getElem? (i := 4) rfl)) (hw _ (List.mem_of_getElem? (i := 9) rfl)) (by decide) rfl (rm2 l Z a0 hw [] z252 T264.heap n0 Zs267 hq612_hk_269) (by rw [hml]; rfl) [(.int z252)] [(.long (0 : Int64)), (.long z268)] rfl rfl (lenOf pd_0 rfl) 4 (Nat.le_of_eq rfl) (hb hby at_612) (by decide) (by decide) (by decide) (by decide) rfl ?_
            intro v269 T269 L269 X269 hQ269
            obtain ⟨r269, rfl, hr269, N269q, K269⟩ := hQ269
            have N269 := Fr.app N264 N269q
            have f271 := f266.keep K269 nin0
            have Zs272 : n0 ≤ T269.heap.size := (Nat.le_trans Zs267 K269.1)
            show Go p e below s 56 1024 (Q0 Z q1 p2 p3 p4 p5 p6 h0 n0) T269 (mkF m 615 #[.val (.long q1), .second, .val (.int p2), .val (.int p3), .val (.int p4), .val (.int p5), .val (.int p6), .val (.long z1), .second, .val (.int z2), .val (.int z3), .val (.int z4), .val (.int z7), .val (.ref b8), .val (.int z170), .val (.int z182), .val (.int z184), .val (.int r185), .val (.int r186), .val (.long r187), .second, .unset, .unset, .val (.int z195), .val (.int z198), .val (.int z221), .val (.int z245), .val (.int z247), .val (.int r249), .val (.long (0 : Int64)), .second, .val (.int z252), .val (.long z255), .second, .val (.long z258), .second] [(.long r269), (.long (0 : Int64)), (.long z268)])
            obtain ⟨z273, hz273⟩ : ∃ z : Int64, (0 : Int64) * r269 = z := ⟨_, rfl⟩
            refine g_lmul 616 X269 hx (hb hby at_615) rfl (z := z273) hz273 ?_
            obtain ⟨z274, hz274⟩ : ∃ z : Int64, z268 + z273 = z := ⟨_, rfl⟩
            refine g_ladd 617 X269 hx (hb hby at_616) rfl (z := z274) hz274 ?_
            refine g_lload 619 X269 hx (hb hby at_617) rfl (v := z255) rfl ?_
            obtain ⟨z275, hz275⟩ : ∃ z : Int64, z274 + z255 = z := ⟨_, rfl⟩
            refine g_ladd 620 X269 hx (hb hby at_619) rfl (z := z275) hz275 ?_
            refine g_lstore 622 X269 hx (hb hby at_620) rfl (Ls' := #[.val (.long q1), .second, .val (.int p2), .val (.int p3), .val (.int p4), .val (.int p5), .val (.int p6), .val (.long z1), .second, .val (.int z2), .val (.int z3), .val (.int z4), .val (.int z7), .val (.ref b8), .val (.int z170), .val (.int z182), .val (.int z184), .val (.int r185), .val (.int r186), .val (.long r187), .second, .val (.long z275), .second, .val (.int z195), .val (.int z198), .val (.int z221), .val (.int z245), .val (.int z247), .val (.int r249), .val (.long (0 : Int64)), .second, .val (.int z252), .val (.long z255), .second, .val (.long z258), .second]) rfl ?_
            refine g_goto 678 X269 hx (hb hby at_622) (by decide) (by decide) ?_
            refine g_lload 680 X269 hx (hb hby at_678) rfl (v := r187) rfl ?_
            refine g_lload 682 X269 hx (hb hby at_680) rfl (v := z275) rfl ?_
            suffices Jhj278 : ∀ (z277 : Int32), ((r187 = z275 ∧ z277 = (1 : Int32)) ∨ (¬ (r187 = z275) ∧ z277 = (0 : Int32))) → Go p e below s 56 1024 (Q0 Z q1 p2 p3 p4 p5 p6 h0 n0) T269 (mkF m 691 #[.val (.long q1), .second, .val (.int p2), .val (.int p3), .val (.int p4), .val (.int p5), .val (.int p6), .val (.long z1), .second, .val (.int z2), .val (.int z3), .val (.int z4), .val (.int z7), .val (.ref b8), .val (.int z170), .val (.int z182), .val (.int z184), .val (.int r185), .val (.int r186), .val (.long r187), .second, .val (.long z275), .second, .val (.int z195), .val (.int z198), .val (.int z221), .val (.int z245), .val (.int z247), .val (.int r249), .val (.long (0 : Int64)), .second, .val (.int z252), .val (.long z255), .second, .val (.long z258), .second] [(.int z277)]) by
              by_cases hc682_275 : r187 = z275
              ·
                refine g_lcmpNo 686 X269 hx (hb hby at_682) rfl (hb hby at_683) (teqL hc682_275).2 rfl ?_
                refine g_iconst 687 X269 hx (hb hby at_686) rfl (z := (1 : Int32)) rfl ?_
                refine g_goto 691 X269 hx (hb hby at_687) (by decide) (by decide) ?_
                exact Jhj278 (1 : Int32) (Or.inl ⟨hc682_275, rfl⟩)
              ·
                refine g_lcmpYes 690 X269 hx (hb hby at_682) rfl (hb hby at_683) (feqL hc682_275).2 (by decide) (by decide) ?_
                refine g_iconst 691 X269 hx (hb hby at_690) rfl (z := (0 : Int32)) rfl ?_
                exact Jhj278 (0 : Int32) (Or.inr (⟨hc682_275, rfl⟩))
            intro z277 hj278
            have hl1 : z277 = 1 := leaf_1 q1 p2 p3 p4 p5 p6 z1 z2 z3 z4 z7 z170 F176 z182 z184 r185 r186 r187 z195 z198 z221 z245 z247 r249 z252 z255 z258 z261 z263 r264 z268 r269 z273 z274 z275 z277 hM hft hc348_189 hj196 hj199 hB hc439_242 hN hR hj253 hj256 hj259 hc575_259 hz261 hc586_261 hz263 hK3 hr264 hz268 hK4 hr269 hz273 hz274 hz275 hj278
            subst hl1
            exact g_retN X269 hx (t := .boolean) Bd.returns hlk (by simp) rfl (hb hby at_691) (by decide) (by decide) ⟨rfl, N269⟩
          ·
            refine g_icmpNo 589 X249 hx (hb hby at_586)  (flt hc586_261).1 rfl ?_
            refine g_ldc2 592 X249 hx hZ hown (hw _ (List.mem_of_getElem? (i := 0) rfl)) (hb hby at_589) rfl ?_
            refine g_lstore 594 X249 hx (hb hby at_592) rfl (Ls' := #[.val (.long q1), .second, .val (.int p2), .val (.int p3), .val (.int p4), .val (.int p5), .val (.int p6), .val (.long z1), .second, .val (.int z2), .val (.int z3), .val (.int z4), .val (.int z7), .val (.ref b8), .val (.int z170), .val (.int z182), .val (.int z184), .val (.int r185), .val (.int r186), .val (.long r187), .second, .val (.long (9223372036854775807 : Int64)), .second, .val (.int z195), .val (.int z198), .val (.int z221), .val (.int z245), .val (.int z247), .val (.int r249), .val (.long (0 : Int64)), .second, .val (.int z252), .val (.long z255), .second, .val (.long z258), .second]) rfl ?_
            refine g_goto 678 X249 hx (hb hby at_594) (by decide) (by decide) ?_
            refine g_lload 680 X249 hx (hb hby at_678) rfl (v := r187) rfl ?_
            refine g_lload 682 X249 hx (hb hby at_680) rfl (v := (9223372036854775807 : Int64)) rfl ?_
            suffices Jhj281 : ∀ (z280 : Int32), ((r187 = (9223372036854775807 : Int64) ∧ z280 = (1 : Int32)) ∨ (¬ (r187 = (9223372036854775807 : Int64)) ∧ z280 = (0 : Int32))) → Go p e below s 56 1024 (Q0 Z q1 p2 p3 p4 p5 p6 h0 n0) T249 (mkF m 691 #[.val (.long q1), .second, .val (.int p2), .val (.int p3), .val (.int p4), .val (.int p5), .val (.int p6), .val (.long z1), .second, .val (.int z2), .val (.int z3), .val (.int z4), .val (.int z7), .val (.ref b8), .val (.int z170), .val (.int z182), .val (.int z184), .val (.int r185), .val (.int r186), .val (.long r187), .second, .val (.long (9223372036854775807 : Int64)), .second, .val (.int z195), .val (.int z198), .val (.int z221), .val (.int z245), .val (.int z247), .val (.int r249), .val (.long (0 : Int64)), .second, .val (.int z252), .val (.long z255), .second, .val (.long z258), .second] [(.int z280)]) by
              by_cases hc682_278 : r187 = (9223372036854775807 : Int64)
              ·
                refine g_lcmpNo 686 X249 hx (hb hby at_682) rfl (hb hby at_683) (teqL hc682_278).2 rfl ?_
                refine g_iconst 687 X249 hx (hb hby at_686) rfl (z := (1 : Int32)) rfl ?_
                refine g_goto 691 X249 hx (hb hby at_687) (by decide) (by decide) ?_
                exact Jhj281 (1 : Int32) (Or.inl ⟨hc682_278, rfl⟩)
              ·
                refine g_lcmpYes 690 X249 hx (hb hby at_682) rfl (hb hby at_683) (feqL hc682_278).2 (by decide) (by decide) ?_
                refine g_iconst 691 X249 hx (hb hby at_690) rfl (z := (0 : Int32)) rfl ?_
                exact Jhj281 (0 : Int32) (Or.inr (⟨hc682_278, rfl⟩))
            intro z280 hj281
            have hl2 : z280 = 1 := leaf_2 q1 p2 p3 p4 p5 p6 z1 z2 z3 z4 z7 z170 F176 z182 z184 r185 r186 r187 z195 z198 z221 z245 z247 r249 z252 z255 z258 z261 z280 hM hft hc348_189 hj196 hj199 hB hc439_242 hN hR hj253 hj256 hj259 hc575_259 hz261 hc586_261 hj281
            subst hl2
            exact g_retN X249 hx (t := .boolean) Bd.returns hlk (by simp) rfl (hb hby at_691) (by decide) (by decide) ⟨rfl, N249⟩
        ·
          refine g_lcmpYes 625 X249 hx (hb hby at_575) rfl (hb hby at_576) (fltL hc575_259).2.2.2 (by decide) (by decide) ?_
          refine g_iload 627 X249 hx (hb hby at_625) rfl (v := z252) rfl ?_
          suffices Jhj284 : ∀ (z283 : Int64), ((z252 = (0 : Int32) ∧ z283 = (0 : Int64)) ∨ (¬ (z252 = (0 : Int32)) ∧ z283 = ((0 : Int64) + z255))) → Go p e below s 56 1024 (Q0 Z q1 p2 p3 p4 p5 p6 h0 n0) T249 (mkF m 678 #[.val (.long q1), .second, .val (.int p2), .val (.int p3), .val (.int p4), .val (.int p5), .val (.int p6), .val (.long z1), .second, .val (.int z2), .val (.int z3), .val (.int z4), .val (.int z7), .val (.ref b8), .val (.int z170), .val (.int z182), .val (.int z184), .val (.int r185), .val (.int r186), .val (.long r187), .second, .val (.long z283), .second, .val (.int z195), .val (.int z198), .val (.int z221), .val (.int z245), .val (.int z247), .val (.int r249), .val (.long (0 : Int64)), .second, .val (.int z252), .val (.long z255), .second, .val (.long z258), .second] []) by
            by_cases hc627_281 : z252 = (0 : Int32)
            ·
              refine g_ifNo 630 X249 hx (hb hby at_627)  ((if0 _ _).trans (teq hc627_281).2) rfl ?_
              refine g_lload 632 X249 hx (hb hby at_630) rfl (v := (0 : Int64)) rfl ?_
              refine g_ldc2 635 X249 hx hZ hown (hw _ (List.mem_of_getElem? (i := 49) rfl)) (hb hby at_632) rfl ?_
              refine g_lcmpYes 645 X249 hx (hb hby at_635) rfl (hb hby at_636) (fltL (by decide : ¬ ((999999999999999999 : Int64) < (0 : Int64)))).2.2.2 (by decide) (by decide) ?_
              refine g_lload 647 X249 hx (hb hby at_645) rfl (v := (0 : Int64)) rfl ?_
              refine g_lstore 649 X249 hx (hb hby at_647) rfl (Ls' := #[.val (.long q1), .second, .val (.int p2), .val (.int p3), .val (.int p4), .val (.int p5), .val (.int p6), .val (.long z1), .second, .val (.int z2), .val (.int z3), .val (.int z4), .val (.int z7), .val (.ref b8), .val (.int z170), .val (.int z182), .val (.int z184), .val (.int r185), .val (.int r186), .val (.long r187), .second, .val (.long (0 : Int64)), .second, .val (.int z195), .val (.int z198), .val (.int z221), .val (.int z245), .val (.int z247), .val (.int r249), .val (.long (0 : Int64)), .second, .val (.int z252), .val (.long z255), .second, .val (.long z258), .second]) rfl ?_
              refine g_goto 678 X249 hx (hb hby at_649) (by decide) (by decide) ?_
              exact Jhj284 (0 : Int64) (Or.inl ⟨hc627_281, rfl⟩)
            ·
              refine g_ifYes 652 X249 hx (hb hby at_627)  ((if0 _ _).trans (feq hc627_281).2) (by decide) (by decide) ?_
              refine g_lload 654 X249 hx (hb hby at_652) rfl (v := (0 : Int64)) rfl ?_
              refine g_ldc2 657 X249 hx hZ hown (hw _ (List.mem_of_getElem? (i := 50) rfl)) (hb hby at_654) rfl ?_
              refine g_lcmpYes 667 X249 hx (hb hby at_657) rfl (hb hby at_658) (fltL (by decide : ¬ ((99999999999999999 : Int64) < (0 : Int64)))).2.2.2 (by decide) (by decide) ?_
              refine g_lload 669 X249 hx (hb hby at_667) rfl (v := (0 : Int64)) rfl ?_
              refine g_ldc2 672 X249 hx hZ hown (hw _ (List.mem_of_getElem? (i := 11) rfl)) (hb hby at_669) rfl ?_
              refine g_lmul 673 X249 hx (hb hby at_672) rfl (z := (0 : Int64)) (by decide) ?_
              refine g_lload 675 X249 hx (hb hby at_673) rfl (v := z255) rfl ?_
              refine g_ladd 676 X249 hx (hb hby at_675) rfl (z := ((0 : Int64) + z255)) rfl ?_
              refine g_lstore 678 X249 hx (hb hby at_676) rfl (Ls' := #[.val (.long q1), .second, .val (.int p2), .val (.int p3), .val (.int p4), .val (.int p5), .val (.int p6), .val (.long z1), .second, .val (.int z2), .val (.int z3), .val (.int z4), .val (.int z7), .val (.ref b8), .val (.int z170), .val (.int z182), .val (.int z184), .val (.int r185), .val (.int r186), .val (.long r187), .second, .val (.long ((0 : Int64) + z255)), .second, .val (.int z195), .val (.int z198), .val (.int z221), .val (.int z245), .val (.int z247), .val (.int r249), .val (.long (0 : Int64)), .second, .val (.int z252), .val (.long z255), .second, .val (.long z258), .second]) rfl ?_
              exact Jhj284 ((0 : Int64) + z255) (Or.inr (⟨hc627_281, rfl⟩))
          intro z283 hj284
          refine g_lload 680 X249 hx (hb hby at_678) rfl (v := r187) rfl ?_
          refine g_lload 682 X249 hx (hb hby at_680) rfl (v := z283) rfl ?_
          suffices Jhj287 : ∀ (z286 : Int32), ((r187 = z283 ∧ z286 = (1 : Int32)) ∨ (¬ (r187 = z283) ∧ z286 = (0 : Int32))) → Go p e below s 56 1024 (Q0 Z q1 p2 p3 p4 p5 p6 h0 n0) T249 (mkF m 691 #[.val (.long q1), .second, .val (.int p2), .val (.int p3), .val (.int p4), .val (.int p5), .val (.int p6), .val (.long z1), .second, .val (.int z2), .val (.int z3), .val (.int z4), .val (.int z7), .val (.ref b8), .val (.int z170), .val (.int z182), .val (.int z184), .val (.int r185), .val (.int r186), .val (.long r187), .second, .val (.long z283), .second, .val (.int z195), .val (.int z198), .val (.int z221), .val (.int z245), .val (.int z247), .val (.int r249), .val (.long (0 : Int64)), .second, .val (.int z252), .val (.long z255), .second, .val (.long z258), .second] [(.int z286)]) by
            by_cases hc682_284 : r187 = z283
            ·
              refine g_lcmpNo 686 X249 hx (hb hby at_682) rfl (hb hby at_683) (teqL hc682_284).2 rfl ?_
              refine g_iconst 687 X249 hx (hb hby at_686) rfl (z := (1 : Int32)) rfl ?_
              refine g_goto 691 X249 hx (hb hby at_687) (by decide) (by decide) ?_
              exact Jhj287 (1 : Int32) (Or.inl ⟨hc682_284, rfl⟩)
            ·
              refine g_lcmpYes 690 X249 hx (hb hby at_682) rfl (hb hby at_683) (feqL hc682_284).2 (by decide) (by decide) ?_
              refine g_iconst 691 X249 hx (hb hby at_690) rfl (z := (0 : Int32)) rfl ?_
              exact Jhj287 (0 : Int32) (Or.inr (⟨hc682_284, rfl⟩))
          intro z286 hj287
          have hl3 : z286 = 1 := leaf_3 q1 p2 p3 p4 p5 p6 z1 z2 z3 z4 z7 z170 F176 z182 z184 r185 r186 r187 z195 z198 z221 z245 z247 r249 z252 z255 z258 z283 z286 hM hft hc348_189 hj196 hj199 hB hc439_242 hN hR hj253 hj256 hj259 hc575_259 hj284 hj287
          subst hl3
          exact g_retN X249 hx (t := .boolean) Bd.returns hlk (by simp) rfl (hb hby at_691) (by decide) (by decide) ⟨rfl, N249⟩
      ·
        refine g_ifYes 493 X249 hx (hb hby at_484)  ((if0 _ _).trans (feq hc484_249).2) (by decide) (by decide) ?_
        refine g_iload 495 X249 hx (hb hby at_493) rfl (v := r249) rfl ?_
        refine g_bipush 497 X249 hx (hb hby at_495) rfl (z := (19 : Int32)) rfl ?_
        by_cases hc497_287 : r249 = (19 : Int32)
        ·
          refine g_icmpNo 500 X249 hx (hb hby at_497)  (teq hc497_287).2 rfl ?_
          refine g_lload 502 X249 hx (hb hby at_500) rfl (v := z1) rfl ?_
          refine g_lstore 504 X249 hx (hb hby at_502) rfl (Ls' := #[.val (.long q1), .second, .val (.int p2), .val (.int p3), .val (.int p4), .val (.int p5), .val (.int p6), .val (.long z1), .second, .val (.int z2), .val (.int z3), .val (.int z4), .val (.int z7), .val (.ref b8), .val (.int z170), .val (.int z182), .val (.int z184), .val (.int r185), .val (.int r186), .val (.long r187), .second, .unset, .unset, .val (.int z195), .val (.int z198), .val (.int z221), .val (.int z245), .val (.int z247), .val (.int r249), .val (.long z1), .second, .unset, .unset, .unset, .unset, .unset]) rfl ?_
          refine g_goto 526 X249 hx (hb hby at_504) (by decide) (by decide) ?_
          refine g_iload 528 X249 hx (hb hby at_526) rfl (v := z198) rfl ?_
          have hR : z1.toInt = ((own_R z1.toInt.toNat r185.toInt.toNat r186.toInt.toNat : Nat) : Int) := (sub0_10 z1 r185 r186 z247 r249 hM hft hN hN2 hc484_249 hc497_287)
          suffices Jhj291 : ∀ (z290 : Int32), ((z198 = (0 : Int32) ∧ z290 = (0 : Int32)) ∨ (¬ (z198 = (0 : Int32)) ∧ z290 = (1 : Int32))) → Go p e below s 56 1024 (Q0 Z q1 p2 p3 p4 p5 p6 h0 n0) T249 (mkF m 536 #[.val (.long q1), .second, .val (.int p2), .val (.int p3), .val (.int p4), .val (.int p5), .val (.int p6), .val (.long z1), .second, .val (.int z2), .val (.int z3), .val (.int z4), .val (.int z7), .val (.ref b8), .val (.int z170), .val (.int z182), .val (.int z184), .val (.int r185), .val (.int r186), .val (.long r187), .second, .unset, .unset, .val (.int z195), .val (.int z198), .val (.int z221), .val (.int z245), .val (.int z247), .val (.int r249), .val (.long z1), .second, .unset, .unset, .unset, .unset, .unset] [(.int z290)]) by
            by_cases hc528_288 : z198 = (0 : Int32)
            ·
              refine g_ifYes 535 X249 hx (hb hby at_528)  ((if0 _ _).trans (teq hc528_288).1) (by decide) (by decide) ?_
              refine g_iconst 536 X249 hx (hb hby at_535) rfl (z := (0 : Int32)) rfl ?_
              exact Jhj291 (0 : Int32) (Or.inl ⟨hc528_288, rfl⟩)
            ·
              refine g_ifNo 531 X249 hx (hb hby at_528)  ((if0 _ _).trans (feq hc528_288).1) rfl ?_
              refine g_iconst 532 X249 hx (hb hby at_531) rfl (z := (1 : Int32)) rfl ?_
              refine g_goto 536 X249 hx (hb hby at_532) (by decide) (by decide) ?_
              exact Jhj291 (1 : Int32) (Or.inr (⟨hc528_288, rfl⟩))
          intro z290 hj291
          refine g_istore 538 X249 hx (hb hby at_536) rfl (Ls' := #[.val (.long q1), .second, .val (.int p2), .val (.int p3), .val (.int p4), .val (.int p5), .val (.int p6), .val (.long z1), .second, .val (.int z2), .val (.int z3), .val (.int z4), .val (.int z7), .val (.ref b8), .val (.int z170), .val (.int z182), .val (.int z184), .val (.int r185), .val (.int r186), .val (.long r187), .second, .unset, .unset, .val (.int z195), .val (.int z198), .val (.int z221), .val (.int z245), .val (.int z247), .val (.int r249), .val (.long z1), .second, .val (.int z290), .unset, .unset, .unset, .unset]) rfl ?_
          refine g_iload 540 X249 hx (hb hby at_538) rfl (v := z198) rfl ?_
          suffices Jhj294 : ∀ (z293 : Int64), ((z198 = (0 : Int32) ∧ z293 = (0 : Int64)) ∨ (¬ (z198 = (0 : Int32)) ∧ z293 = ((z3 - (48 : Int32)).toInt64))) → Go p e below s 56 1024 (Q0 Z q1 p2 p3 p4 p5 p6 h0 n0) T249 (mkF m 553 #[.val (.long q1), .second, .val (.int p2), .val (.int p3), .val (.int p4), .val (.int p5), .val (.int p6), .val (.long z1), .second, .val (.int z2), .val (.int z3), .val (.int z4), .val (.int z7), .val (.ref b8), .val (.int z170), .val (.int z182), .val (.int z184), .val (.int r185), .val (.int r186), .val (.long r187), .second, .unset, .unset, .val (.int z195), .val (.int z198), .val (.int z221), .val (.int z245), .val (.int z247), .val (.int r249), .val (.long z1), .second, .val (.int z290), .unset, .unset, .unset, .unset] [(.long z293)]) by
            by_cases hc540_291 : z198 = (0 : Int32)
            ·
              refine g_ifYes 552 X249 hx (hb hby at_540)  ((if0 _ _).trans (teq hc540_291).1) (by decide) (by decide) ?_
              refine g_lconst 553 X249 hx (hb hby at_552) rfl (z := (0 : Int64)) rfl ?_
              exact Jhj294 (0 : Int64) (Or.inl ⟨hc540_291, rfl⟩)
            ·
              refine g_ifNo 543 X249 hx (hb hby at_540)  ((if0 _ _).trans (feq hc540_291).1) rfl ?_
              refine g_iload 545 X249 hx (hb hby at_543) rfl (v := z3) rfl ?_
              refine g_bipush 547 X249 hx (hb hby at_545) rfl (z := (48 : Int32)) rfl ?_
              refine g_isub 548 X249 hx (hb hby at_547) rfl (z := (z3 - (48 : Int32))) rfl ?_
              refine g_i2l 549 X249 hx (hb hby at_548) rfl (z := ((z3 - (48 : Int32)).toInt64)) rfl ?_
              refine g_goto 553 X249 hx (hb hby at_549) (by decide) (by decide) ?_
              exact Jhj294 ((z3 - (48 : Int32)).toInt64) (Or.inr (⟨hc540_291, rfl⟩))
          intro z293 hj294
          refine g_lstore 555 X249 hx (hb hby at_553) rfl (Ls' := #[.val (.long q1), .second, .val (.int p2), .val (.int p3), .val (.int p4), .val (.int p5), .val (.int p6), .val (.long z1), .second, .val (.int z2), .val (.int z3), .val (.int z4), .val (.int z7), .val (.ref b8), .val (.int z170), .val (.int z182), .val (.int z184), .val (.int r185), .val (.int r186), .val (.long r187), .second, .unset, .unset, .val (.int z195), .val (.int z198), .val (.int z221), .val (.int z245), .val (.int z247), .val (.int r249), .val (.long z1), .second, .val (.int z290), .val (.long z293), .second, .unset, .unset]) rfl ?_
          refine g_iload 557 X249 hx (hb hby at_555) rfl (v := z195) rfl ?_
          suffices Jhj297 : ∀ (z296 : Int64), ((z195 = (0 : Int32) ∧ z296 = (0 : Int64)) ∨ (¬ (z195 = (0 : Int32)) ∧ z296 = ((z2 - (48 : Int32)).toInt64))) → Go p e below s 56 1024 (Q0 Z q1 p2 p3 p4 p5 p6 h0 n0) T249 (mkF m 570 #[.val (.long q1), .second, .val (.int p2), .val (.int p3), .val (.int p4), .val (.int p5), .val (.int p6), .val (.long z1), .second, .val (.int z2), .val (.int z3), .val (.int z4), .val (.int z7), .val (.ref b8), .val (.int z170), .val (.int z182), .val (.int z184), .val (.int r185), .val (.int r186), .val (.long r187), .second, .unset, .unset, .val (.int z195), .val (.int z198), .val (.int z221), .val (.int z245), .val (.int z247), .val (.int r249), .val (.long z1), .second, .val (.int z290), .val (.long z293), .second, .unset, .unset] [(.long z296)]) by
            by_cases hc557_294 : z195 = (0 : Int32)
            ·
              refine g_ifYes 569 X249 hx (hb hby at_557)  ((if0 _ _).trans (teq hc557_294).1) (by decide) (by decide) ?_
              refine g_lconst 570 X249 hx (hb hby at_569) rfl (z := (0 : Int64)) rfl ?_
              exact Jhj297 (0 : Int64) (Or.inl ⟨hc557_294, rfl⟩)
            ·
              refine g_ifNo 560 X249 hx (hb hby at_557)  ((if0 _ _).trans (feq hc557_294).1) rfl ?_
              refine g_iload 562 X249 hx (hb hby at_560) rfl (v := z2) rfl ?_
              refine g_bipush 564 X249 hx (hb hby at_562) rfl (z := (48 : Int32)) rfl ?_
              refine g_isub 565 X249 hx (hb hby at_564) rfl (z := (z2 - (48 : Int32))) rfl ?_
              refine g_i2l 566 X249 hx (hb hby at_565) rfl (z := ((z2 - (48 : Int32)).toInt64)) rfl ?_
              refine g_goto 570 X249 hx (hb hby at_566) (by decide) (by decide) ?_
              exact Jhj297 ((z2 - (48 : Int32)).toInt64) (Or.inr (⟨hc557_294, rfl⟩))
          intro z296 hj297
          refine g_lstore 572 X249 hx (hb hby at_570) rfl (Ls' := #[.val (.long q1), .second, .val (.int p2), .val (.int p3), .val (.int p4), .val (.int p5), .val (.int p6), .val (.long z1), .second, .val (.int z2), .val (.int z3), .val (.int z4), .val (.int z7), .val (.ref b8), .val (.int z170), .val (.int z182), .val (.int z184), .val (.int r185), .val (.int r186), .val (.long r187), .second, .unset, .unset, .val (.int z195), .val (.int z198), .val (.int z221), .val (.int z245), .val (.int z247), .val (.int r249), .val (.long z1), .second, .val (.int z290), .val (.long z293), .second, .val (.long z296), .second]) rfl ?_
          refine g_lload 574 X249 hx (hb hby at_572) rfl (v := z296) rfl ?_
          refine g_lconst 575 X249 hx (hb hby at_574) rfl (z := (0 : Int64)) rfl ?_
          by_cases hc575_297 : (0 : Int64) < z296
          ·
            refine g_lcmpNo 579 X249 hx (hb hby at_575) rfl (hb hby at_576) (tltL hc575_297).2.2.2 rfl ?_
            refine g_iload 581 X249 hx (hb hby at_579) rfl (v := r249) rfl ?_
            refine g_iload 583 X249 hx (hb hby at_581) rfl (v := z290) rfl ?_
            obtain ⟨z299, hz299⟩ : ∃ z : Int32, r249 + z290 = z := ⟨_, rfl⟩
            refine g_iadd 584 X249 hx (hb hby at_583) rfl (z := z299) hz299 ?_
            refine g_bipush 586 X249 hx (hb hby at_584) rfl (z := (18 : Int32)) rfl ?_
            by_cases hc586_299 : z299 < (18 : Int32)
            ·
              refine g_icmpYes 597 X249 hx (hb hby at_586)  (tlt hc586_299).1 (by decide) (by decide) ?_
              refine g_lload 599 X249 hx (hb hby at_597) rfl (v := z296) rfl ?_
              refine g_iload 601 X249 hx (hb hby at_599) rfl (v := r249) rfl ?_
              refine g_iload 603 X249 hx (hb hby at_601) rfl (v := z290) rfl ?_
              obtain ⟨z301, hz301⟩ : ∃ z : Int32, r249 + z290 = z := ⟨_, rfl⟩
              refine g_iadd 604 X249 hx (hb hby at_603) rfl (z := z301) hz301 ?_
              have hK3 : 0 ≤ z301.toInt ∧ z301.toInt ≤ 17 ∧ z301.toInt = r249.toInt + z290.toInt := (sub0_11 r185 r186 z198 r249 z290 z299 z301 hft hN hj291 hz299 hc586_299 hz301)
              have hq604_hk_302 : 0 ≤ z301.toInt ∧ z301.toInt ≤ 18 := ⟨hK3.1, by omega⟩
              refine g_callS 607 X249 hx hZ (y := (⟨"com/example/utility_meter_billing/utilitymeterbilling/io/WholeNumberValuePinLaw", "p", "(I)J"⟩ : MethodName)) hown (hw _ (List.mem_of_getElem? (i := 7) rfl)) (hw _ (List.mem_of_getElem? (i := 8) rfl)) (hw _ (List.mem_of_getElem? (i := 4) rfl)) (hw _ (List.mem_of_getElem? (i := 9) rfl)) (by decide) e249 (rm2 l Z a0 hw [] z301 hj222 n0 Zj222 hq604_hk_302) (by rw [hml]; rfl) [(.int z301)] [(.long z296)] rfl rfl (lenOf pd_0 rfl) 2 (Nat.le_of_eq rfl) (hb hby at_604) (by decide) (by decide) (by decide) (by decide) rfl ?_
              intro v302 T302 L302 X302 hQ302
              obtain ⟨r302, rfl, hr302, N302q, K302⟩ := hQ302
              have N302 := Fr.app N249 N302q
              have f304 := fj222_0.keep K302 nin0
              have Zs305 : n0 ≤ T302.heap.size := (Nat.le_trans Zj222 K302.1)
              show Go p e below s 56 1024 (Q0 Z q1 p2 p3 p4 p5 p6 h0 n0) T302 (mkF m 607 #[.val (.long q1), .second, .val (.int p2), .val (.int p3), .val (.int p4), .val (.int p5), .val (.int p6), .val (.long z1), .second, .val (.int z2), .val (.int z3), .val (.int z4), .val (.int z7), .val (.ref b8), .val (.int z170), .val (.int z182), .val (.int z184), .val (.int r185), .val (.int r186), .val (.long r187), .second, .unset, .unset, .val (.int z195), .val (.int z198), .val (.int z221), .val (.int z245), .val (.int z247), .val (.int r249), .val (.long z1), .second, .val (.int z290), .val (.long z293), .second, .val (.long z296), .second] [(.long r302), (.long z296)])
              obtain ⟨z306, hz306⟩ : ∃ z : Int64, z296 * r302 = z := ⟨_, rfl⟩
              refine g_lmul 608 X302 hx (hb hby at_607) rfl (z := z306) hz306 ?_
              refine g_lload 610 X302 hx (hb hby at_608) rfl (v := z1) rfl ?_
              refine g_iload 612 X302 hx (hb hby at_610) rfl (v := z290) rfl ?_
              have hK4 : 0 ≤ z290.toInt ∧ z290.toInt ≤ 18 := (sub0_12 z198 z290 hj291)
              have hq612_hk_307 : 0 ≤ z290.toInt ∧ z290.toInt ≤ 18 := hK4
              refine g_callS 615 X302 hx hZ (y := (⟨"com/example/utility_meter_billing/utilitymeterbilling/io/WholeNumberValuePinLaw", "p", "(I)J"⟩ : MethodName)) hown (hw _ (List.mem_of_getElem? (i := 7) rfl)) (hw _ (List.mem_of_getElem? (i := 8) rfl)) (hw _ (List.mem_of_getElem? (i := 4) rfl)) (hw _ (List.mem_of_getElem? (i := 9) rfl)) (by decide) rfl (rm2 l Z a0 hw [] z290 T302.heap n0 Zs305 hq612_hk_307) (by rw [hml]; rfl) [(.int z290)] [(.long z1), (.long z306)] rfl rfl (lenOf pd_0 rfl) 4 (Nat.le_of_eq rfl) (hb hby at_612) (by decide) (by decide) (by decide) (by decide) rfl ?_
              intro v307 T307 L307 X307 hQ307
              obtain ⟨r307, rfl, hr307, N307q, K307⟩ := hQ307
              have N307 := Fr.app N302 N307q
              have f309 := f304.keep K307 nin0
              have Zs310 : n0 ≤ T307.heap.size := (Nat.le_trans Zs305 K307.1)
              show Go p e below s 56 1024 (Q0 Z q1 p2 p3 p4 p5 p6 h0 n0) T307 (mkF m 615 #[.val (.long q1), .second, .val (.int p2), .val (.int p3), .val (.int p4), .val (.int p5), .val (.int p6), .val (.long z1), .second, .val (.int z2), .val (.int z3), .val (.int z4), .val (.int z7), .val (.ref b8), .val (.int z170), .val (.int z182), .val (.int z184), .val (.int r185), .val (.int r186), .val (.long r187), .second, .unset, .unset, .val (.int z195), .val (.int z198), .val (.int z221), .val (.int z245), .val (.int z247), .val (.int r249), .val (.long z1), .second, .val (.int z290), .val (.long z293), .second, .val (.long z296), .second] [(.long r307), (.long z1), (.long z306)])
              obtain ⟨z311, hz311⟩ : ∃ z : Int64, z1 * r307 = z := ⟨_, rfl⟩
              refine g_lmul 616 X307 hx (hb hby at_615) rfl (z := z311) hz311 ?_
              obtain ⟨z312, hz312⟩ : ∃ z : Int64, z306 + z311 = z := ⟨_, rfl⟩
              refine g_ladd 617 X307 hx (hb hby at_616) rfl (z := z312) hz312 ?_
              refine g_lload 619 X307 hx (hb hby at_617) rfl (v := z293) rfl ?_
              obtain ⟨z313, hz313⟩ : ∃ z : Int64, z312 + z293 = z := ⟨_, rfl⟩
              refine g_ladd 620 X307 hx (hb hby at_619) rfl (z := z313) hz313 ?_
              refine g_lstore 622 X307 hx (hb hby at_620) rfl (Ls' := #[.val (.long q1), .second, .val (.int p2), .val (.int p3), .val (.int p4), .val (.int p5), .val (.int p6), .val (.long z1), .second, .val (.int z2), .val (.int z3), .val (.int z4), .val (.int z7), .val (.ref b8), .val (.int z170), .val (.int z182), .val (.int z184), .val (.int r185), .val (.int r186), .val (.long r187), .second, .val (.long z313), .second, .val (.int z195), .val (.int z198), .val (.int z221), .val (.int z245), .val (.int z247), .val (.int r249), .val (.long z1), .second, .val (.int z290), .val (.long z293), .second, .val (.long z296), .second]) rfl ?_
              refine g_goto 678 X307 hx (hb hby at_622) (by decide) (by decide) ?_
              refine g_lload 680 X307 hx (hb hby at_678) rfl (v := r187) rfl ?_
              refine g_lload 682 X307 hx (hb hby at_680) rfl (v := z313) rfl ?_
              suffices Jhj316 : ∀ (z315 : Int32), ((r187 = z313 ∧ z315 = (1 : Int32)) ∨ (¬ (r187 = z313) ∧ z315 = (0 : Int32))) → Go p e below s 56 1024 (Q0 Z q1 p2 p3 p4 p5 p6 h0 n0) T307 (mkF m 691 #[.val (.long q1), .second, .val (.int p2), .val (.int p3), .val (.int p4), .val (.int p5), .val (.int p6), .val (.long z1), .second, .val (.int z2), .val (.int z3), .val (.int z4), .val (.int z7), .val (.ref b8), .val (.int z170), .val (.int z182), .val (.int z184), .val (.int r185), .val (.int r186), .val (.long r187), .second, .val (.long z313), .second, .val (.int z195), .val (.int z198), .val (.int z221), .val (.int z245), .val (.int z247), .val (.int r249), .val (.long z1), .second, .val (.int z290), .val (.long z293), .second, .val (.long z296), .second] [(.int z315)]) by
                by_cases hc682_313 : r187 = z313
                ·
                  refine g_lcmpNo 686 X307 hx (hb hby at_682) rfl (hb hby at_683) (teqL hc682_313).2 rfl ?_
                  refine g_iconst 687 X307 hx (hb hby at_686) rfl (z := (1 : Int32)) rfl ?_
                  refine g_goto 691 X307 hx (hb hby at_687) (by decide) (by decide) ?_
                  exact Jhj316 (1 : Int32) (Or.inl ⟨hc682_313, rfl⟩)
                ·
                  refine g_lcmpYes 690 X307 hx (hb hby at_682) rfl (hb hby at_683) (feqL hc682_313).2 (by decide) (by decide) ?_
                  refine g_iconst 691 X307 hx (hb hby at_690) rfl (z := (0 : Int32)) rfl ?_
                  exact Jhj316 (0 : Int32) (Or.inr (⟨hc682_313, rfl⟩))
              intro z315 hj316
              have hl4 : z315 = 1 := leaf_4 q1 p2 p3 p4 p5 p6 z1 z2 z3 z4 z7 z170 F176 z182 z184 r185 r186 r187 z195 z198 z221 z245 z247 r249 z290 z293 z296 z299 z301 r302 z306 r307 z311 z312 z313 z315 hM hft hc348_189 hj196 hj199 hB hc439_242 hN hR hj291 hj294 hj297 hc575_297 hz299 hc586_299 hz301 hK3 hr302 hz306 hK4 hr307 hz311 hz312 hz313 hj316
              subst hl4
              exact g_retN X307 hx (t := .boolean) Bd.returns hlk (by simp) rfl (hb hby at_691) (by decide) (by decide) ⟨rfl, N307⟩
            ·
              refine g_icmpNo 589 X249 hx (hb hby at_586)  (flt hc586_299).1 rfl ?_
              refine g_ldc2 592 X249 hx hZ hown (hw _ (List.mem_of_getElem? (i := 0) rfl)) (hb hby at_589) rfl ?_
              refine g_lstore 594 X249 hx (hb hby at_592) rfl (Ls' := #[.val (.long q1), .second, .val (.int p2), .val (.int p3), .val (.int p4), .val (.int p5), .val (.int p6), .val (.long z1), .second, .val (.int z2), .val (.int z3), .val (.int z4), .val (.int z7), .val (.ref b8), .val (.int z170), .val (.int z182), .val (.int z184), .val (.int r185), .val (.int r186), .val (.long r187), .second, .val (.long (9223372036854775807 : Int64)), .second, .val (.int z195), .val (.int z198), .val (.int z221), .val (.int z245), .val (.int z247), .val (.int r249), .val (.long z1), .second, .val (.int z290), .val (.long z293), .second, .val (.long z296), .second]) rfl ?_
              refine g_goto 678 X249 hx (hb hby at_594) (by decide) (by decide) ?_
              refine g_lload 680 X249 hx (hb hby at_678) rfl (v := r187) rfl ?_
              refine g_lload 682 X249 hx (hb hby at_680) rfl (v := (9223372036854775807 : Int64)) rfl ?_
              suffices Jhj319 : ∀ (z318 : Int32), ((r187 = (9223372036854775807 : Int64) ∧ z318 = (1 : Int32)) ∨ (¬ (r187 = (9223372036854775807 : Int64)) ∧ z318 = (0 : Int32))) → Go p e below s 56 1024 (Q0 Z q1 p2 p3 p4 p5 p6 h0 n0) T249 (mkF m 691 #[.val (.long q1), .second, .val (.int p2), .val (.int p3), .val (.int p4), .val (.int p5), .val (.int p6), .val (.long z1), .second, .val (.int z2), .val (.int z3), .val (.int z4), .val (.int z7), .val (.ref b8), .val (.int z170), .val (.int z182), .val (.int z184), .val (.int r185), .val (.int r186), .val (.long r187), .second, .val (.long (9223372036854775807 : Int64)), .second, .val (.int z195), .val (.int z198), .val (.int z221), .val (.int z245), .val (.int z247), .val (.int r249), .val (.long z1), .second, .val (.int z290), .val (.long z293), .second, .val (.long z296), .second] [(.int z318)]) by
                by_cases hc682_316 : r187 = (9223372036854775807 : Int64)
                ·
                  refine g_lcmpNo 686 X249 hx (hb hby at_682) rfl (hb hby at_683) (teqL hc682_316).2 rfl ?_
                  refine g_iconst 687 X249 hx (hb hby at_686) rfl (z := (1 : Int32)) rfl ?_
                  refine g_goto 691 X249 hx (hb hby at_687) (by decide) (by decide) ?_
                  exact Jhj319 (1 : Int32) (Or.inl ⟨hc682_316, rfl⟩)
                ·
                  refine g_lcmpYes 690 X249 hx (hb hby at_682) rfl (hb hby at_683) (feqL hc682_316).2 (by decide) (by decide) ?_
                  refine g_iconst 691 X249 hx (hb hby at_690) rfl (z := (0 : Int32)) rfl ?_
                  exact Jhj319 (0 : Int32) (Or.inr (⟨hc682_316, rfl⟩))
              intro z318 hj319
              have hl5 : z318 = 1 := leaf_5 q1 p2 p3 p4 p5 p6 z1 z2 z3 z4 z7 z170 F176 z182 z184 r185 r186 r187 z195 z198 z221 z245 z247 r249 z290 z293 z296 z299 z318 hM hft hc348_189 hj196 hj199 hB hc439_242 hN hR hj291 hj294 hj297 hc575_297 hz299 hc586_299 hj319
              subst hl5
              exact g_retN X249 hx (t := .boolean) Bd.returns hlk (by simp) rfl (hb hby at_691) (by decide) (by decide) ⟨rfl, N249⟩
          ·
            refine g_lcmpYes 625 X249 hx (hb hby at_575) rfl (hb hby at_576) (fltL hc575_297).2.2.2 (by decide) (by decide) ?_
            refine g_iload 627 X249 hx (hb hby at_625) rfl (v := z290) rfl ?_
            suffices Jhj324 : ∀ (z323 : Int64), ((z290 = (0 : Int32) ∧ (999999999999999999 : Int64) < z1 ∧ z323 = (9223372036854775807 : Int64)) ∨ (z290 = (0 : Int32) ∧ ¬ ((999999999999999999 : Int64) < z1) ∧ z323 = z1) ∨ (¬ (z290 = (0 : Int32)) ∧ (99999999999999999 : Int64) < z1 ∧ z323 = (9223372036854775807 : Int64)) ∨ (¬ (z290 = (0 : Int32)) ∧ ¬ ((99999999999999999 : Int64) < z1) ∧ z323 = ((z1 * (10 : Int64)) + z293))) → Go p e below s 56 1024 (Q0 Z q1 p2 p3 p4 p5 p6 h0 n0) T249 (mkF m 678 #[.val (.long q1), .second, .val (.int p2), .val (.int p3), .val (.int p4), .val (.int p5), .val (.int p6), .val (.long z1), .second, .val (.int z2), .val (.int z3), .val (.int z4), .val (.int z7), .val (.ref b8), .val (.int z170), .val (.int z182), .val (.int z184), .val (.int r185), .val (.int r186), .val (.long r187), .second, .val (.long z323), .second, .val (.int z195), .val (.int z198), .val (.int z221), .val (.int z245), .val (.int z247), .val (.int r249), .val (.long z1), .second, .val (.int z290), .val (.long z293), .second, .val (.long z296), .second] []) by
              by_cases hc627_319 : z290 = (0 : Int32)
              ·
                refine g_ifNo 630 X249 hx (hb hby at_627)  ((if0 _ _).trans (teq hc627_319).2) rfl ?_
                refine g_lload 632 X249 hx (hb hby at_630) rfl (v := z1) rfl ?_
                refine g_ldc2 635 X249 hx hZ hown (hw _ (List.mem_of_getElem? (i := 49) rfl)) (hb hby at_632) rfl ?_
                by_cases hc635_320 : (999999999999999999 : Int64) < z1
                ·
                  refine g_lcmpNo 639 X249 hx (hb hby at_635) rfl (hb hby at_636) (tltL hc635_320).2.2.2 rfl ?_
                  refine g_ldc2 642 X249 hx hZ hown (hw _ (List.mem_of_getElem? (i := 0) rfl)) (hb hby at_639) rfl ?_
                  refine g_goto 647 X249 hx (hb hby at_642) (by decide) (by decide) ?_
                  refine g_lstore 649 X249 hx (hb hby at_647) rfl (Ls' := #[.val (.long q1), .second, .val (.int p2), .val (.int p3), .val (.int p4), .val (.int p5), .val (.int p6), .val (.long z1), .second, .val (.int z2), .val (.int z3), .val (.int z4), .val (.int z7), .val (.ref b8), .val (.int z170), .val (.int z182), .val (.int z184), .val (.int r185), .val (.int r186), .val (.long r187), .second, .val (.long (9223372036854775807 : Int64)), .second, .val (.int z195), .val (.int z198), .val (.int z221), .val (.int z245), .val (.int z247), .val (.int r249), .val (.long z1), .second, .val (.int z290), .val (.long z293), .second, .val (.long z296), .second]) rfl ?_
                  refine g_goto 678 X249 hx (hb hby at_649) (by decide) (by decide) ?_
                  exact Jhj324 (9223372036854775807 : Int64) (Or.inl ⟨hc627_319, hc635_320, rfl⟩)
                ·
                  refine g_lcmpYes 645 X249 hx (hb hby at_635) rfl (hb hby at_636) (fltL hc635_320).2.2.2 (by decide) (by decide) ?_
                  refine g_lload 647 X249 hx (hb hby at_645) rfl (v := z1) rfl ?_
                  refine g_lstore 649 X249 hx (hb hby at_647) rfl (Ls' := #[.val (.long q1), .second, .val (.int p2), .val (.int p3), .val (.int p4), .val (.int p5), .val (.int p6), .val (.long z1), .second, .val (.int z2), .val (.int z3), .val (.int z4), .val (.int z7), .val (.ref b8), .val (.int z170), .val (.int z182), .val (.int z184), .val (.int r185), .val (.int r186), .val (.long r187), .second, .val (.long z1), .second, .val (.int z195), .val (.int z198), .val (.int z221), .val (.int z245), .val (.int z247), .val (.int r249), .val (.long z1), .second, .val (.int z290), .val (.long z293), .second, .val (.long z296), .second]) rfl ?_
                  refine g_goto 678 X249 hx (hb hby at_649) (by decide) (by decide) ?_
                  exact Jhj324 z1 (Or.inr (Or.inl ⟨hc627_319, hc635_320, rfl⟩))
              ·
                refine g_ifYes 652 X249 hx (hb hby at_627)  ((if0 _ _).trans (feq hc627_319).2) (by decide) (by decide) ?_
                refine g_lload 654 X249 hx (hb hby at_652) rfl (v := z1) rfl ?_
                refine g_ldc2 657 X249 hx hZ hown (hw _ (List.mem_of_getElem? (i := 50) rfl)) (hb hby at_654) rfl ?_
                by_cases hc657_321 : (99999999999999999 : Int64) < z1
                ·
                  refine g_lcmpNo 661 X249 hx (hb hby at_657) rfl (hb hby at_658) (tltL hc657_321).2.2.2 rfl ?_
                  refine g_ldc2 664 X249 hx hZ hown (hw _ (List.mem_of_getElem? (i := 0) rfl)) (hb hby at_661) rfl ?_
                  refine g_goto 676 X249 hx (hb hby at_664) (by decide) (by decide) ?_
                  refine g_lstore 678 X249 hx (hb hby at_676) rfl (Ls' := #[.val (.long q1), .second, .val (.int p2), .val (.int p3), .val (.int p4), .val (.int p5), .val (.int p6), .val (.long z1), .second, .val (.int z2), .val (.int z3), .val (.int z4), .val (.int z7), .val (.ref b8), .val (.int z170), .val (.int z182), .val (.int z184), .val (.int r185), .val (.int r186), .val (.long r187), .second, .val (.long (9223372036854775807 : Int64)), .second, .val (.int z195), .val (.int z198), .val (.int z221), .val (.int z245), .val (.int z247), .val (.int r249), .val (.long z1), .second, .val (.int z290), .val (.long z293), .second, .val (.long z296), .second]) rfl ?_
                  exact Jhj324 (9223372036854775807 : Int64) (Or.inr (Or.inr (Or.inl ⟨hc627_319, hc657_321, rfl⟩)))
                ·
                  refine g_lcmpYes 667 X249 hx (hb hby at_657) rfl (hb hby at_658) (fltL hc657_321).2.2.2 (by decide) (by decide) ?_
                  refine g_lload 669 X249 hx (hb hby at_667) rfl (v := z1) rfl ?_
                  refine g_ldc2 672 X249 hx hZ hown (hw _ (List.mem_of_getElem? (i := 11) rfl)) (hb hby at_669) rfl ?_
                  refine g_lmul 673 X249 hx (hb hby at_672) rfl (z := (z1 * (10 : Int64))) rfl ?_
                  refine g_lload 675 X249 hx (hb hby at_673) rfl (v := z293) rfl ?_
                  refine g_ladd 676 X249 hx (hb hby at_675) rfl (z := ((z1 * (10 : Int64)) + z293)) rfl ?_
                  refine g_lstore 678 X249 hx (hb hby at_676) rfl (Ls' := #[.val (.long q1), .second, .val (.int p2), .val (.int p3), .val (.int p4), .val (.int p5), .val (.int p6), .val (.long z1), .second, .val (.int z2), .val (.int z3), .val (.int z4), .val (.int z7), .val (.ref b8), .val (.int z170), .val (.int z182), .val (.int z184), .val (.int r185), .val (.int r186), .val (.long r187), .second, .val (.long ((z1 * (10 : Int64)) + z293)), .second, .val (.int z195), .val (.int z198), .val (.int z221), .val (.int z245), .val (.int z247), .val (.int r249), .val (.long z1), .second, .val (.int z290), .val (.long z293), .second, .val (.long z296), .second]) rfl ?_
                  exact Jhj324 ((z1 * (10 : Int64)) + z293) (Or.inr (Or.inr (Or.inr (⟨hc627_319, hc657_321, rfl⟩))))
            intro z323 hj324
            refine g_lload 680 X249 hx (hb hby at_678) rfl (v := r187) rfl ?_
            refine g_lload 682 X249 hx (hb hby at_680) rfl (v := z323) rfl ?_
            suffices Jhj327 : ∀ (z326 : Int32), ((r187 = z323 ∧ z326 = (1 : Int32)) ∨ (¬ (r187 = z323) ∧ z326 = (0 : Int32))) → Go p e below s 56 1024 (Q0 Z q1 p2 p3 p4 p5 p6 h0 n0) T249 (mkF m 691 #[.val (.long q1), .second, .val (.int p2), .val (.int p3), .val (.int p4), .val (.int p5), .val (.int p6), .val (.long z1), .second, .val (.int z2), .val (.int z3), .val (.int z4), .val (.int z7), .val (.ref b8), .val (.int z170), .val (.int z182), .val (.int z184), .val (.int r185), .val (.int r186), .val (.long r187), .second, .val (.long z323), .second, .val (.int z195), .val (.int z198), .val (.int z221), .val (.int z245), .val (.int z247), .val (.int r249), .val (.long z1), .second, .val (.int z290), .val (.long z293), .second, .val (.long z296), .second] [(.int z326)]) by
              by_cases hc682_324 : r187 = z323
              ·
                refine g_lcmpNo 686 X249 hx (hb hby at_682) rfl (hb hby at_683) (teqL hc682_324).2 rfl ?_
                refine g_iconst 687 X249 hx (hb hby at_686) rfl (z := (1 : Int32)) rfl ?_
                refine g_goto 691 X249 hx (hb hby at_687) (by decide) (by decide) ?_
                exact Jhj327 (1 : Int32) (Or.inl ⟨hc682_324, rfl⟩)
              ·
                refine g_lcmpYes 690 X249 hx (hb hby at_682) rfl (hb hby at_683) (feqL hc682_324).2 (by decide) (by decide) ?_
                refine g_iconst 691 X249 hx (hb hby at_690) rfl (z := (0 : Int32)) rfl ?_
                exact Jhj327 (0 : Int32) (Or.inr (⟨hc682_324, rfl⟩))
            intro z326 hj327
            have hl6 : z326 = 1 := leaf_6 q1 p2 p3 p4 p5 p6 z1 z2 z3 z4 z7 z170 F176 z182 z184 r185 r186 r187 z195 z198 z221 z245 z247 r249 z290 z293 z296 z323 z326 hM hft hc348_189 hj196 hj199 hB hc439_242 hN hR hj291 hj294 hj297 hc575_297 hj324 hj327
            subst hl6
            exact g_retN X249 hx (t := .boolean) Bd.returns hlk (by simp) rfl (hb hby at_691) (by decide) (by decide) ⟨rfl, N249⟩
        ·
          refine g_icmpYes 507 X249 hx (hb hby at_497)  (feq hc497_287).2 (by decide) (by decide) ?_
          refine g_lload 509 X249 hx (hb hby at_507) rfl (v := z1) rfl ?_
          refine g_bipush 511 X249 hx (hb hby at_509) rfl (z := (19 : Int32)) rfl ?_
          refine g_iload 513 X249 hx (hb hby at_511) rfl (v := z247) rfl ?_
          obtain ⟨z328, hz328⟩ : ∃ z : Int32, (19 : Int32) - z247 = z := ⟨_, rfl⟩
          refine g_isub 514 X249 hx (hb hby at_513) rfl (z := z328) hz328 ?_
          have hK1 : 0 ≤ z328.toInt ∧ z328.toInt ≤ 18 := (sub0_13 r185 r186 z247 r249 z328 hft hN hN2 hc484_249 hc497_287 hz328)
          have hq514_hk_329 : 0 ≤ z328.toInt ∧ z328.toInt ≤ 18 := hK1
          refine g_callS 517 X249 hx hZ (y := (⟨"com/example/utility_meter_billing/utilitymeterbilling/io/WholeNumberValuePinLaw", "p", "(I)J"⟩ : MethodName)) hown (hw _ (List.mem_of_getElem? (i := 7) rfl)) (hw _ (List.mem_of_getElem? (i := 8) rfl)) (hw _ (List.mem_of_getElem? (i := 4) rfl)) (hw _ (List.mem_of_getElem? (i := 9) rfl)) (by decide) e249 (rm2 l Z a0 hw [] z328 hj222 n0 Zj222 hq514_hk_329) (by rw [hml]; rfl) [(.int z328)] [(.long z1)] rfl rfl (lenOf pd_0 rfl) 2 (Nat.le_of_eq rfl) (hb hby at_514) (by decide) (by decide) (by decide) (by decide) rfl ?_
          intro v329 T329 L329 X329 hQ329
          obtain ⟨r329, rfl, hr329, N329q, K329⟩ := hQ329
          have N329 := Fr.app N249 N329q
          have f331 := fj222_0.keep K329 nin0
          have Zs332 : n0 ≤ T329.heap.size := (Nat.le_trans Zj222 K329.1)
          show Go p e below s 56 1024 (Q0 Z q1 p2 p3 p4 p5 p6 h0 n0) T329 (mkF m 517 #[.val (.long q1), .second, .val (.int p2), .val (.int p3), .val (.int p4), .val (.int p5), .val (.int p6), .val (.long z1), .second, .val (.int z2), .val (.int z3), .val (.int z4), .val (.int z7), .val (.ref b8), .val (.int z170), .val (.int z182), .val (.int z184), .val (.int r185), .val (.int r186), .val (.long r187), .second, .unset, .unset, .val (.int z195), .val (.int z198), .val (.int z221), .val (.int z245), .val (.int z247), .val (.int r249), .unset, .unset, .unset, .unset, .unset, .unset, .unset] [(.long r329), (.long z1)])
          have hq517_nz_332 : r329 ≠ 0 := own_pne _ _ (by omega) hr329
          obtain ⟨z334, hz334⟩ : ∃ z : Int64, z1 / r329 = z := ⟨_, rfl⟩
          refine g_ldiv 518 X329 hx (hb hby at_517) rfl hq517_nz_332 (z := z334) hz334 ?_
          refine g_iload 520 X329 hx (hb hby at_518) rfl (v := r249) rfl ?_
          have hK2 : 0 ≤ r249.toInt ∧ r249.toInt ≤ 18 := (sub0_14 r185 r186 r249 hft hN hc484_249 hc497_287)
          have hq520_hk_335 : 0 ≤ r249.toInt ∧ r249.toInt ≤ 18 := hK2
          refine g_callS 523 X329 hx hZ (y := (⟨"com/example/utility_meter_billing/utilitymeterbilling/io/WholeNumberValuePinLaw", "p", "(I)J"⟩ : MethodName)) hown (hw _ (List.mem_of_getElem? (i := 7) rfl)) (hw _ (List.mem_of_getElem? (i := 8) rfl)) (hw _ (List.mem_of_getElem? (i := 4) rfl)) (hw _ (List.mem_of_getElem? (i := 9) rfl)) (by decide) rfl (rm2 l Z a0 hw [] r249 T329.heap n0 Zs332 hq520_hk_335) (by rw [hml]; rfl) [(.int r249)] [(.long z334)] rfl rfl (lenOf pd_0 rfl) 2 (Nat.le_of_eq rfl) (hb hby at_520) (by decide) (by decide) (by decide) (by decide) rfl ?_
          intro v335 T335 L335 X335 hQ335
          obtain ⟨r335, rfl, hr335, N335q, K335⟩ := hQ335
          have N335 := Fr.app N329 N335q
          have f337 := f331.keep K335 nin0
          have Zs338 : n0 ≤ T335.heap.size := (Nat.le_trans Zs332 K335.1)
          show Go p e below s 56 1024 (Q0 Z q1 p2 p3 p4 p5 p6 h0 n0) T335 (mkF m 523 #[.val (.long q1), .second, .val (.int p2), .val (.int p3), .val (.int p4), .val (.int p5), .val (.int p6), .val (.long z1), .second, .val (.int z2), .val (.int z3), .val (.int z4), .val (.int z7), .val (.ref b8), .val (.int z170), .val (.int z182), .val (.int z184), .val (.int r185), .val (.int r186), .val (.long r187), .second, .unset, .unset, .val (.int z195), .val (.int z198), .val (.int z221), .val (.int z245), .val (.int z247), .val (.int r249), .unset, .unset, .unset, .unset, .unset, .unset, .unset] [(.long r335), (.long z334)])
          have hq523_nz_338 : r335 ≠ 0 := own_pne _ _ (by omega) hr335
          obtain ⟨z340, hz340⟩ : ∃ z : Int64, z334 % r335 = z := ⟨_, rfl⟩
          refine g_lrem 524 X335 hx (hb hby at_523) rfl hq523_nz_338 (z := z340) hz340 ?_
          refine g_lstore 526 X335 hx (hb hby at_524) rfl (Ls' := #[.val (.long q1), .second, .val (.int p2), .val (.int p3), .val (.int p4), .val (.int p5), .val (.int p6), .val (.long z1), .second, .val (.int z2), .val (.int z3), .val (.int z4), .val (.int z7), .val (.ref b8), .val (.int z170), .val (.int z182), .val (.int z184), .val (.int r185), .val (.int r186), .val (.long r187), .second, .unset, .unset, .val (.int z195), .val (.int z198), .val (.int z221), .val (.int z245), .val (.int z247), .val (.int r249), .val (.long z340), .second, .unset, .unset, .unset, .unset, .unset]) rfl ?_
          refine g_iload 528 X335 hx (hb hby at_526) rfl (v := z198) rfl ?_
          have hR : z340.toInt = ((own_R z1.toInt.toNat r185.toInt.toNat r186.toInt.toNat : Nat) : Int) := (sub0_15 z1 r185 r186 z247 r249 z328 r329 z334 r335 z340 hM hft hN hN2 hc484_249 hc497_287 hz328 hK1 hr329 hz334 hK2 hr335 hz340)
          suffices Jhj343 : ∀ (z342 : Int32), ((z198 = (0 : Int32) ∧ z342 = (0 : Int32)) ∨ (¬ (z198 = (0 : Int32)) ∧ z342 = (1 : Int32))) → Go p e below s 56 1024 (Q0 Z q1 p2 p3 p4 p5 p6 h0 n0) T335 (mkF m 536 #[.val (.long q1), .second, .val (.int p2), .val (.int p3), .val (.int p4), .val (.int p5), .val (.int p6), .val (.long z1), .second, .val (.int z2), .val (.int z3), .val (.int z4), .val (.int z7), .val (.ref b8), .val (.int z170), .val (.int z182), .val (.int z184), .val (.int r185), .val (.int r186), .val (.long r187), .second, .unset, .unset, .val (.int z195), .val (.int z198), .val (.int z221), .val (.int z245), .val (.int z247), .val (.int r249), .val (.long z340), .second, .unset, .unset, .unset, .unset, .unset] [(.int z342)]) by
            by_cases hc528_340 : z198 = (0 : Int32)
            ·
              refine g_ifYes 535 X335 hx (hb hby at_528)  ((if0 _ _).trans (teq hc528_340).1) (by decide) (by decide) ?_
              refine g_iconst 536 X335 hx (hb hby at_535) rfl (z := (0 : Int32)) rfl ?_
              exact Jhj343 (0 : Int32) (Or.inl ⟨hc528_340, rfl⟩)
            ·
              refine g_ifNo 531 X335 hx (hb hby at_528)  ((if0 _ _).trans (feq hc528_340).1) rfl ?_
              refine g_iconst 532 X335 hx (hb hby at_531) rfl (z := (1 : Int32)) rfl ?_
              refine g_goto 536 X335 hx (hb hby at_532) (by decide) (by decide) ?_
              exact Jhj343 (1 : Int32) (Or.inr (⟨hc528_340, rfl⟩))
          intro z342 hj343
          refine g_istore 538 X335 hx (hb hby at_536) rfl (Ls' := #[.val (.long q1), .second, .val (.int p2), .val (.int p3), .val (.int p4), .val (.int p5), .val (.int p6), .val (.long z1), .second, .val (.int z2), .val (.int z3), .val (.int z4), .val (.int z7), .val (.ref b8), .val (.int z170), .val (.int z182), .val (.int z184), .val (.int r185), .val (.int r186), .val (.long r187), .second, .unset, .unset, .val (.int z195), .val (.int z198), .val (.int z221), .val (.int z245), .val (.int z247), .val (.int r249), .val (.long z340), .second, .val (.int z342), .unset, .unset, .unset, .unset]) rfl ?_
          refine g_iload 540 X335 hx (hb hby at_538) rfl (v := z198) rfl ?_
          suffices Jhj346 : ∀ (z345 : Int64), ((z198 = (0 : Int32) ∧ z345 = (0 : Int64)) ∨ (¬ (z198 = (0 : Int32)) ∧ z345 = ((z3 - (48 : Int32)).toInt64))) → Go p e below s 56 1024 (Q0 Z q1 p2 p3 p4 p5 p6 h0 n0) T335 (mkF m 553 #[.val (.long q1), .second, .val (.int p2), .val (.int p3), .val (.int p4), .val (.int p5), .val (.int p6), .val (.long z1), .second, .val (.int z2), .val (.int z3), .val (.int z4), .val (.int z7), .val (.ref b8), .val (.int z170), .val (.int z182), .val (.int z184), .val (.int r185), .val (.int r186), .val (.long r187), .second, .unset, .unset, .val (.int z195), .val (.int z198), .val (.int z221), .val (.int z245), .val (.int z247), .val (.int r249), .val (.long z340), .second, .val (.int z342), .unset, .unset, .unset, .unset] [(.long z345)]) by
            by_cases hc540_343 : z198 = (0 : Int32)
            ·
              refine g_ifYes 552 X335 hx (hb hby at_540)  ((if0 _ _).trans (teq hc540_343).1) (by decide) (by decide) ?_
              refine g_lconst 553 X335 hx (hb hby at_552) rfl (z := (0 : Int64)) rfl ?_
              exact Jhj346 (0 : Int64) (Or.inl ⟨hc540_343, rfl⟩)
            ·
              refine g_ifNo 543 X335 hx (hb hby at_540)  ((if0 _ _).trans (feq hc540_343).1) rfl ?_
              refine g_iload 545 X335 hx (hb hby at_543) rfl (v := z3) rfl ?_
              refine g_bipush 547 X335 hx (hb hby at_545) rfl (z := (48 : Int32)) rfl ?_
              refine g_isub 548 X335 hx (hb hby at_547) rfl (z := (z3 - (48 : Int32))) rfl ?_
              refine g_i2l 549 X335 hx (hb hby at_548) rfl (z := ((z3 - (48 : Int32)).toInt64)) rfl ?_
              refine g_goto 553 X335 hx (hb hby at_549) (by decide) (by decide) ?_
              exact Jhj346 ((z3 - (48 : Int32)).toInt64) (Or.inr (⟨hc540_343, rfl⟩))
          intro z345 hj346
          refine g_lstore 555 X335 hx (hb hby at_553) rfl (Ls' := #[.val (.long q1), .second, .val (.int p2), .val (.int p3), .val (.int p4), .val (.int p5), .val (.int p6), .val (.long z1), .second, .val (.int z2), .val (.int z3), .val (.int z4), .val (.int z7), .val (.ref b8), .val (.int z170), .val (.int z182), .val (.int z184), .val (.int r185), .val (.int r186), .val (.long r187), .second, .unset, .unset, .val (.int z195), .val (.int z198), .val (.int z221), .val (.int z245), .val (.int z247), .val (.int r249), .val (.long z340), .second, .val (.int z342), .val (.long z345), .second, .unset, .unset]) rfl ?_
          refine g_iload 557 X335 hx (hb hby at_555) rfl (v := z195) rfl ?_
          suffices Jhj349 : ∀ (z348 : Int64), ((z195 = (0 : Int32) ∧ z348 = (0 : Int64)) ∨ (¬ (z195 = (0 : Int32)) ∧ z348 = ((z2 - (48 : Int32)).toInt64))) → Go p e below s 56 1024 (Q0 Z q1 p2 p3 p4 p5 p6 h0 n0) T335 (mkF m 570 #[.val (.long q1), .second, .val (.int p2), .val (.int p3), .val (.int p4), .val (.int p5), .val (.int p6), .val (.long z1), .second, .val (.int z2), .val (.int z3), .val (.int z4), .val (.int z7), .val (.ref b8), .val (.int z170), .val (.int z182), .val (.int z184), .val (.int r185), .val (.int r186), .val (.long r187), .second, .unset, .unset, .val (.int z195), .val (.int z198), .val (.int z221), .val (.int z245), .val (.int z247), .val (.int r249), .val (.long z340), .second, .val (.int z342), .val (.long z345), .second, .unset, .unset] [(.long z348)]) by
            by_cases hc557_346 : z195 = (0 : Int32)
            ·
              refine g_ifYes 569 X335 hx (hb hby at_557)  ((if0 _ _).trans (teq hc557_346).1) (by decide) (by decide) ?_
              refine g_lconst 570 X335 hx (hb hby at_569) rfl (z := (0 : Int64)) rfl ?_
              exact Jhj349 (0 : Int64) (Or.inl ⟨hc557_346, rfl⟩)
            ·
              refine g_ifNo 560 X335 hx (hb hby at_557)  ((if0 _ _).trans (feq hc557_346).1) rfl ?_
              refine g_iload 562 X335 hx (hb hby at_560) rfl (v := z2) rfl ?_
              refine g_bipush 564 X335 hx (hb hby at_562) rfl (z := (48 : Int32)) rfl ?_
              refine g_isub 565 X335 hx (hb hby at_564) rfl (z := (z2 - (48 : Int32))) rfl ?_
              refine g_i2l 566 X335 hx (hb hby at_565) rfl (z := ((z2 - (48 : Int32)).toInt64)) rfl ?_
              refine g_goto 570 X335 hx (hb hby at_566) (by decide) (by decide) ?_
              exact Jhj349 ((z2 - (48 : Int32)).toInt64) (Or.inr (⟨hc557_346, rfl⟩))
          intro z348 hj349
          refine g_lstore 572 X335 hx (hb hby at_570) rfl (Ls' := #[.val (.long q1), .second, .val (.int p2), .val (.int p3), .val (.int p4), .val (.int p5), .val (.int p6), .val (.long z1), .second, .val (.int z2), .val (.int z3), .val (.int z4), .val (.int z7), .val (.ref b8), .val (.int z170), .val (.int z182), .val (.int z184), .val (.int r185), .val (.int r186), .val (.long r187), .second, .unset, .unset, .val (.int z195), .val (.int z198), .val (.int z221), .val (.int z245), .val (.int z247), .val (.int r249), .val (.long z340), .second, .val (.int z342), .val (.long z345), .second, .val (.long z348), .second]) rfl ?_
          refine g_lload 574 X335 hx (hb hby at_572) rfl (v := z348) rfl ?_
          refine g_lconst 575 X335 hx (hb hby at_574) rfl (z := (0 : Int64)) rfl ?_
          by_cases hc575_349 : (0 : Int64) < z348
          ·
            refine g_lcmpNo 579 X335 hx (hb hby at_575) rfl (hb hby at_576) (tltL hc575_349).2.2.2 rfl ?_
            refine g_iload 581 X335 hx (hb hby at_579) rfl (v := r249) rfl ?_
            refine g_iload 583 X335 hx (hb hby at_581) rfl (v := z342) rfl ?_
            obtain ⟨z351, hz351⟩ : ∃ z : Int32, r249 + z342 = z := ⟨_, rfl⟩
            refine g_iadd 584 X335 hx (hb hby at_583) rfl (z := z351) hz351 ?_
            refine g_bipush 586 X335 hx (hb hby at_584) rfl (z := (18 : Int32)) rfl ?_
            by_cases hc586_351 : z351 < (18 : Int32)
            ·
              refine g_icmpYes 597 X335 hx (hb hby at_586)  (tlt hc586_351).1 (by decide) (by decide) ?_
              refine g_lload 599 X335 hx (hb hby at_597) rfl (v := z348) rfl ?_
              refine g_iload 601 X335 hx (hb hby at_599) rfl (v := r249) rfl ?_
              refine g_iload 603 X335 hx (hb hby at_601) rfl (v := z342) rfl ?_
              obtain ⟨z353, hz353⟩ : ∃ z : Int32, r249 + z342 = z := ⟨_, rfl⟩
              refine g_iadd 604 X335 hx (hb hby at_603) rfl (z := z353) hz353 ?_
              have hK3 : 0 ≤ z353.toInt ∧ z353.toInt ≤ 17 ∧ z353.toInt = r249.toInt + z342.toInt := (sub0_16 r185 r186 z198 r249 z342 z351 z353 hft hN hj343 hz351 hc586_351 hz353)
              have hq604_hk_354 : 0 ≤ z353.toInt ∧ z353.toInt ≤ 18 := ⟨hK3.1, by omega⟩
              refine g_callS 607 X335 hx hZ (y := (⟨"com/example/utility_meter_billing/utilitymeterbilling/io/WholeNumberValuePinLaw", "p", "(I)J"⟩ : MethodName)) hown (hw _ (List.mem_of_getElem? (i := 7) rfl)) (hw _ (List.mem_of_getElem? (i := 8) rfl)) (hw _ (List.mem_of_getElem? (i := 4) rfl)) (hw _ (List.mem_of_getElem? (i := 9) rfl)) (by decide) rfl (rm2 l Z a0 hw [] z353 T335.heap n0 Zs338 hq604_hk_354) (by rw [hml]; rfl) [(.int z353)] [(.long z348)] rfl rfl (lenOf pd_0 rfl) 2 (Nat.le_of_eq rfl) (hb hby at_604) (by decide) (by decide) (by decide) (by decide) rfl ?_
              intro v354 T354 L354 X354 hQ354
              obtain ⟨r354, rfl, hr354, N354q, K354⟩ := hQ354
              have N354 := Fr.app N335 N354q
              have f356 := f337.keep K354 nin0
              have Zs357 : n0 ≤ T354.heap.size := (Nat.le_trans Zs338 K354.1)
              show Go p e below s 56 1024 (Q0 Z q1 p2 p3 p4 p5 p6 h0 n0) T354 (mkF m 607 #[.val (.long q1), .second, .val (.int p2), .val (.int p3), .val (.int p4), .val (.int p5), .val (.int p6), .val (.long z1), .second, .val (.int z2), .val (.int z3), .val (.int z4), .val (.int z7), .val (.ref b8), .val (.int z170), .val (.int z182), .val (.int z184), .val (.int r185), .val (.int r186), .val (.long r187), .second, .unset, .unset, .val (.int z195), .val (.int z198), .val (.int z221), .val (.int z245), .val (.int z247), .val (.int r249), .val (.long z340), .second, .val (.int z342), .val (.long z345), .second, .val (.long z348), .second] [(.long r354), (.long z348)])
              obtain ⟨z358, hz358⟩ : ∃ z : Int64, z348 * r354 = z := ⟨_, rfl⟩
              refine g_lmul 608 X354 hx (hb hby at_607) rfl (z := z358) hz358 ?_
              refine g_lload 610 X354 hx (hb hby at_608) rfl (v := z340) rfl ?_
              refine g_iload 612 X354 hx (hb hby at_610) rfl (v := z342) rfl ?_
              have hK4 : 0 ≤ z342.toInt ∧ z342.toInt ≤ 18 := (sub0_17 z198 z342 hj343)
              have hq612_hk_359 : 0 ≤ z342.toInt ∧ z342.toInt ≤ 18 := hK4
              refine g_callS 615 X354 hx hZ (y := (⟨"com/example/utility_meter_billing/utilitymeterbilling/io/WholeNumberValuePinLaw", "p", "(I)J"⟩ : MethodName)) hown (hw _ (List.mem_of_getElem? (i := 7) rfl)) (hw _ (List.mem_of_getElem? (i := 8) rfl)) (hw _ (List.mem_of_getElem? (i := 4) rfl)) (hw _ (List.mem_of_getElem? (i := 9) rfl)) (by decide) rfl (rm2 l Z a0 hw [] z342 T354.heap n0 Zs357 hq612_hk_359) (by rw [hml]; rfl) [(.int z342)] [(.long z340), (.long z358)] rfl rfl (lenOf pd_0 rfl) 4 (Nat.le_of_eq rfl) (hb hby at_612) (by decide) (by decide) (by decide) (by decide) rfl ?_
              intro v359 T359 L359 X359 hQ359
              obtain ⟨r359, rfl, hr359, N359q, K359⟩ := hQ359
              have N359 := Fr.app N354 N359q
              have f361 := f356.keep K359 nin0
              have Zs362 : n0 ≤ T359.heap.size := (Nat.le_trans Zs357 K359.1)
              show Go p e below s 56 1024 (Q0 Z q1 p2 p3 p4 p5 p6 h0 n0) T359 (mkF m 615 #[.val (.long q1), .second, .val (.int p2), .val (.int p3), .val (.int p4), .val (.int p5), .val (.int p6), .val (.long z1), .second, .val (.int z2), .val (.int z3), .val (.int z4), .val (.int z7), .val (.ref b8), .val (.int z170), .val (.int z182), .val (.int z184), .val (.int r185), .val (.int r186), .val (.long r187), .second, .unset, .unset, .val (.int z195), .val (.int z198), .val (.int z221), .val (.int z245), .val (.int z247), .val (.int r249), .val (.long z340), .second, .val (.int z342), .val (.long z345), .second, .val (.long z348), .second] [(.long r359), (.long z340), (.long z358)])
              obtain ⟨z363, hz363⟩ : ∃ z : Int64, z340 * r359 = z := ⟨_, rfl⟩
              refine g_lmul 616 X359 hx (hb hby at_615) rfl (z := z363) hz363 ?_
              obtain ⟨z364, hz364⟩ : ∃ z : Int64, z358 + z363 = z := ⟨_, rfl⟩
              refine g_ladd 617 X359 hx (hb hby at_616) rfl (z := z364) hz364 ?_
              refine g_lload 619 X359 hx (hb hby at_617) rfl (v := z345) rfl ?_
              obtain ⟨z365, hz365⟩ : ∃ z : Int64, z364 + z345 = z := ⟨_, rfl⟩
              refine g_ladd 620 X359 hx (hb hby at_619) rfl (z := z365) hz365 ?_
              refine g_lstore 622 X359 hx (hb hby at_620) rfl (Ls' := #[.val (.long q1), .second, .val (.int p2), .val (.int p3), .val (.int p4), .val (.int p5), .val (.int p6), .val (.long z1), .second, .val (.int z2), .val (.int z3), .val (.int z4), .val (.int z7), .val (.ref b8), .val (.int z170), .val (.int z182), .val (.int z184), .val (.int r185), .val (.int r186), .val (.long r187), .second, .val (.long z365), .second, .val (.int z195), .val (.int z198), .val (.int z221), .val (.int z245), .val (.int z247), .val (.int r249), .val (.long z340), .second, .val (.int z342), .val (.long z345), .second, .val (.long z348), .second]) rfl ?_
              refine g_goto 678 X359 hx (hb hby at_622) (by decide) (by decide) ?_
              refine g_lload 680 X359 hx (hb hby at_678) rfl (v := r187) rfl ?_
              refine g_lload 682 X359 hx (hb hby at_680) rfl (v := z365) rfl ?_
              suffices Jhj368 : ∀ (z367 : Int32), ((r187 = z365 ∧ z367 = (1 : Int32)) ∨ (¬ (r187 = z365) ∧ z367 = (0 : Int32))) → Go p e below s 56 1024 (Q0 Z q1 p2 p3 p4 p5 p6 h0 n0) T359 (mkF m 691 #[.val (.long q1), .second, .val (.int p2), .val (.int p3), .val (.int p4), .val (.int p5), .val (.int p6), .val (.long z1), .second, .val (.int z2), .val (.int z3), .val (.int z4), .val (.int z7), .val (.ref b8), .val (.int z170), .val (.int z182), .val (.int z184), .val (.int r185), .val (.int r186), .val (.long r187), .second, .val (.long z365), .second, .val (.int z195), .val (.int z198), .val (.int z221), .val (.int z245), .val (.int z247), .val (.int r249), .val (.long z340), .second, .val (.int z342), .val (.long z345), .second, .val (.long z348), .second] [(.int z367)]) by
                by_cases hc682_365 : r187 = z365
                ·
                  refine g_lcmpNo 686 X359 hx (hb hby at_682) rfl (hb hby at_683) (teqL hc682_365).2 rfl ?_
                  refine g_iconst 687 X359 hx (hb hby at_686) rfl (z := (1 : Int32)) rfl ?_
                  refine g_goto 691 X359 hx (hb hby at_687) (by decide) (by decide) ?_
                  exact Jhj368 (1 : Int32) (Or.inl ⟨hc682_365, rfl⟩)
                ·
                  refine g_lcmpYes 690 X359 hx (hb hby at_682) rfl (hb hby at_683) (feqL hc682_365).2 (by decide) (by decide) ?_
                  refine g_iconst 691 X359 hx (hb hby at_690) rfl (z := (0 : Int32)) rfl ?_
                  exact Jhj368 (0 : Int32) (Or.inr (⟨hc682_365, rfl⟩))
              intro z367 hj368
              have hl7 : z367 = 1 := leaf_7 q1 p2 p3 p4 p5 p6 z1 z2 z3 z4 z7 z170 F176 z182 z184 r185 r186 r187 z195 z198 z221 z245 z247 r249 z340 z342 z345 z348 z351 z353 r354 z358 r359 z363 z364 z365 z367 hM hft hc348_189 hj196 hj199 hB hc439_242 hN hR hj343 hj346 hj349 hc575_349 hz351 hc586_351 hz353 hK3 hr354 hz358 hK4 hr359 hz363 hz364 hz365 hj368
              subst hl7
              exact g_retN X359 hx (t := .boolean) Bd.returns hlk (by simp) rfl (hb hby at_691) (by decide) (by decide) ⟨rfl, N359⟩
            ·
              refine g_icmpNo 589 X335 hx (hb hby at_586)  (flt hc586_351).1 rfl ?_
              refine g_ldc2 592 X335 hx hZ hown (hw _ (List.mem_of_getElem? (i := 0) rfl)) (hb hby at_589) rfl ?_
              refine g_lstore 594 X335 hx (hb hby at_592) rfl (Ls' := #[.val (.long q1), .second, .val (.int p2), .val (.int p3), .val (.int p4), .val (.int p5), .val (.int p6), .val (.long z1), .second, .val (.int z2), .val (.int z3), .val (.int z4), .val (.int z7), .val (.ref b8), .val (.int z170), .val (.int z182), .val (.int z184), .val (.int r185), .val (.int r186), .val (.long r187), .second, .val (.long (9223372036854775807 : Int64)), .second, .val (.int z195), .val (.int z198), .val (.int z221), .val (.int z245), .val (.int z247), .val (.int r249), .val (.long z340), .second, .val (.int z342), .val (.long z345), .second, .val (.long z348), .second]) rfl ?_
              refine g_goto 678 X335 hx (hb hby at_594) (by decide) (by decide) ?_
              refine g_lload 680 X335 hx (hb hby at_678) rfl (v := r187) rfl ?_
              refine g_lload 682 X335 hx (hb hby at_680) rfl (v := (9223372036854775807 : Int64)) rfl ?_
              suffices Jhj371 : ∀ (z370 : Int32), ((r187 = (9223372036854775807 : Int64) ∧ z370 = (1 : Int32)) ∨ (¬ (r187 = (9223372036854775807 : Int64)) ∧ z370 = (0 : Int32))) → Go p e below s 56 1024 (Q0 Z q1 p2 p3 p4 p5 p6 h0 n0) T335 (mkF m 691 #[.val (.long q1), .second, .val (.int p2), .val (.int p3), .val (.int p4), .val (.int p5), .val (.int p6), .val (.long z1), .second, .val (.int z2), .val (.int z3), .val (.int z4), .val (.int z7), .val (.ref b8), .val (.int z170), .val (.int z182), .val (.int z184), .val (.int r185), .val (.int r186), .val (.long r187), .second, .val (.long (9223372036854775807 : Int64)), .second, .val (.int z195), .val (.int z198), .val (.int z221), .val (.int z245), .val (.int z247), .val (.int r249), .val (.long z340), .second, .val (.int z342), .val (.long z345), .second, .val (.long z348), .second] [(.int z370)]) by
                by_cases hc682_368 : r187 = (9223372036854775807 : Int64)
                ·
                  refine g_lcmpNo 686 X335 hx (hb hby at_682) rfl (hb hby at_683) (teqL hc682_368).2 rfl ?_
                  refine g_iconst 687 X335 hx (hb hby at_686) rfl (z := (1 : Int32)) rfl ?_
                  refine g_goto 691 X335 hx (hb hby at_687) (by decide) (by decide) ?_
                  exact Jhj371 (1 : Int32) (Or.inl ⟨hc682_368, rfl⟩)
                ·
                  refine g_lcmpYes 690 X335 hx (hb hby at_682) rfl (hb hby at_683) (feqL hc682_368).2 (by decide) (by decide) ?_
                  refine g_iconst 691 X335 hx (hb hby at_690) rfl (z := (0 : Int32)) rfl ?_
                  exact Jhj371 (0 : Int32) (Or.inr (⟨hc682_368, rfl⟩))
              intro z370 hj371
              have hl8 : z370 = 1 := leaf_8 q1 p2 p3 p4 p5 p6 z1 z2 z3 z4 z7 z170 F176 z182 z184 r185 r186 r187 z195 z198 z221 z245 z247 r249 z340 z342 z345 z348 z351 z370 hM hft hc348_189 hj196 hj199 hB hc439_242 hN hR hj343 hj346 hj349 hc575_349 hz351 hc586_351 hj371
              subst hl8
              exact g_retN X335 hx (t := .boolean) Bd.returns hlk (by simp) rfl (hb hby at_691) (by decide) (by decide) ⟨rfl, N335⟩
          ·
            refine g_lcmpYes 625 X335 hx (hb hby at_575) rfl (hb hby at_576) (fltL hc575_349).2.2.2 (by decide) (by decide) ?_
            refine g_iload 627 X335 hx (hb hby at_625) rfl (v := z342) rfl ?_
            suffices Jhj376 : ∀ (z375 : Int64), ((z342 = (0 : Int32) ∧ (999999999999999999 : Int64) < z340 ∧ z375 = (9223372036854775807 : Int64)) ∨ (z342 = (0 : Int32) ∧ ¬ ((999999999999999999 : Int64) < z340) ∧ z375 = z340) ∨ (¬ (z342 = (0 : Int32)) ∧ (99999999999999999 : Int64) < z340 ∧ z375 = (9223372036854775807 : Int64)) ∨ (¬ (z342 = (0 : Int32)) ∧ ¬ ((99999999999999999 : Int64) < z340) ∧ z375 = ((z340 * (10 : Int64)) + z345))) → Go p e below s 56 1024 (Q0 Z q1 p2 p3 p4 p5 p6 h0 n0) T335 (mkF m 678 #[.val (.long q1), .second, .val (.int p2), .val (.int p3), .val (.int p4), .val (.int p5), .val (.int p6), .val (.long z1), .second, .val (.int z2), .val (.int z3), .val (.int z4), .val (.int z7), .val (.ref b8), .val (.int z170), .val (.int z182), .val (.int z184), .val (.int r185), .val (.int r186), .val (.long r187), .second, .val (.long z375), .second, .val (.int z195), .val (.int z198), .val (.int z221), .val (.int z245), .val (.int z247), .val (.int r249), .val (.long z340), .second, .val (.int z342), .val (.long z345), .second, .val (.long z348), .second] []) by
              by_cases hc627_371 : z342 = (0 : Int32)
              ·
                refine g_ifNo 630 X335 hx (hb hby at_627)  ((if0 _ _).trans (teq hc627_371).2) rfl ?_
                refine g_lload 632 X335 hx (hb hby at_630) rfl (v := z340) rfl ?_
                refine g_ldc2 635 X335 hx hZ hown (hw _ (List.mem_of_getElem? (i := 49) rfl)) (hb hby at_632) rfl ?_
                by_cases hc635_372 : (999999999999999999 : Int64) < z340
                ·
                  refine g_lcmpNo 639 X335 hx (hb hby at_635) rfl (hb hby at_636) (tltL hc635_372).2.2.2 rfl ?_
                  refine g_ldc2 642 X335 hx hZ hown (hw _ (List.mem_of_getElem? (i := 0) rfl)) (hb hby at_639) rfl ?_
                  refine g_goto 647 X335 hx (hb hby at_642) (by decide) (by decide) ?_
                  refine g_lstore 649 X335 hx (hb hby at_647) rfl (Ls' := #[.val (.long q1), .second, .val (.int p2), .val (.int p3), .val (.int p4), .val (.int p5), .val (.int p6), .val (.long z1), .second, .val (.int z2), .val (.int z3), .val (.int z4), .val (.int z7), .val (.ref b8), .val (.int z170), .val (.int z182), .val (.int z184), .val (.int r185), .val (.int r186), .val (.long r187), .second, .val (.long (9223372036854775807 : Int64)), .second, .val (.int z195), .val (.int z198), .val (.int z221), .val (.int z245), .val (.int z247), .val (.int r249), .val (.long z340), .second, .val (.int z342), .val (.long z345), .second, .val (.long z348), .second]) rfl ?_
                  refine g_goto 678 X335 hx (hb hby at_649) (by decide) (by decide) ?_
                  exact Jhj376 (9223372036854775807 : Int64) (Or.inl ⟨hc627_371, hc635_372, rfl⟩)
                ·
                  refine g_lcmpYes 645 X335 hx (hb hby at_635) rfl (hb hby at_636) (fltL hc635_372).2.2.2 (by decide) (by decide) ?_
                  refine g_lload 647 X335 hx (hb hby at_645) rfl (v := z340) rfl ?_
                  refine g_lstore 649 X335 hx (hb hby at_647) rfl (Ls' := #[.val (.long q1), .second, .val (.int p2), .val (.int p3), .val (.int p4), .val (.int p5), .val (.int p6), .val (.long z1), .second, .val (.int z2), .val (.int z3), .val (.int z4), .val (.int z7), .val (.ref b8), .val (.int z170), .val (.int z182), .val (.int z184), .val (.int r185), .val (.int r186), .val (.long r187), .second, .val (.long z340), .second, .val (.int z195), .val (.int z198), .val (.int z221), .val (.int z245), .val (.int z247), .val (.int r249), .val (.long z340), .second, .val (.int z342), .val (.long z345), .second, .val (.long z348), .second]) rfl ?_
                  refine g_goto 678 X335 hx (hb hby at_649) (by decide) (by decide) ?_
                  exact Jhj376 z340 (Or.inr (Or.inl ⟨hc627_371, hc635_372, rfl⟩))
              ·
                refine g_ifYes 652 X335 hx (hb hby at_627)  ((if0 _ _).trans (feq hc627_371).2) (by decide) (by decide) ?_
                refine g_lload 654 X335 hx (hb hby at_652) rfl (v := z340) rfl ?_
                refine g_ldc2 657 X335 hx hZ hown (hw _ (List.mem_of_getElem? (i := 50) rfl)) (hb hby at_654) rfl ?_
                by_cases hc657_373 : (99999999999999999 : Int64) < z340
                ·
                  refine g_lcmpNo 661 X335 hx (hb hby at_657) rfl (hb hby at_658) (tltL hc657_373).2.2.2 rfl ?_
                  refine g_ldc2 664 X335 hx hZ hown (hw _ (List.mem_of_getElem? (i := 0) rfl)) (hb hby at_661) rfl ?_
                  refine g_goto 676 X335 hx (hb hby at_664) (by decide) (by decide) ?_
                  refine g_lstore 678 X335 hx (hb hby at_676) rfl (Ls' := #[.val (.long q1), .second, .val (.int p2), .val (.int p3), .val (.int p4), .val (.int p5), .val (.int p6), .val (.long z1), .second, .val (.int z2), .val (.int z3), .val (.int z4), .val (.int z7), .val (.ref b8), .val (.int z170), .val (.int z182), .val (.int z184), .val (.int r185), .val (.int r186), .val (.long r187), .second, .val (.long (9223372036854775807 : Int64)), .second, .val (.int z195), .val (.int z198), .val (.int z221), .val (.int z245), .val (.int z247), .val (.int r249), .val (.long z340), .second, .val (.int z342), .val (.long z345), .second, .val (.long z348), .second]) rfl ?_
                  exact Jhj376 (9223372036854775807 : Int64) (Or.inr (Or.inr (Or.inl ⟨hc627_371, hc657_373, rfl⟩)))
                ·
                  refine g_lcmpYes 667 X335 hx (hb hby at_657) rfl (hb hby at_658) (fltL hc657_373).2.2.2 (by decide) (by decide) ?_
                  refine g_lload 669 X335 hx (hb hby at_667) rfl (v := z340) rfl ?_
                  refine g_ldc2 672 X335 hx hZ hown (hw _ (List.mem_of_getElem? (i := 11) rfl)) (hb hby at_669) rfl ?_
                  refine g_lmul 673 X335 hx (hb hby at_672) rfl (z := (z340 * (10 : Int64))) rfl ?_
                  refine g_lload 675 X335 hx (hb hby at_673) rfl (v := z345) rfl ?_
                  refine g_ladd 676 X335 hx (hb hby at_675) rfl (z := ((z340 * (10 : Int64)) + z345)) rfl ?_
                  refine g_lstore 678 X335 hx (hb hby at_676) rfl (Ls' := #[.val (.long q1), .second, .val (.int p2), .val (.int p3), .val (.int p4), .val (.int p5), .val (.int p6), .val (.long z1), .second, .val (.int z2), .val (.int z3), .val (.int z4), .val (.int z7), .val (.ref b8), .val (.int z170), .val (.int z182), .val (.int z184), .val (.int r185), .val (.int r186), .val (.long r187), .second, .val (.long ((z340 * (10 : Int64)) + z345)), .second, .val (.int z195), .val (.int z198), .val (.int z221), .val (.int z245), .val (.int z247), .val (.int r249), .val (.long z340), .second, .val (.int z342), .val (.long z345), .second, .val (.long z348), .second]) rfl ?_
                  exact Jhj376 ((z340 * (10 : Int64)) + z345) (Or.inr (Or.inr (Or.inr (⟨hc627_371, hc657_373, rfl⟩))))
            intro z375 hj376
            refine g_lload 680 X335 hx (hb hby at_678) rfl (v := r187) rfl ?_
            refine g_lload 682 X335 hx (hb hby at_680) rfl (v := z375) rfl ?_
            suffices Jhj379 : ∀ (z378 : Int32), ((r187 = z375 ∧ z378 = (1 : Int32)) ∨ (¬ (r187 = z375) ∧ z378 = (0 : Int32))) → Go p e below s 56 1024 (Q0 Z q1 p2 p3 p4 p5 p6 h0 n0) T335 (mkF m 691 #[.val (.long q1), .second, .val (.int p2), .val (.int p3), .val (.int p4), .val (.int p5), .val (.int p6), .val (.long z1), .second, .val (.int z2), .val (.int z3), .val (.int z4), .val (.int z7), .val (.ref b8), .val (.int z170), .val (.int z182), .val (.int z184), .val (.int r185), .val (.int r186), .val (.long r187), .second, .val (.long z375), .second, .val (.int z195), .val (.int z198), .val (.int z221), .val (.int z245), .val (.int z247), .val (.int r249), .val (.long z340), .second, .val (.int z342), .val (.long z345), .second, .val (.long z348), .second] [(.int z378)]) by
              by_cases hc682_376 : r187 = z375
              ·
                refine g_lcmpNo 686 X335 hx (hb hby at_682) rfl (hb hby at_683) (teqL hc682_376).2 rfl ?_
                refine g_iconst 687 X335 hx (hb hby at_686) rfl (z := (1 : Int32)) rfl ?_
                refine g_goto 691 X335 hx (hb hby at_687) (by decide) (by decide) ?_
                exact Jhj379 (1 : Int32) (Or.inl ⟨hc682_376, rfl⟩)
              ·
                refine g_lcmpYes 690 X335 hx (hb hby at_682) rfl (hb hby at_683) (feqL hc682_376).2 (by decide) (by decide) ?_
                refine g_iconst 691 X335 hx (hb hby at_690) rfl (z := (0 : Int32)) rfl ?_
                exact Jhj379 (0 : Int32) (Or.inr (⟨hc682_376, rfl⟩))
            intro z378 hj379
            have hl9 : z378 = 1 := leaf_9 q1 p2 p3 p4 p5 p6 z1 z2 z3 z4 z7 z170 F176 z182 z184 r185 r186 r187 z195 z198 z221 z245 z247 r249 z340 z342 z345 z348 z375 z378 hM hft hc348_189 hj196 hj199 hB hc439_242 hN hR hj343 hj346 hj349 hc575_349 hj376 hj379
            subst hl9
            exact g_retN X335 hx (t := .boolean) Bd.returns hlk (by simp) rfl (hb hby at_691) (by decide) (by decide) ⟨rfl, N335⟩
    ·
      refine g_ifNo 442 Xj222 hx (hb hby at_439)  ((if0 _ _).trans (feq hc439_242).1) rfl ?_
      refine g_ldc2 445 Xj222 hx hZ hown (hw _ (List.mem_of_getElem? (i := 45) rfl)) (hb hby at_442) rfl ?_
      refine g_lstore 447 Xj222 hx (hb hby at_445) rfl (Ls' := #[.val (.long q1), .second, .val (.int p2), .val (.int p3), .val (.int p4), .val (.int p5), .val (.int p6), .val (.long z1), .second, .val (.int z2), .val (.int z3), .val (.int z4), .val (.int z7), .val (.ref b8), .val (.int z170), .val (.int z182), .val (.int z184), .val (.int r185), .val (.int r186), .val (.long r187), .second, .val (.long (-1 : Int64)), .second, .val (.int z195), .val (.int z198), .val (.int z221), .unset, .unset, .unset, .unset, .unset, .unset, .unset, .unset, .unset, .unset]) rfl ?_
      refine g_goto 678 Xj222 hx (hb hby at_447) (by decide) (by decide) ?_
      refine g_lload 680 Xj222 hx (hb hby at_678) rfl (v := r187) rfl ?_
      refine g_lload 682 Xj222 hx (hb hby at_680) rfl (v := (-1 : Int64)) rfl ?_
      suffices Jhj382 : ∀ (z381 : Int32), ((r187 = (-1 : Int64) ∧ z381 = (1 : Int32)) ∨ (¬ (r187 = (-1 : Int64)) ∧ z381 = (0 : Int32))) → Go p e below s 56 1024 (Q0 Z q1 p2 p3 p4 p5 p6 h0 n0) Tj222 (mkF m 691 #[.val (.long q1), .second, .val (.int p2), .val (.int p3), .val (.int p4), .val (.int p5), .val (.int p6), .val (.long z1), .second, .val (.int z2), .val (.int z3), .val (.int z4), .val (.int z7), .val (.ref b8), .val (.int z170), .val (.int z182), .val (.int z184), .val (.int r185), .val (.int r186), .val (.long r187), .second, .val (.long (-1 : Int64)), .second, .val (.int z195), .val (.int z198), .val (.int z221), .unset, .unset, .unset, .unset, .unset, .unset, .unset, .unset, .unset, .unset] [(.int z381)]) by
        by_cases hc682_379 : r187 = (-1 : Int64)
        ·
          refine g_lcmpNo 686 Xj222 hx (hb hby at_682) rfl (hb hby at_683) (teqL hc682_379).2 rfl ?_
          refine g_iconst 687 Xj222 hx (hb hby at_686) rfl (z := (1 : Int32)) rfl ?_
          refine g_goto 691 Xj222 hx (hb hby at_687) (by decide) (by decide) ?_
          exact Jhj382 (1 : Int32) (Or.inl ⟨hc682_379, rfl⟩)
        ·
          refine g_lcmpYes 690 Xj222 hx (hb hby at_682) rfl (hb hby at_683) (feqL hc682_379).2 (by decide) (by decide) ?_
          refine g_iconst 691 Xj222 hx (hb hby at_690) rfl (z := (0 : Int32)) rfl ?_
          exact Jhj382 (0 : Int32) (Or.inr (⟨hc682_379, rfl⟩))
      intro z381 hj382
      have hl10 : z381 = 1 := leaf_10 q1 p2 p3 p4 p5 p6 z1 z2 z3 z4 z7 z170 F176 z182 z184 r185 r186 r187 z195 z198 z221 z381 hM hft hc348_189 hj196 hj199 hB hc439_242 hj382
      subst hl10
      exact g_retN Xj222 hx (t := .boolean) Bd.returns hlk (by simp) rfl (hb hby at_691) (by decide) (by decide) ⟨rfl, Nj222⟩
set_option maxRecDepth 65536 in
set_option maxHeartbeats 40000000 in
theorem comes_1 {Post : Tables → Env → Array Value → State → Outcome → State → Prop} (hpost : ∀ tb e args s v u, (limb_1_1.after args s (.returned v) u = true ∧ limb_1_2.after args s (.returned v) u = true ∧ True) → FrameEnd s (.returned v) u (Jvm.fieldLocs frame_1_writes args s ++ Jvm.arrayLocs frame_1_arrays args s ++ Jvm.staticLocs frame_1_statics s) 56 1024 → Post tb e args s (.returned v) u) :
    ArmFor flags0 classFile x code maxLocals ret World_1 tables_1 room_1 Calls_1 rest_1 Pre_1 Post := by
  intro l hfl _ _ p e ha hc hk s m args below hf hA hF happ hP
  obtain ⟨hcalls, hrest, hpre⟩ := hP
  obtain ⟨-, -, -, hnamed, -, -, -, hat⟩ := (Spec.applies_iff hf).mp happ
  obtain ⟨hg, hn⟩ := and_e (Cond.before_iff.mp (show (Jvm.Cond.and given_1 narrow_1).before args s = true from hpre))
  obtain ⟨hcount, r0⟩ := and_e hg
  obtain ⟨ga0, r1⟩ := and_e r0
  obtain ⟨ga1, r2⟩ := and_e r1
  obtain ⟨ga2, r3⟩ := and_e r2
  obtain ⟨ga3, r4⟩ := and_e r3
  obtain ⟨ga4, r5⟩ := and_e r4
  obtain ⟨w0, w1, w2, w3, w4, w5, rfl⟩ : ∃ w0 w1 w2 w3 w4 w5 : Value, args = #[w0, w1, w2, w3, w4, w5] := by
    have hs : args.size = 6 := by simpa [Cond.value, given_1] using hcount
    obtain ⟨L⟩ := args
    match L, hs with
    | [w0, w1, w2, w3, w4, w5], _ => exact ⟨w0, w1, w2, w3, w4, w5, rfl⟩
  have hw := fun d (hd : d ∈ tables_1) => atoms_spec (ws := Jvm.Cond.code x code maxLocals ret :: tables_1) hat d (List.mem_cons_of_mem _ hd)
  obtain ⟨i0, ei0⟩ := isL_v ga0
  obtain rfl : w0 = (.long i0) := Option.some.inj ei0
  obtain ⟨i1, ei1⟩ := is_v ga1
  obtain rfl : w1 = (.int i1) := Option.some.inj ei1
  obtain ⟨i2, ei2⟩ := is_v ga2
  obtain rfl : w2 = (.int i2) := Option.some.inj ei2
  obtain ⟨i3, ei3⟩ := is_v ga3
  obtain rfl : w3 = (.int i3) := Option.some.inj ei3
  obtain ⟨i4, ei4⟩ := is_v ga4
  obtain rfl : w4 = (.int i4) := Option.some.inj ei4
  obtain ⟨i5, ei5⟩ := is_v r5
  obtain rfl : w5 = (.int i5) := Option.some.inj ei5
  obtain ⟨n, o, h1, h2, h3, _, L, rfl, ⟨rfl, N⟩, hq⟩ := rm0 l s _ hw tables_1 i0 i1 i2 i3 i4 i5 s.heap s.heap.size (Nat.le_refl _)  p e ha hc hk s m _ below hf ((Spec.applies_iff_loose hf).mp happ).1 ⟨rfl, State.Warmed39.refl s, rfl⟩ trivial
  exact ⟨n, _, h1, h2, h3, hpost _ _ _ _ _ _ ⟨Cond.after_iff.mpr rfl, Cond.after_iff.mpr (eq_i res_at (Term.int_eval (1)) rfl), trivial⟩ ⟨hq.1, hq.2.1, (hq.2.2.sift fun y hy => Or.inr (N y hy)).mono (by decide) (by decide)⟩⟩
theorem main_1_1 : Claimed_1_1 := comes_1 fun _ _ _ _ _ _ h hF => ⟨h.1, hF⟩
theorem main_1_2 : Claimed_1_2 := comes_1 fun _ _ _ _ _ _ h hF => ⟨h.2.1, hF⟩
end Jvm.Pilot.@@N@@
namespace Jvm.Pilot.@@N@@
open Jvm Jvm.ClassFile Sem Op Lib Jvm.Free Jvm.Stand Jvm.Pilot.@@N@@.Jvm.D
/-! MADE BY PROGRAM (witnessworld.py) out of the Statement's table words and the real class files: 12 classes; the members and pool entries that the words name. The judged class is class 1, her method 4. -/
namespace start1
open Jvm.ClassFile
def u (s : String) : CpInfo := .utf8 (stringToUtf16 s)
/-- a pool by its gaps: so many unusable entries, then the entry; so many at the end -/
def gap : Nat → List CpInfo → List CpInfo
  | 0, r => r
  | n + 1, r => .unusable :: gap n r
def poolList (es : List (Nat × CpInfo)) (last : Nat) : List CpInfo := es.foldr (fun e r => gap e.1 (e.2 :: r)) (gap last [])
def pool (es : List (Nat × CpInfo)) (last : Nat) : Array CpInfo := ⟨poolList es last⟩
def fileOf (pool : Array CpInfo) (this : Nat) (attrs : Array Attribute := #[]) (ms : Array MethodInfo := #[]) (fl : Nat := 33) (sup : Nat := 0) (ifs : Array Nat := #[]) (fds : Array FieldInfo := #[]) : ClassFile where
  minorVersion := 0
  majorVersion := 65
  constantPool := pool
  accessFlags := fl
  thisClass := this
  superClass := sup
  interfaces := ifs
  fields := fds
  methods := ms
  attributes := attrs
def plain (name : String) (sup : Option ClassId) : Class where
  name := name
  kind := .ordinary
  loader := none
  accessFlags := 33
  super := sup
  interfaces := #[]
  cf := none
  fields := #[]
  methods := #[]
  instanceTypes := #[]
  staticTypes := #[]
  resolved := #[]
  callSites := []
  init := .initialized
  statics := none
  mirror := none

def pool0 : Array CpInfo := pool [(5, u "<init>"), (0, u "()V"), (1, .class_ 10), (1, u "java/lang/Object")] 113

def k0m0 : Method := { name := "<init>", desc := "()V", sig := { parameters := [], returnType := none }, accessFlags := 1, code := none }
/-- java/lang/Object -/
def k0 : Class := { plain "java/lang/Object" none with
  accessFlags := 33
  interfaces := #[]
  cf := some (fileOf pool0 8 #[] #[{ accessFlags := 1, nameIndex := 5, descriptorIndex := 6, attributes := #[] }] 33 0 #[] #[])
  fields := #[]
  methods := #[k0m0]
  instanceTypes := #[]
  staticTypes := #[]
  resolved := Array.replicate 124 none
  statics := none }

def pool1 : Array CpInfo := pool [(2, .class_ 4), (1, u "java/lang/Object"), (0, u "<init>"), (0, u "()V"), (0, .long 10), (1, .long 100), (1, .long 1000), (1, .long 10000), (1, .long 100000), (1, .long 1000000), (1, .long 10000000), (1, .long 100000000), (1, .long 1000000000), (1, .long 10000000000), (1, .long 100000000000), (1, .long 1000000000000), (1, .long 10000000000000), (1, .long 100000000000000), (1, .long 1000000000000000), (1, .long 10000000000000000), (1, .long 100000000000000000), (1, .long 1000000000000000000), (1, .long 48), (1, .methodref 46 47), (0, .class_ 48), (0, .nameAndType 49 50), (0, u "com/example/utility_meter_billing/utilitymeterbilling/io/WholeNumberValuePinLaw"), (0, u "p"), (0, u "(I)J"), (2, .long 9223372036854775807), (1, .methodref 46 56), (0, .nameAndType 57 58), (0, u "dig"), (0, u "(JI)B"), (0, .methodref 46 60), (0, .nameAndType 61 62), (0, u "isDigit"), (0, u "(B)Z"), (0, .integer 2147483647), (0, .methodref 65 66), (0, .class_ 67), (0, .nameAndType 68 69), (0, u "java/lang/Math"), (0, u "min"), (0, u "(II)I"), (0, .methodref 65 71), (0, .nameAndType 72 69), (0, u "max"), (0, .methodref 74 75), (0, .class_ 76), (0, .nameAndType 77 78), (0, u "com/example/utility_meter_billing/utilitymeterbilling/io/WholeNumber"), (0, u "value"), (0, u "([BII)J"), (0, .long 18446744073709551615), (1, .long 999999999999999999), (1, .long 99999999999999999), (4, u "law"), (0, u "(JIIIII)Z")] 4

def k1m0 : Method := { name := "<init>", desc := "()V", sig := { parameters := [], returnType := none }, accessFlags := 1, code := none }
def k1c1 : Code := { maxStack := 5, maxLocals := 2, code := method_2_code, exceptionTable := #[], attributes := #[] }
def k1m1 : Method := { name := "p", desc := "(I)J", sig := { parameters := [.int], returnType := some .long }, accessFlags := 10, code := some k1c1 }
def k1c2 : Code := { maxStack := 6, maxLocals := 3, code := method_3_code, exceptionTable := #[], attributes := #[] }
def k1m2 : Method := { name := "dig", desc := "(JI)B", sig := { parameters := [.long, .int], returnType := some .byte }, accessFlags := 10, code := some k1c2 }
def k1c3 : Code := { maxStack := 2, maxLocals := 1, code := method_4_code, exceptionTable := #[], attributes := #[] }
def k1m3 : Method := { name := "isDigit", desc := "(B)Z", sig := { parameters := [.byte], returnType := some .boolean }, accessFlags := 10, code := some k1c3 }
def k1c4 : Code := { maxStack := 6, maxLocals := 36, code := code, exceptionTable := #[], attributes := #[] }
def k1m4 : Method := { name := "law", desc := "(JIIIII)Z", sig := { parameters := [.long, .int, .int, .int, .int, .int], returnType := some .boolean }, accessFlags := 9, code := some k1c4 }
/-- com/example/utility_meter_billing/utilitymeterbilling/io/WholeNumberValuePinLaw -/
def k1 : Class := { plain "com/example/utility_meter_billing/utilitymeterbilling/io/WholeNumberValuePinLaw" (some 0) with
  accessFlags := 49
  interfaces := #[]
  cf := some (fileOf pool1 46 #[] #[{ accessFlags := 1, nameIndex := 5, descriptorIndex := 6, attributes := #[] }, { accessFlags := 10, nameIndex := 49, descriptorIndex := 50, attributes := #[] }, { accessFlags := 10, nameIndex := 57, descriptorIndex := 58, attributes := #[] }, { accessFlags := 10, nameIndex := 61, descriptorIndex := 62, attributes := #[] }, { accessFlags := 9, nameIndex := 88, descriptorIndex := 89, attributes := #[] }] 49 2 #[] #[])
  fields := #[]
  methods := #[k1m0, k1m1, k1m2, k1m3, k1m4]
  instanceTypes := #[]
  staticTypes := #[]
  resolved := Array.replicate 94 none
  statics := none }

def pool2 : Array CpInfo := pool [(1, .class_ 2), (0, u "java/lang/Math"), (1, .class_ 6), (1, u "java/lang/Object"), (0, u "<init>"), (0, u "()V"), (89, .class_ 100), (1, u "java/lang/Math$RandomNumberGeneratorHolder"), (71, u "negativeZeroFloatBits"), (0, u "J"), (2, u "negativeZeroDoubleBits"), (21, u "max"), (2, u "min"), (43, u "$assertionsDisabled"), (0, u "Z"), (88, u "(II)I"), (2, u "twoToTheDoubleScaleDown"), (0, u "D"), (4, u "twoToTheDoubleScaleUp"), (9, u "E"), (3, u "PI"), (2, u "TAU"), (2, u "DEGREES_TO_RADIANS"), (0, u "RADIANS_TO_DEGREES")] 94

def k2m0 : Method := { name := "<init>", desc := "()V", sig := { parameters := [], returnType := none }, accessFlags := 2, code := none }
def k2c1 : Code := { maxStack := 2, maxLocals := 2, code := jdk_29_method_65_code, exceptionTable := #[], attributes := #[] }
def k2m1 : Method := { name := "max", desc := "(II)I", sig := { parameters := [.int, .int], returnType := some .int }, accessFlags := 9, code := some k2c1 }
def k2c2 : Code := { maxStack := 2, maxLocals := 2, code := jdk_29_method_69_code, exceptionTable := #[], attributes := #[] }
def k2m2 : Method := { name := "min", desc := "(II)I", sig := { parameters := [.int, .int], returnType := some .int }, accessFlags := 9, code := some k2c2 }
/-- java/lang/Math -/
def k2 : Class := { plain "java/lang/Math" (some 0) with
  accessFlags := 49
  interfaces := #[]
  cf := some (fileOf pool2 1 #[.nestMembers #[98]] #[{ accessFlags := 2, nameIndex := 7, descriptorIndex := 8, attributes := #[] }, { accessFlags := 9, nameIndex := 198, descriptorIndex := 335, attributes := #[] }, { accessFlags := 9, nameIndex := 201, descriptorIndex := 335, attributes := #[] }] 49 4 #[] #[{ accessFlags := 25, nameIndex := 354, descriptorIndex := 339, attributes := #[] }, { accessFlags := 25, nameIndex := 358, descriptorIndex := 339, attributes := #[] }, { accessFlags := 25, nameIndex := 361, descriptorIndex := 339, attributes := #[] }, { accessFlags := 26, nameIndex := 364, descriptorIndex := 339, attributes := #[] }, { accessFlags := 26, nameIndex := 365, descriptorIndex := 339, attributes := #[] }, { accessFlags := 26, nameIndex := 172, descriptorIndex := 173, attributes := #[] }, { accessFlags := 26, nameIndex := 176, descriptorIndex := 173, attributes := #[] }, { accessFlags := 8, nameIndex := 344, descriptorIndex := 339, attributes := #[] }, { accessFlags := 8, nameIndex := 338, descriptorIndex := 339, attributes := #[] }, { accessFlags := 4120, nameIndex := 245, descriptorIndex := 246, attributes := #[] }])
  fields := #[{ name := "E", type := .double, accessFlags := 25, slot := 0, constantValue := 0 }, { name := "PI", type := .double, accessFlags := 25, slot := 1, constantValue := 0 }, { name := "TAU", type := .double, accessFlags := 25, slot := 2, constantValue := 0 }, { name := "DEGREES_TO_RADIANS", type := .double, accessFlags := 26, slot := 3, constantValue := 0 }, { name := "RADIANS_TO_DEGREES", type := .double, accessFlags := 26, slot := 4, constantValue := 0 }, { name := "negativeZeroFloatBits", type := .long, accessFlags := 26, slot := 5, constantValue := 0 }, { name := "negativeZeroDoubleBits", type := .long, accessFlags := 26, slot := 6, constantValue := 0 }, { name := "twoToTheDoubleScaleUp", type := .double, accessFlags := 8, slot := 7, constantValue := 0 }, { name := "twoToTheDoubleScaleDown", type := .double, accessFlags := 8, slot := 8, constantValue := 0 }, { name := "$assertionsDisabled", type := .boolean, accessFlags := 4120, slot := 9, constantValue := 0 }]
  methods := #[k2m0, k2m1, k2m2]
  instanceTypes := #[]
  staticTypes := #[.double, .double, .double, .double, .double, .long, .long, .double, .double, .boolean]
  resolved := Array.replicate 460 none
  statics := none }

def pool3 : Array CpInfo := pool [(4, .class_ 6), (1, u "java/lang/Object"), (0, u "<init>"), (0, u "()V"), (13, .class_ 24), (1, u "com/example/utility_meter_billing/utilitymeterbilling/io/WholeNumber"), (0, u "value"), (0, u "([BII)J"), (0, .long 18446744073709551615), (1, .long 99999999999999999), (1, .long 9223372036854775807), (1, .long 10), (1, .long 48), (1, u "NONE"), (0, u "J"), (1, u "MAX"), (2, u "ABOVE_MAX"), (0, u "DECIMAL"), (0, u "I")] 7

def k3m0 : Method := { name := "<init>", desc := "()V", sig := { parameters := [], returnType := none }, accessFlags := 2, code := none }
def k3c1 : Code := { maxStack := 4, maxLocals := 7, code := prog_31_method_3_code, exceptionTable := #[], attributes := #[] }
def k3m1 : Method := { name := "value", desc := "([BII)J", sig := { parameters := [(.array .byte), .int, .int], returnType := some .long }, accessFlags := 8, code := some k3c1 }
/-- com/example/utility_meter_billing/utilitymeterbilling/io/WholeNumber -/
def k3 : Class := { plain "com/example/utility_meter_billing/utilitymeterbilling/io/WholeNumber" (some 0) with
  accessFlags := 48
  interfaces := #[]
  cf := some (fileOf pool3 22 #[] #[{ accessFlags := 2, nameIndex := 7, descriptorIndex := 8, attributes := #[] }, { accessFlags := 8, nameIndex := 25, descriptorIndex := 26, attributes := #[] }] 48 4 #[] #[{ accessFlags := 24, nameIndex := 37, descriptorIndex := 38, attributes := #[] }, { accessFlags := 24, nameIndex := 40, descriptorIndex := 38, attributes := #[] }, { accessFlags := 24, nameIndex := 43, descriptorIndex := 38, attributes := #[] }, { accessFlags := 26, nameIndex := 44, descriptorIndex := 45, attributes := #[] }])
  fields := #[{ name := "NONE", type := .long, accessFlags := 24, slot := 0, constantValue := 0 }, { name := "MAX", type := .long, accessFlags := 24, slot := 1, constantValue := 0 }, { name := "ABOVE_MAX", type := .long, accessFlags := 24, slot := 2, constantValue := 0 }, { name := "DECIMAL", type := .int, accessFlags := 26, slot := 3, constantValue := 0 }]
  methods := #[k3m0, k3m1]
  instanceTypes := #[]
  staticTypes := #[.long, .long, .long, .int]
  resolved := Array.replicate 53 none
  statics := none }

def pool4 : Array CpInfo := pool [(1, u "java/lang/Cloneable"), (0, .class_ 1), (0, u "java/lang/Object"), (0, .class_ 3)] 3

/-- java/lang/Cloneable -/
def k4 : Class := { plain "java/lang/Cloneable" (some 0) with
  accessFlags := 1537
  interfaces := #[]
  cf := some (fileOf pool4 2 #[] #[] 1537 4 #[] #[])
  fields := #[]
  methods := #[]
  instanceTypes := #[]
  staticTypes := #[]
  resolved := Array.replicate 8 none
  statics := none }

def pool5 : Array CpInfo := pool [(1, u "java/io/Serializable"), (0, .class_ 1), (0, u "java/lang/Object"), (0, .class_ 3)] 3

/-- java/io/Serializable -/
def k5 : Class := { plain "java/io/Serializable" (some 0) with
  accessFlags := 1537
  interfaces := #[]
  cf := some (fileOf pool5 2 #[] #[] 1537 4 #[] #[])
  fields := #[]
  methods := #[]
  instanceTypes := #[]
  staticTypes := #[]
  resolved := Array.replicate 8 none
  statics := none }

/-- the primitive byte -/
def k6 : Class := { plain "byte" none with kind := .primitive 'B', accessFlags := 0x411 }
/-- [B -/
def k7 : Class := { plain "[B" (some 0) with kind := .array 6 .byte, interfaces := #[4, 5], accessFlags := 1041 }

/-- the primitive int -/
def k8 : Class := { plain "int" none with kind := .primitive 'I', accessFlags := 0x411 }
/-- [I -/
def k9 : Class := { plain "[I" (some 0) with kind := .array 8 .int, interfaces := #[4, 5], accessFlags := 1041 }

/-- the primitive long -/
def k10 : Class := { plain "long" none with kind := .primitive 'J', accessFlags := 0x411 }
/-- [J -/
def k11 : Class := { plain "[J" (some 0) with kind := .array 10 .long, interfaces := #[4, 5], accessFlags := 1041 }

def heap : Heap := #[]
def classes : Array Class := #[k0, k1, k2, k3, k4, k5, k6, k7, k8, k9, k10, k11]
def interned : List (Array UInt16 × Addr) := []
def slotsUsed : Nat := 0
def theMethod : MethodId := ⟨1, 4⟩
def args0 : Array Value := #[.long 5, .int 50, .int 51, .int 3, .int 7, .int 300]
def aboutOver (below : List Frame) : State where
  vm := { classes := classes, interned := interned.toArray }
  heap := heap
  slotsUsed := slotsUsed
  threads := #[{ frames := .invoking theMethod args0 :: below }]
def below0 : List Frame := [.native { method := ⟨0, 0⟩, args := #[] }]
def about1 : State := aboutOver below0
def p0 : Program := .bare "" "" ""
def e0 : Env := launch0.env 0 0 0
theorem w_frames : about1.frames = Frame.invoking theMethod args0 :: below0 := rfl
set_option maxRecDepth 65536 in
theorem w_args : argsFit about1.vm theMethod args0 = true := by decide +kernel
set_option maxRecDepth 65536 in
theorem w_heap : heapFits about1 = true := by decide +kernel
set_option maxRecDepth 65536 in
theorem w_runnable : about1.curStatus? = some .runnable := by decide +kernel
set_option maxRecDepth 65536 in
theorem w_alone : about1.alone = true := by decide +kernel
set_option maxRecDepth 65536 in
theorem w_named : about1.methodNamed? x = some theMethod := by decide +kernel
set_option maxRecDepth 65536 in
theorem w_hears : about1.hears theMethod below0 = true := by decide +kernel
set_option maxRecDepth 65536 in
theorem w_ripe : about1.ripe theMethod args0 below0 = true := by decide +kernel
theorem w_running : about1.status = .running := rfl
set_option maxRecDepth 65536 in
theorem w_room : about1.hasRoom e0.platform room_1 = true :=
  launch0.hasRoom_least _ room_1 (by decide +kernel) (by decide +kernel) (by decide +kernel) (by decide +kernel) (by decide +kernel) (by decide +kernel)
theorem allAtoms_all (ts : List Jvm.Cond) (a : Array Jvm.Value) (st : Jvm.State) : (allAtoms ts).before a st = ts.all (fun c => c.before a st) := by
  induction ts with
  | nil => rfl
  | cons c t ih =>
    show (Jvm.Cond.and c (allAtoms t)).before a st = _
    rw [Jvm.Cond.before_and, ih, List.all_cons]
def words1 : List Jvm.Cond := Jvm.Cond.code x code maxLocals ret :: tables_1
/-- a 'code' word, met by the world's own term for the bytes: nothing is compared byte by byte -/
theorem code_word {y : MethodName} {bytes : ByteArray} {mx : Nat} {rt : Option FieldType} {a : Array Value} {s : State} {m : MethodId} {meth : Method} {c : Code} (h1 : s.methodNamed? y = some m) (h2 : s.vm.method? m = some meth) (h3 : meth.code = some c) (h4 : c.code = bytes)
    (h5 : (c.maxLocals == mx && c.exceptionTable.isEmpty && decide (c.maxStack ≤ mostOperands) && decide (meth.sig.returnType = rt) && !meth.locks && decide (parseMethodDescriptor y.desc = some meth.sig)) = true) : (Jvm.Cond.code y bytes mx rt).before a s = true := by
  simp only [Bool.and_eq_true, beq_iff_eq, Bool.not_eq_true', decide_eq_true_eq] at h5
  obtain ⟨⟨⟨⟨⟨g1, g2⟩, g3⟩, g4⟩, g5⟩, g6⟩ := h5
  simp [Cond.before, Cond.holds, Cond.value, h1, h2, h3, h4, g1, g2, g3, g4, g5, g6]
def isCode : Jvm.Cond → Bool
  | .code _ _ _ _ => true
  | _ => false
theorem all_split {L : List Jvm.Cond} {P : Jvm.Cond → Bool} (h1 : L.all (fun c => isCode c || P c) = true) (h2 : ∀ c ∈ L.filter isCode, P c = true) : L.all P = true := by
  refine List.all_eq_true.mpr fun c hc => ?_
  have h := List.all_eq_true.mp h1 c hc
  rcases Bool.eq_false_or_eq_true (isCode c) with hi | hi
  · exact h2 c (List.mem_filter.mpr ⟨hc, hi⟩)
  · simpa [hi] using h
set_option maxRecDepth 65536 in
theorem w_c0 : (Jvm.Cond.code x code maxLocals ret).before args0 about1 = true := code_word (m := ⟨1, 4⟩) (meth := k1m4) (c := k1c4) (by decide +kernel) rfl rfl rfl (by decide +kernel)
set_option maxRecDepth 65536 in
theorem w_c1 : (Jvm.Cond.code ({ cls := "com/example/utility_meter_billing/utilitymeterbilling/io/WholeNumberValuePinLaw", name := "dig", desc := "(JI)B" } : Jvm.MethodName) method_3_code (3 : Nat) (Option.some Jvm.ClassFile.FieldType.byte)).before args0 about1 = true := code_word (m := ⟨1, 2⟩) (meth := k1m2) (c := k1c2) (by decide +kernel) rfl rfl rfl (by decide +kernel)
set_option maxRecDepth 65536 in
theorem w_c2 : (Jvm.Cond.code ({ cls := "com/example/utility_meter_billing/utilitymeterbilling/io/WholeNumberValuePinLaw", name := "p", desc := "(I)J" } : Jvm.MethodName) method_2_code (2 : Nat) (Option.some Jvm.ClassFile.FieldType.long)).before args0 about1 = true := code_word (m := ⟨1, 1⟩) (meth := k1m1) (c := k1c1) (by decide +kernel) rfl rfl rfl (by decide +kernel)
set_option maxRecDepth 65536 in
theorem w_c3 : (Jvm.Cond.code ({ cls := "com/example/utility_meter_billing/utilitymeterbilling/io/WholeNumberValuePinLaw", name := "isDigit", desc := "(B)Z" } : Jvm.MethodName) method_4_code (1 : Nat) (Option.some Jvm.ClassFile.FieldType.boolean)).before args0 about1 = true := code_word (m := ⟨1, 3⟩) (meth := k1m3) (c := k1c3) (by decide +kernel) rfl rfl rfl (by decide +kernel)
set_option maxRecDepth 65536 in
theorem w_c4 : (Jvm.Cond.code ({ cls := "java/lang/Math", name := "min", desc := "(II)I" } : Jvm.MethodName) jdk_29_method_69_code (2 : Nat) (Option.some Jvm.ClassFile.FieldType.int)).before args0 about1 = true := code_word (m := ⟨2, 2⟩) (meth := k2m2) (c := k2c2) (by decide +kernel) rfl rfl rfl (by decide +kernel)
set_option maxRecDepth 65536 in
theorem w_c5 : (Jvm.Cond.code ({ cls := "java/lang/Math", name := "max", desc := "(II)I" } : Jvm.MethodName) jdk_29_method_65_code (2 : Nat) (Option.some Jvm.ClassFile.FieldType.int)).before args0 about1 = true := code_word (m := ⟨2, 1⟩) (meth := k2m1) (c := k2c1) (by decide +kernel) rfl rfl rfl (by decide +kernel)
set_option maxRecDepth 65536 in
theorem w_c6 : (Jvm.Cond.code ({ cls := "com/example/utility_meter_billing/utilitymeterbilling/io/WholeNumber", name := "value", desc := "([BII)J" } : Jvm.MethodName) prog_31_method_3_code (7 : Nat) (Option.some Jvm.ClassFile.FieldType.long)).before args0 about1 = true := code_word (m := ⟨3, 1⟩) (meth := k3m1) (c := k3c1) (by decide +kernel) rfl rfl rfl (by decide +kernel)
def codes1 : List Jvm.Cond := [Jvm.Cond.code x code maxLocals ret, Jvm.Cond.code ({ cls := "com/example/utility_meter_billing/utilitymeterbilling/io/WholeNumberValuePinLaw", name := "dig", desc := "(JI)B" } : Jvm.MethodName) method_3_code (3 : Nat) (Option.some Jvm.ClassFile.FieldType.byte), Jvm.Cond.code ({ cls := "com/example/utility_meter_billing/utilitymeterbilling/io/WholeNumberValuePinLaw", name := "p", desc := "(I)J" } : Jvm.MethodName) method_2_code (2 : Nat) (Option.some Jvm.ClassFile.FieldType.long), Jvm.Cond.code ({ cls := "com/example/utility_meter_billing/utilitymeterbilling/io/WholeNumberValuePinLaw", name := "isDigit", desc := "(B)Z" } : Jvm.MethodName) method_4_code (1 : Nat) (Option.some Jvm.ClassFile.FieldType.boolean), Jvm.Cond.code ({ cls := "java/lang/Math", name := "min", desc := "(II)I" } : Jvm.MethodName) jdk_29_method_69_code (2 : Nat) (Option.some Jvm.ClassFile.FieldType.int), Jvm.Cond.code ({ cls := "java/lang/Math", name := "max", desc := "(II)I" } : Jvm.MethodName) jdk_29_method_65_code (2 : Nat) (Option.some Jvm.ClassFile.FieldType.int), Jvm.Cond.code ({ cls := "com/example/utility_meter_billing/utilitymeterbilling/io/WholeNumber", name := "value", desc := "([BII)J" } : Jvm.MethodName) prog_31_method_3_code (7 : Nat) (Option.some Jvm.ClassFile.FieldType.long)]
set_option maxRecDepth 65536 in
theorem codes_eq : words1.filter isCode = codes1 := rfl
theorem w_codes : ∀ c ∈ words1.filter isCode, c.before args0 about1 = true := by
  rw [codes_eq]
  intro c hc
  simp only [codes1, List.mem_cons, List.not_mem_nil, or_false] at hc
  rcases hc with rfl | rfl | rfl | rfl | rfl | rfl | rfl
  · exact w_c0
  · exact w_c1
  · exact w_c2
  · exact w_c3
  · exact w_c4
  · exact w_c5
  · exact w_c6
set_option maxRecDepth 65536 in
theorem w_t1 : (words1.take 24).all (fun c => isCode c || c.before args0 about1) = true := by decide +kernel
set_option maxRecDepth 65536 in
theorem w_t2 : ((words1.drop 24).take 24).all (fun c => isCode c || c.before args0 about1) = true := by decide +kernel
set_option maxRecDepth 65536 in
theorem w_t3 : ((words1.drop 24).drop 24).all (fun c => isCode c || c.before args0 about1) = true := by decide +kernel
theorem w_tables : (allAtoms (Jvm.Cond.code x code maxLocals ret :: tables_1)).before args0 about1 = true := by
  rw [allAtoms_all]
  show words1.all (fun c => c.before args0 about1) = true
  refine all_split ?_ w_codes
  rw [← List.take_append_drop 24 words1, List.all_append, w_t1, ← List.take_append_drop 24 (words1.drop 24), List.all_append, w_t2, w_t3]
  rfl
set_option maxRecDepth 65536 in
theorem w_case : (Jvm.Cond.and given_1 narrow_1).before args0 about1 = true := by decide +kernel
theorem w_applies : (headSpec (Jvm.Cond.code x code maxLocals ret :: tables_1) room_1).applies x e0.platform about1 = true :=
  (Spec.applies_iff w_frames).mpr ⟨w_running, w_runnable, w_alone, w_named, w_hears, w_ripe, w_room, w_tables⟩
theorem atStart : AtStart classFile x code maxLocals ret World_1 tables_1 room_1 Calls_1 rest_1 Pre_1 launch0 p0 e0 about1 theMethod args0 below0 :=
  ⟨lists_1, trivial, launch0.admits_env _ _ _, launch0.least_env, fairChoices_fair.cas, fairChoices_fair.clock, w_frames, w_args, w_heap, w_applies, trivial, trivial, w_case⟩
end start1
theorem witness_1 : WitnessClaimed_1 := ⟨start1.p0, start1.e0, start1.about1, start1.theMethod, start1.args0, start1.below0, start1.atStart⟩
end Jvm.Pilot.@@N@@
