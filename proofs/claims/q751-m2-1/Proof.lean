import JvmDerived
import JvmDerived.Pilot.@@N@@Statement
import JvmDerived.Pilot.@@N@@Code
set_option linter.unusedVariables false
set_option linter.unusedSimpArgs false
namespace Jvm.Pilot.@@N@@
open Jvm Jvm.ClassFile Sem Op Lib Jvm.Free Jvm.Stand Jvm.LawKit Jvm.RoadKit Bundle Jvm.Pilot.@@N@@.Jvm.D
section OwnKit
/-- the run goes on from here to the method's end; what it leaves is Q -/
def Go (p : Program) (e : Env) (below : List Frame) (s : State) (k n : Nat) (Q : Option Value → Heap → List Loc → Prop) (T : State) (g : JFrame) : Prop :=
  ∃ s₂ o, Steps p.tables e below (T.setTop g) s₂ ∧ s₂.status = .running ∧ Ended s₂ below o ∧ ∃ v L, o = .returned v ∧ Q v s₂.heap L ∧ FrameEnd s o s₂ L k n
variable {p : Program} {l : Launch} {e : Env} {R : Room} {s : State} {m : MethodId} {args : Array Value} {below : List Frame} {meth : Method} {c : Code} {T : State} {locs : List Loc} {cells slots : Nat} {k n : Nat} {Q : Option Value → Heap → List Loc → Prop} {pc : Nat} {Ls : Array Slot} {st : List Value} {Z : State} {a0 : Array Value} {h h' : Heap}
theorem Go.via {T' : State} {g g' : JFrame} (q : ∀ t, Steps p.tables e below (T'.setTop g') t → Steps p.tables e below (T.setTop g) t) (H : Go p e below s k n Q T' g') : Go p e below s k n Q T g := by
  obtain ⟨s₂, o, h1, r⟩ := H
  exact ⟨s₂, o, q _ h1, r⟩
theorem tltL {x y : Int64} (q : x < y) : ifCond.holds .lt (lcmpW x y) = true ∧ ifCond.holds .ge (lcmpW x y) = false ∧ ifCond.holds .gt (lcmpW y x) = true ∧ ifCond.holds .le (lcmpW y x) = false := by
  simp only [if0]
  exact ⟨(tlt ((lw_lt x y).mpr q)).1, (tlt ((lw_lt x y).mpr q)).2.1, (tlt ((lw_gt y x).mpr q)).2.2.1, (tlt ((lw_gt y x).mpr q)).2.2.2⟩
theorem fltL {x y : Int64} (q : ¬ x < y) : ifCond.holds .lt (lcmpW x y) = false ∧ ifCond.holds .ge (lcmpW x y) = true ∧ ifCond.holds .gt (lcmpW y x) = false ∧ ifCond.holds .le (lcmpW y x) = true := by
  simp only [if0]
  exact ⟨(flt (mt (lw_lt x y).mp q)).1, (flt (mt (lw_lt x y).mp q)).2.1, (flt (mt (lw_gt y x).mp q)).2.2.1, (flt (mt (lw_gt y x).mp q)).2.2.2⟩
theorem teqL {x y : Int64} (q : x = y) : ifCond.holds .eq (lcmpW x y) = true ∧ ifCond.holds .ne (lcmpW x y) = false := by
  simp only [if0]
  exact ⟨(teq ((lw_eq x y).mpr q)).1, (teq ((lw_eq x y).mpr q)).2⟩
theorem feqL {x y : Int64} (q : ¬ x = y) : ifCond.holds .eq (lcmpW x y) = false ∧ ifCond.holds .ne (lcmpW x y) = true := by
  simp only [if0]
  exact ⟨(feq (mt (lw_eq x y).mp q)).1, (feq (mt (lw_eq x y).mp q)).2⟩
theorem tlt0 {x y : Int32} (q : x < y) : (y = 0 → ifCond.holds .lt x = true ∧ ifCond.holds .ge x = false) ∧ (x = 0 → ifCond.holds .gt y = true ∧ ifCond.holds .le y = false) := by
  refine ⟨fun r => ?_, fun r => ?_⟩ <;> subst r <;> simp only [if0]
  · exact ⟨(tlt q).1, (tlt q).2.1⟩
  · exact ⟨(tlt q).2.2.1, (tlt q).2.2.2⟩
theorem g_iloadN (pc' : Nat) (X : Stand p l e R s m args below meth c T locs cells slots) (hx : p.tables.exec = Jvm.exec) {i : Fin 4} {v : Int32} (hd : decode c.code pc = .ok (.iload_n i, 1)) (hp : pc + 1 = pc') (hl : Ls[i.val]? = some (.val (.int v))) (H : Go p e below s k n Q T (mkF m pc' Ls (.int v :: st))) : Go p e below s k n Q T (mkF m pc Ls st) := by
  subst hp
  exact H.via fun t q => XS.iloadN X.here hx rfl hd hl q
theorem g_iload (pc' : Nat) (X : Stand p l e R s m args below meth c T locs cells slots) (hx : p.tables.exec = Jvm.exec) {i : Nat} {v : Int32} (hd : decode c.code pc = .ok (.iload i, 2)) (hp : pc + 2 = pc') (hl : Ls[i]? = some (.val (.int v))) (H : Go p e below s k n Q T (mkF m pc' Ls (.int v :: st))) : Go p e below s k n Q T (mkF m pc Ls st) := by
  subst hp
  exact H.via fun t q => XS.iload X.here hx rfl hd hl q
theorem g_istoreN (pc' : Nat) (X : Stand p l e R s m args below meth c T locs cells slots) (hx : p.tables.exec = Jvm.exec) {i : Fin 4} {v : Int32} {Ls' : Array Slot} (hd : decode c.code pc = .ok (.istore_n i, 1)) (hp : pc + 1 = pc') (hl : storeLocals Ls i.val (.int v) = some Ls') (H : Go p e below s k n Q T (mkF m pc' Ls' st)) : Go p e below s k n Q T (mkF m pc Ls (.int v :: st)) := by
  subst hp
  exact H.via fun t q => XS.istoreN X.here hx rfl hd rfl hl q
theorem g_istore (pc' : Nat) (X : Stand p l e R s m args below meth c T locs cells slots) (hx : p.tables.exec = Jvm.exec) {i : Nat} {v : Int32} {Ls' : Array Slot} (hd : decode c.code pc = .ok (.istore i, 2)) (hp : pc + 2 = pc') (hl : storeLocals Ls i (.int v) = some Ls') (H : Go p e below s k n Q T (mkF m pc' Ls' st)) : Go p e below s k n Q T (mkF m pc Ls (.int v :: st)) := by
  subst hp
  exact H.via fun t q => XS.istore X.here hx rfl hd rfl hl q
theorem g_lloadN (pc' : Nat) (X : Stand p l e R s m args below meth c T locs cells slots) (hx : p.tables.exec = Jvm.exec) {i : Fin 4} {v : Int64} (hd : decode c.code pc = .ok (.lload_n i, 1)) (hp : pc + 1 = pc') (hl : Ls[i.val]? = some (.val (.long v))) (H : Go p e below s k n Q T (mkF m pc' Ls (.long v :: st))) : Go p e below s k n Q T (mkF m pc Ls st) := by
  subst hp
  exact H.via fun t q => XS.lloadN X.here hx rfl hd hl q
theorem g_lload (pc' : Nat) (X : Stand p l e R s m args below meth c T locs cells slots) (hx : p.tables.exec = Jvm.exec) {i : Nat} {v : Int64} (hd : decode c.code pc = .ok (.lload i, 2)) (hp : pc + 2 = pc') (hl : Ls[i]? = some (.val (.long v))) (H : Go p e below s k n Q T (mkF m pc' Ls (.long v :: st))) : Go p e below s k n Q T (mkF m pc Ls st) := by
  subst hp
  exact H.via fun t q => XS.lload X.here hx rfl hd hl q
theorem g_lstoreN (pc' : Nat) (X : Stand p l e R s m args below meth c T locs cells slots) (hx : p.tables.exec = Jvm.exec) {i : Fin 4} {v : Int64} {Ls' : Array Slot} (hd : decode c.code pc = .ok (.lstore_n i, 1)) (hp : pc + 1 = pc') (hl : storeLocals Ls i.val (.long v) = some Ls') (H : Go p e below s k n Q T (mkF m pc' Ls' st)) : Go p e below s k n Q T (mkF m pc Ls (.long v :: st)) := by
  subst hp
  exact H.via fun t q => XS.lstoreN X.here hx rfl hd rfl hl q
theorem g_lstore (pc' : Nat) (X : Stand p l e R s m args below meth c T locs cells slots) (hx : p.tables.exec = Jvm.exec) {i : Nat} {v : Int64} {Ls' : Array Slot} (hd : decode c.code pc = .ok (.lstore i, 2)) (hp : pc + 2 = pc') (hl : storeLocals Ls i (.long v) = some Ls') (H : Go p e below s k n Q T (mkF m pc' Ls' st)) : Go p e below s k n Q T (mkF m pc Ls (.long v :: st)) := by
  subst hp
  exact H.via fun t q => XS.lstore X.here hx rfl hd rfl hl q
theorem g_aloadN (pc' : Nat) (X : Stand p l e R s m args below meth c T locs cells slots) (hx : p.tables.exec = Jvm.exec) {i : Fin 4} {v : Value} (hd : decode c.code pc = .ok (.aload_n i, 1)) (hp : pc + 1 = pc') (hl : Ls[i.val]? = some (.val v)) (hv : v.isRef = true) (H : Go p e below s k n Q T (mkF m pc' Ls (v :: st))) : Go p e below s k n Q T (mkF m pc Ls st) := by
  subst hp
  exact H.via fun t q => XS.aloadN X.here hx rfl hd hl hv q
theorem g_aload (pc' : Nat) (X : Stand p l e R s m args below meth c T locs cells slots) (hx : p.tables.exec = Jvm.exec) {i : Nat} {v : Value} (hd : decode c.code pc = .ok (.aload i, 2)) (hp : pc + 2 = pc') (hl : Ls[i]? = some (.val v)) (hv : v.isRef = true) (H : Go p e below s k n Q T (mkF m pc' Ls (v :: st))) : Go p e below s k n Q T (mkF m pc Ls st) := by
  subst hp
  exact H.via fun t q => XS.aload X.here hx rfl hd hl hv q
theorem g_astoreN (pc' : Nat) (X : Stand p l e R s m args below meth c T locs cells slots) (hx : p.tables.exec = Jvm.exec) {i : Fin 4} {v : Value} {Ls' : Array Slot} (hd : decode c.code pc = .ok (.astore_n i, 1)) (hp : pc + 1 = pc') (hv : v.isRef = true) (hl : storeLocals Ls i.val v = some Ls') (H : Go p e below s k n Q T (mkF m pc' Ls' st)) : Go p e below s k n Q T (mkF m pc Ls (v :: st)) := by
  subst hp
  exact H.via fun t q => XS.astoreN X.here hx rfl hd rfl hv hl q
theorem g_astore (pc' : Nat) (X : Stand p l e R s m args below meth c T locs cells slots) (hx : p.tables.exec = Jvm.exec) {i : Nat} {v : Value} {Ls' : Array Slot} (hd : decode c.code pc = .ok (.astore i, 2)) (hp : pc + 2 = pc') (hv : v.isRef = true) (hl : storeLocals Ls i v = some Ls') (H : Go p e below s k n Q T (mkF m pc' Ls' st)) : Go p e below s k n Q T (mkF m pc Ls (v :: st)) := by
  subst hp
  exact H.via fun t q => XS.astore X.here hx rfl hd rfl hv hl q
theorem g_iconst (pc' : Nat) (X : Stand p l e R s m args below meth c T locs cells slots) (hx : p.tables.exec = Jvm.exec) {i : Int} {z : Int32} (hd : decode c.code pc = .ok (.iconst i, 1)) (hp : pc + 1 = pc') (hz : Int32.ofInt i = z) (H : Go p e below s k n Q T (mkF m pc' Ls (.int z :: st))) : Go p e below s k n Q T (mkF m pc Ls st) := by
  subst hp hz
  exact H.via fun t q => XS.iconst X.here hx rfl hd q
theorem g_bipush (pc' : Nat) (X : Stand p l e R s m args below meth c T locs cells slots) (hx : p.tables.exec = Jvm.exec) {i : Int} {z : Int32} (hd : decode c.code pc = .ok (.bipush i, 2)) (hp : pc + 2 = pc') (hz : (Int8.ofInt i).toInt32 = z) (H : Go p e below s k n Q T (mkF m pc' Ls (.int z :: st))) : Go p e below s k n Q T (mkF m pc Ls st) := by
  subst hp hz
  exact H.via fun t q => XS.bipush X.here hx rfl hd q
theorem g_sipush (pc' : Nat) (X : Stand p l e R s m args below meth c T locs cells slots) (hx : p.tables.exec = Jvm.exec) {i : Int} {z : Int32} (hd : decode c.code pc = .ok (.sipush i, 3)) (hp : pc + 3 = pc') (hz : (Int16.ofInt i).toInt32 = z) (H : Go p e below s k n Q T (mkF m pc' Ls (.int z :: st))) : Go p e below s k n Q T (mkF m pc Ls st) := by
  subst hp hz
  exact H.via fun t q => XS.sipush X.here hx rfl hd q
theorem g_lconst (pc' : Nat) (X : Stand p l e R s m args below meth c T locs cells slots) (hx : p.tables.exec = Jvm.exec) {i : Fin 2} {z : Int64} (hd : decode c.code pc = .ok (.lconst i, 1)) (hp : pc + 1 = pc') (hz : Int64.ofNat i.val = z) (H : Go p e below s k n Q T (mkF m pc' Ls (.long z :: st))) : Go p e below s k n Q T (mkF m pc Ls st) := by
  subst hp hz
  exact H.via fun t q => XS.lconst X.here hx rfl hd q
theorem g_aconst_null (pc' : Nat) (X : Stand p l e R s m args below meth c T locs cells slots) (hx : p.tables.exec = Jvm.exec) (hd : decode c.code pc = .ok (.aconst_null, 1)) (hp : pc + 1 = pc')  (H : Go p e below s k n Q T (mkF m pc' Ls (.null :: st))) : Go p e below s k n Q T (mkF m pc Ls st) := by
  subst hp
  exact H.via fun t q => XS.aconstNull X.here hx rfl hd q
theorem g_iadd (pc' : Nat) (X : Stand p l e R s m args below meth c T locs cells slots) (hx : p.tables.exec = Jvm.exec) {x y z : Int32} (hd : decode c.code pc = .ok (.iadd, 1)) (hp : pc + 1 = pc') (hz : x + y = z) (H : Go p e below s k n Q T (mkF m pc' Ls (.int z :: st))) : Go p e below s k n Q T (mkF m pc Ls (.int y :: .int x :: st)) := by
  subst hp hz
  exact H.via fun t q => XS.iadd X.here hx rfl hd rfl q
theorem g_isub (pc' : Nat) (X : Stand p l e R s m args below meth c T locs cells slots) (hx : p.tables.exec = Jvm.exec) {x y z : Int32} (hd : decode c.code pc = .ok (.isub, 1)) (hp : pc + 1 = pc') (hz : x - y = z) (H : Go p e below s k n Q T (mkF m pc' Ls (.int z :: st))) : Go p e below s k n Q T (mkF m pc Ls (.int y :: .int x :: st)) := by
  subst hp hz
  exact H.via fun t q => XS.isub X.here hx rfl hd rfl q
theorem g_imul (pc' : Nat) (X : Stand p l e R s m args below meth c T locs cells slots) (hx : p.tables.exec = Jvm.exec) {x y z : Int32} (hd : decode c.code pc = .ok (.imul, 1)) (hp : pc + 1 = pc') (hz : x * y = z) (H : Go p e below s k n Q T (mkF m pc' Ls (.int z :: st))) : Go p e below s k n Q T (mkF m pc Ls (.int y :: .int x :: st)) := by
  subst hp hz
  exact H.via fun t q => XS.imul X.here hx rfl hd rfl q
theorem g_iand (pc' : Nat) (X : Stand p l e R s m args below meth c T locs cells slots) (hx : p.tables.exec = Jvm.exec) {x y z : Int32} (hd : decode c.code pc = .ok (.iand, 1)) (hp : pc + 1 = pc') (hz : x &&& y = z) (H : Go p e below s k n Q T (mkF m pc' Ls (.int z :: st))) : Go p e below s k n Q T (mkF m pc Ls (.int y :: .int x :: st)) := by
  subst hp hz
  exact H.via fun t q => XS.iand X.here hx rfl hd rfl q
theorem g_ior (pc' : Nat) (X : Stand p l e R s m args below meth c T locs cells slots) (hx : p.tables.exec = Jvm.exec) {x y z : Int32} (hd : decode c.code pc = .ok (.ior, 1)) (hp : pc + 1 = pc') (hz : x ||| y = z) (H : Go p e below s k n Q T (mkF m pc' Ls (.int z :: st))) : Go p e below s k n Q T (mkF m pc Ls (.int y :: .int x :: st)) := by
  subst hp hz
  exact H.via fun t q => XS.ior X.here hx rfl hd rfl q
theorem g_ixor (pc' : Nat) (X : Stand p l e R s m args below meth c T locs cells slots) (hx : p.tables.exec = Jvm.exec) {x y z : Int32} (hd : decode c.code pc = .ok (.ixor, 1)) (hp : pc + 1 = pc') (hz : x ^^^ y = z) (H : Go p e below s k n Q T (mkF m pc' Ls (.int z :: st))) : Go p e below s k n Q T (mkF m pc Ls (.int y :: .int x :: st)) := by
  subst hp hz
  exact H.via fun t q => XS.ixor X.here hx rfl hd rfl q
theorem g_ladd (pc' : Nat) (X : Stand p l e R s m args below meth c T locs cells slots) (hx : p.tables.exec = Jvm.exec) {x y z : Int64} (hd : decode c.code pc = .ok (.ladd, 1)) (hp : pc + 1 = pc') (hz : x + y = z) (H : Go p e below s k n Q T (mkF m pc' Ls (.long z :: st))) : Go p e below s k n Q T (mkF m pc Ls (.long y :: .long x :: st)) := by
  subst hp hz
  exact H.via fun t q => XS.ladd X.here hx rfl hd rfl q
theorem g_lsub (pc' : Nat) (X : Stand p l e R s m args below meth c T locs cells slots) (hx : p.tables.exec = Jvm.exec) {x y z : Int64} (hd : decode c.code pc = .ok (.lsub, 1)) (hp : pc + 1 = pc') (hz : x - y = z) (H : Go p e below s k n Q T (mkF m pc' Ls (.long z :: st))) : Go p e below s k n Q T (mkF m pc Ls (.long y :: .long x :: st)) := by
  subst hp hz
  exact H.via fun t q => XS.lsub X.here hx rfl hd rfl q
theorem g_lmul (pc' : Nat) (X : Stand p l e R s m args below meth c T locs cells slots) (hx : p.tables.exec = Jvm.exec) {x y z : Int64} (hd : decode c.code pc = .ok (.lmul, 1)) (hp : pc + 1 = pc') (hz : x * y = z) (H : Go p e below s k n Q T (mkF m pc' Ls (.long z :: st))) : Go p e below s k n Q T (mkF m pc Ls (.long y :: .long x :: st)) := by
  subst hp hz
  exact H.via fun t q => XS.lmul X.here hx rfl hd rfl q
theorem g_land (pc' : Nat) (X : Stand p l e R s m args below meth c T locs cells slots) (hx : p.tables.exec = Jvm.exec) {x y z : Int64} (hd : decode c.code pc = .ok (.land, 1)) (hp : pc + 1 = pc') (hz : x &&& y = z) (H : Go p e below s k n Q T (mkF m pc' Ls (.long z :: st))) : Go p e below s k n Q T (mkF m pc Ls (.long y :: .long x :: st)) := by
  subst hp hz
  exact H.via fun t q => XS.land X.here hx rfl hd rfl q
theorem g_lor (pc' : Nat) (X : Stand p l e R s m args below meth c T locs cells slots) (hx : p.tables.exec = Jvm.exec) {x y z : Int64} (hd : decode c.code pc = .ok (.lor, 1)) (hp : pc + 1 = pc') (hz : x ||| y = z) (H : Go p e below s k n Q T (mkF m pc' Ls (.long z :: st))) : Go p e below s k n Q T (mkF m pc Ls (.long y :: .long x :: st)) := by
  subst hp hz
  exact H.via fun t q => XS.lor X.here hx rfl hd rfl q
theorem g_lxor (pc' : Nat) (X : Stand p l e R s m args below meth c T locs cells slots) (hx : p.tables.exec = Jvm.exec) {x y z : Int64} (hd : decode c.code pc = .ok (.lxor, 1)) (hp : pc + 1 = pc') (hz : x ^^^ y = z) (H : Go p e below s k n Q T (mkF m pc' Ls (.long z :: st))) : Go p e below s k n Q T (mkF m pc Ls (.long y :: .long x :: st)) := by
  subst hp hz
  exact H.via fun t q => XS.lxor X.here hx rfl hd rfl q
theorem g_ishl (pc' : Nat) (X : Stand p l e R s m args below meth c T locs cells slots) (hx : p.tables.exec = Jvm.exec) {x y z : Int32} (hd : decode c.code pc = .ok (.ishl, 1)) (hp : pc + 1 = pc') (hz : x <<< (y &&& 31) = z) (H : Go p e below s k n Q T (mkF m pc' Ls (.int z :: st))) : Go p e below s k n Q T (mkF m pc Ls (.int y :: .int x :: st)) := by
  subst hp hz
  exact H.via fun t q => XS.ishl X.here hx rfl hd rfl q
theorem g_ishr (pc' : Nat) (X : Stand p l e R s m args below meth c T locs cells slots) (hx : p.tables.exec = Jvm.exec) {x y z : Int32} (hd : decode c.code pc = .ok (.ishr, 1)) (hp : pc + 1 = pc') (hz : x >>> (y &&& 31) = z) (H : Go p e below s k n Q T (mkF m pc' Ls (.int z :: st))) : Go p e below s k n Q T (mkF m pc Ls (.int y :: .int x :: st)) := by
  subst hp hz
  exact H.via fun t q => XS.ishr X.here hx rfl hd rfl q
theorem g_iushr (pc' : Nat) (X : Stand p l e R s m args below meth c T locs cells slots) (hx : p.tables.exec = Jvm.exec) {x y z : Int32} (hd : decode c.code pc = .ok (.iushr, 1)) (hp : pc + 1 = pc') (hz : (x.toUInt32 >>> (y &&& 31).toUInt32).toInt32 = z) (H : Go p e below s k n Q T (mkF m pc' Ls (.int z :: st))) : Go p e below s k n Q T (mkF m pc Ls (.int y :: .int x :: st)) := by
  subst hp hz
  exact H.via fun t q => XS.iushr X.here hx rfl hd rfl q
theorem g_lshl (pc' : Nat) (X : Stand p l e R s m args below meth c T locs cells slots) (hx : p.tables.exec = Jvm.exec) {x z : Int64} {y : Int32} (hd : decode c.code pc = .ok (.lshl, 1)) (hp : pc + 1 = pc') (hz : x <<< (y &&& 0x3f).toInt64 = z) (H : Go p e below s k n Q T (mkF m pc' Ls (.long z :: st))) : Go p e below s k n Q T (mkF m pc Ls (.int y :: .long x :: st)) := by
  subst hp hz
  exact H.via fun t q => XS.lshl X.here hx rfl hd rfl q
theorem g_lshr (pc' : Nat) (X : Stand p l e R s m args below meth c T locs cells slots) (hx : p.tables.exec = Jvm.exec) {x z : Int64} {y : Int32} (hd : decode c.code pc = .ok (.lshr, 1)) (hp : pc + 1 = pc') (hz : x >>> (y &&& 0x3f).toInt64 = z) (H : Go p e below s k n Q T (mkF m pc' Ls (.long z :: st))) : Go p e below s k n Q T (mkF m pc Ls (.int y :: .long x :: st)) := by
  subst hp hz
  exact H.via fun t q => XS.lshr X.here hx rfl hd rfl q
theorem g_lushr (pc' : Nat) (X : Stand p l e R s m args below meth c T locs cells slots) (hx : p.tables.exec = Jvm.exec) {x z : Int64} {y : Int32} (hd : decode c.code pc = .ok (.lushr, 1)) (hp : pc + 1 = pc') (hz : (x.toUInt64 >>> (y &&& 0x3f).toInt64.toUInt64).toInt64 = z) (H : Go p e below s k n Q T (mkF m pc' Ls (.long z :: st))) : Go p e below s k n Q T (mkF m pc Ls (.int y :: .long x :: st)) := by
  subst hp hz
  exact H.via fun t q => XS.lushr X.here hx rfl hd rfl q
theorem g_idiv (pc' : Nat) (X : Stand p l e R s m args below meth c T locs cells slots) (hx : p.tables.exec = Jvm.exec) {x y z : Int32} (hd : decode c.code pc = .ok (.idiv, 1)) (hp : pc + 1 = pc') (hy : y ≠ 0) (hz : x / y = z) (H : Go p e below s k n Q T (mkF m pc' Ls (.int z :: st))) : Go p e below s k n Q T (mkF m pc Ls (.int y :: .int x :: st)) := by
  subst hp hz
  exact H.via fun t q => XS.idiv X.here hx rfl hd rfl hy q
theorem g_irem (pc' : Nat) (X : Stand p l e R s m args below meth c T locs cells slots) (hx : p.tables.exec = Jvm.exec) {x y z : Int32} (hd : decode c.code pc = .ok (.irem, 1)) (hp : pc + 1 = pc') (hy : y ≠ 0) (hz : x % y = z) (H : Go p e below s k n Q T (mkF m pc' Ls (.int z :: st))) : Go p e below s k n Q T (mkF m pc Ls (.int y :: .int x :: st)) := by
  subst hp hz
  exact H.via fun t q => iremM X hx rfl hd rfl hy q
theorem g_ldiv (pc' : Nat) (X : Stand p l e R s m args below meth c T locs cells slots) (hx : p.tables.exec = Jvm.exec) {x y z : Int64} (hd : decode c.code pc = .ok (.ldiv, 1)) (hp : pc + 1 = pc') (hy : y ≠ 0) (hz : x / y = z) (H : Go p e below s k n Q T (mkF m pc' Ls (.long z :: st))) : Go p e below s k n Q T (mkF m pc Ls (.long y :: .long x :: st)) := by
  subst hp hz
  exact H.via fun t q => XS.ldiv X.here hx rfl hd rfl hy q
theorem g_lrem (pc' : Nat) (X : Stand p l e R s m args below meth c T locs cells slots) (hx : p.tables.exec = Jvm.exec) {x y z : Int64} (hd : decode c.code pc = .ok (.lrem, 1)) (hp : pc + 1 = pc') (hy : y ≠ 0) (hz : x % y = z) (H : Go p e below s k n Q T (mkF m pc' Ls (.long z :: st))) : Go p e below s k n Q T (mkF m pc Ls (.long y :: .long x :: st)) := by
  subst hp hz
  exact H.via fun t q => XS.lrem X.here hx rfl hd rfl hy (by rw [lrem_mod]; exact q)
theorem g_ineg (pc' : Nat) (X : Stand p l e R s m args below meth c T locs cells slots) (hx : p.tables.exec = Jvm.exec) {x : Int32} {z : Int32} (hd : decode c.code pc = .ok (.ineg, 1)) (hp : pc + 1 = pc') (hz : -x = z) (H : Go p e below s k n Q T (mkF m pc' Ls (.int z :: st))) : Go p e below s k n Q T (mkF m pc Ls (.int x :: st)) := by
  subst hp hz
  exact H.via fun t q => XS.ineg X.here hx rfl hd rfl q
theorem g_lneg (pc' : Nat) (X : Stand p l e R s m args below meth c T locs cells slots) (hx : p.tables.exec = Jvm.exec) {x : Int64} {z : Int64} (hd : decode c.code pc = .ok (.lneg, 1)) (hp : pc + 1 = pc') (hz : -x = z) (H : Go p e below s k n Q T (mkF m pc' Ls (.long z :: st))) : Go p e below s k n Q T (mkF m pc Ls (.long x :: st)) := by
  subst hp hz
  exact H.via fun t q => XS.lneg X.here hx rfl hd rfl q
theorem g_i2l (pc' : Nat) (X : Stand p l e R s m args below meth c T locs cells slots) (hx : p.tables.exec = Jvm.exec) {x : Int32} {z : Int64} (hd : decode c.code pc = .ok (.i2l, 1)) (hp : pc + 1 = pc') (hz : x.toInt64 = z) (H : Go p e below s k n Q T (mkF m pc' Ls (.long z :: st))) : Go p e below s k n Q T (mkF m pc Ls (.int x :: st)) := by
  subst hp hz
  exact H.via fun t q => XS.i2l X.here hx rfl hd rfl q
theorem g_l2i (pc' : Nat) (X : Stand p l e R s m args below meth c T locs cells slots) (hx : p.tables.exec = Jvm.exec) {x : Int64} {z : Int32} (hd : decode c.code pc = .ok (.l2i, 1)) (hp : pc + 1 = pc') (hz : x.toInt32 = z) (H : Go p e below s k n Q T (mkF m pc' Ls (.int z :: st))) : Go p e below s k n Q T (mkF m pc Ls (.long x :: st)) := by
  subst hp hz
  exact H.via fun t q => XS.l2i X.here hx rfl hd rfl q
theorem g_i2b (pc' : Nat) (X : Stand p l e R s m args below meth c T locs cells slots) (hx : p.tables.exec = Jvm.exec) {x : Int32} {z : Int32} (hd : decode c.code pc = .ok (.i2b, 1)) (hp : pc + 1 = pc') (hz : x.toInt8.toInt32 = z) (H : Go p e below s k n Q T (mkF m pc' Ls (.int z :: st))) : Go p e below s k n Q T (mkF m pc Ls (.int x :: st)) := by
  subst hp hz
  exact H.via fun t q => XS.i2b X.here hx rfl hd rfl q
theorem g_i2s (pc' : Nat) (X : Stand p l e R s m args below meth c T locs cells slots) (hx : p.tables.exec = Jvm.exec) {x : Int32} {z : Int32} (hd : decode c.code pc = .ok (.i2s, 1)) (hp : pc + 1 = pc') (hz : x.toInt16.toInt32 = z) (H : Go p e below s k n Q T (mkF m pc' Ls (.int z :: st))) : Go p e below s k n Q T (mkF m pc Ls (.int x :: st)) := by
  subst hp hz
  exact H.via fun t q => XS.i2s X.here hx rfl hd rfl q
theorem g_i2c (pc' : Nat) (X : Stand p l e R s m args below meth c T locs cells slots) (hx : p.tables.exec = Jvm.exec) {x : Int32} {z : Int32} (hd : decode c.code pc = .ok (.i2c, 1)) (hp : pc + 1 = pc') (hz : x.toUInt32.toUInt16.toUInt32.toInt32 = z) (H : Go p e below s k n Q T (mkF m pc' Ls (.int z :: st))) : Go p e below s k n Q T (mkF m pc Ls (.int x :: st)) := by
  subst hp hz
  exact H.via fun t q => XS.i2c X.here hx rfl hd rfl q
theorem g_dup (pc' : Nat) (X : Stand p l e R s m args below meth c T locs cells slots) (hx : p.tables.exec = Jvm.exec) {v : Value} (hd : decode c.code pc = .ok (.dup, 1)) (hp : pc + 1 = pc') (hv : v.category = 1) (H : Go p e below s k n Q T (mkF m pc' Ls (v :: v :: st))) : Go p e below s k n Q T (mkF m pc Ls (v :: st)) := by
  subst hp
  exact H.via fun t q => XS.dup X.here hx rfl hd rfl hv q
theorem g_pop (pc' : Nat) (X : Stand p l e R s m args below meth c T locs cells slots) (hx : p.tables.exec = Jvm.exec) {v : Value} (hd : decode c.code pc = .ok (.pop, 1)) (hp : pc + 1 = pc') (hv : v.category = 1) (H : Go p e below s k n Q T (mkF m pc' Ls st)) : Go p e below s k n Q T (mkF m pc Ls (v :: st)) := by
  subst hp
  exact H.via fun t q => XS.pop X.here hx rfl hd rfl hv q
theorem g_dup_x1 (pc' : Nat) (X : Stand p l e R s m args below meth c T locs cells slots) (hx : p.tables.exec = Jvm.exec) {v w : Value} (hd : decode c.code pc = .ok (.dup_x1, 1)) (hp : pc + 1 = pc') (hv : v.category = 1) (hw : w.category = 1) (H : Go p e below s k n Q T (mkF m pc' Ls (v :: w :: v :: st))) : Go p e below s k n Q T (mkF m pc Ls (v :: w :: st)) := by
  subst hp
  exact H.via fun t q => XS.dupX1 X.here hx rfl hd rfl hv hw q
theorem g_dup2 (pc' : Nat) (X : Stand p l e R s m args below meth c T locs cells slots) (hx : p.tables.exec = Jvm.exec) {v w : Value} (hd : decode c.code pc = .ok (.dup2, 1)) (hp : pc + 1 = pc') (hv : v.category = 1) (hw : w.category = 1) (H : Go p e below s k n Q T (mkF m pc' Ls (v :: w :: v :: w :: st))) : Go p e below s k n Q T (mkF m pc Ls (v :: w :: st)) := by
  subst hp
  exact H.via fun t q => XT.dup2 X.here hx rfl hd rfl hv hw q
theorem g_iinc (pc' : Nat) (X : Stand p l e R s m args below meth c T locs cells slots) (hx : p.tables.exec = Jvm.exec) {i : Nat} {cst : Int} {x z : Int32} {Ls' : Array Slot} (hd : decode c.code pc = .ok (.iinc i cst, 3)) (hp : pc + 3 = pc') (hl : Ls[i]? = some (.val (.int x))) (hz : x + Int32.ofInt cst = z) (hl' : storeLocals Ls i (.int z) = some Ls') (H : Go p e below s k n Q T (mkF m pc' Ls' st)) : Go p e below s k n Q T (mkF m pc Ls st) := by
  subst hp hz
  exact H.via fun t q => XS.iinc X.here hx rfl hd hl hl' q
theorem g_goto (pc' : Nat) (X : Stand p l e R s m args below meth c T locs cells slots) (hx : p.tables.exec = Jvm.exec) {o : Int} (hd : decode c.code pc = .ok (.goto o, 3)) (ho : 0 ≤ (pc : Int) + o) (hp : ((pc : Int) + o).toNat = pc') (H : Go p e below s k n Q T (mkF m pc' Ls st)) : Go p e below s k n Q T (mkF m pc Ls st) :=
  H.via fun t q => XS.goto X.here hx rfl rfl hd ho hp q
theorem g_ifYes (pc' : Nat) (X : Stand p l e R s m args below meth c T locs cells slots) (hx : p.tables.exec = Jvm.exec) {cd : ClassFile.Cond} {x : Int32} {o : Int} (hd : decode c.code pc = .ok (.ifCond cd o, 3)) (hc : ifCond.holds cd x = true) (ho : 0 ≤ (pc : Int) + o) (hp : ((pc : Int) + o).toNat = pc') (H : Go p e below s k n Q T (mkF m pc' Ls st)) : Go p e below s k n Q T (mkF m pc Ls (.int x :: st)) :=
  H.via fun t q => XS.ifYes X.here hx rfl rfl hd rfl hc ho hp q
theorem g_ifNo (pc' : Nat) (X : Stand p l e R s m args below meth c T locs cells slots) (hx : p.tables.exec = Jvm.exec) {cd : ClassFile.Cond} {x : Int32} {o : Int} (hd : decode c.code pc = .ok (.ifCond cd o, 3)) (hc : ifCond.holds cd x = false) (hp : pc + 3 = pc') (H : Go p e below s k n Q T (mkF m pc' Ls st)) : Go p e below s k n Q T (mkF m pc Ls (.int x :: st)) := by
  subst hp
  exact H.via fun t q => XS.ifNo X.here hx rfl hd rfl hc q
theorem g_icmpYes (pc' : Nat) (X : Stand p l e R s m args below meth c T locs cells slots) (hx : p.tables.exec = Jvm.exec) {cd : ClassFile.Cond} {x y : Int32} {o : Int} (hd : decode c.code pc = .ok (.if_icmp cd o, 3)) (hc : if_icmp.holds cd x y = true) (ho : 0 ≤ (pc : Int) + o) (hp : ((pc : Int) + o).toNat = pc') (H : Go p e below s k n Q T (mkF m pc' Ls st)) : Go p e below s k n Q T (mkF m pc Ls (.int y :: .int x :: st)) :=
  H.via fun t q => XS.icmpYes X.here hx rfl rfl hd rfl hc ho hp q
theorem g_icmpNo (pc' : Nat) (X : Stand p l e R s m args below meth c T locs cells slots) (hx : p.tables.exec = Jvm.exec) {cd : ClassFile.Cond} {x y : Int32} {o : Int} (hd : decode c.code pc = .ok (.if_icmp cd o, 3)) (hc : if_icmp.holds cd x y = false) (hp : pc + 3 = pc') (H : Go p e below s k n Q T (mkF m pc' Ls st)) : Go p e below s k n Q T (mkF m pc Ls (.int y :: .int x :: st)) := by
  subst hp
  exact H.via fun t q => XS.icmpNo X.here hx rfl hd rfl hc q
theorem g_lcmpYes (pc' : Nat) (X : Stand p l e R s m args below meth c T locs cells slots) (hx : p.tables.exec = Jvm.exec) {cd : ClassFile.Cond} {x y : Int64} {o : Int} {pc1 : Nat} (hd : decode c.code pc = .ok (.lcmp, 1)) (hp1 : pc + 1 = pc1) (hd' : decode c.code pc1 = .ok (.ifCond cd o, 3)) (hc : ifCond.holds cd (lcmpW x y) = true) (ho : 0 ≤ (pc1 : Int) + o) (hp : ((pc1 : Int) + o).toNat = pc') (H : Go p e below s k n Q T (mkF m pc' Ls st)) : Go p e below s k n Q T (mkF m pc Ls (.long y :: .long x :: st)) := by
  subst hp1
  exact H.via fun t q => XS.lcmp X.here hx rfl hd rfl (XS.ifYes X.here hx rfl rfl hd' rfl hc ho hp q)
theorem g_lcmpNo (pc' : Nat) (X : Stand p l e R s m args below meth c T locs cells slots) (hx : p.tables.exec = Jvm.exec) {cd : ClassFile.Cond} {x y : Int64} {o : Int} {pc1 : Nat} (hd : decode c.code pc = .ok (.lcmp, 1)) (hp1 : pc + 1 = pc1) (hd' : decode c.code pc1 = .ok (.ifCond cd o, 3)) (hc : ifCond.holds cd (lcmpW x y) = false) (hp : pc1 + 3 = pc') (H : Go p e below s k n Q T (mkF m pc' Ls st)) : Go p e below s k n Q T (mkF m pc Ls (.long y :: .long x :: st)) := by
  subst hp1; subst hp
  exact H.via fun t q => XS.lcmp X.here hx rfl hd rfl (XS.ifNo X.here hx rfl hd' rfl hc q)
theorem g_ifnullYes (pc' : Nat) (X : Stand p l e R s m args below meth c T locs cells slots) (hx : p.tables.exec = Jvm.exec) {b : Addr} {o : Int} (hd : decode c.code pc = .ok (.ifnull o, 3)) (ho : 0 ≤ (pc : Int) + o) (hp : ((pc : Int) + o).toNat = pc') (H : Go p e below s k n Q T (mkF m pc' Ls st)) : Go p e below s k n Q T (mkF m pc Ls (.null :: st)) :=
  H.via fun t q => XS.ifnullYes X.here hx rfl rfl hd rfl ho hp q
theorem g_ifnullNo (pc' : Nat) (X : Stand p l e R s m args below meth c T locs cells slots) (hx : p.tables.exec = Jvm.exec) {b : Addr} {o : Int} (hd : decode c.code pc = .ok (.ifnull o, 3)) (hp : pc + 3 = pc') (H : Go p e below s k n Q T (mkF m pc' Ls st)) : Go p e below s k n Q T (mkF m pc Ls (.ref b :: st)) := by
  subst hp
  exact H.via fun t q => XS.ifnullNo X.here hx rfl hd rfl q
theorem g_ifnonnullYes (pc' : Nat) (X : Stand p l e R s m args below meth c T locs cells slots) (hx : p.tables.exec = Jvm.exec) {b : Addr} {o : Int} (hd : decode c.code pc = .ok (.ifnonnull o, 3)) (ho : 0 ≤ (pc : Int) + o) (hp : ((pc : Int) + o).toNat = pc') (H : Go p e below s k n Q T (mkF m pc' Ls st)) : Go p e below s k n Q T (mkF m pc Ls (.ref b :: st)) :=
  H.via fun t q => XS.ifnonnullYes X.here hx rfl rfl hd rfl ho hp q
theorem g_ifnonnullNo (pc' : Nat) (X : Stand p l e R s m args below meth c T locs cells slots) (hx : p.tables.exec = Jvm.exec) {b : Addr} {o : Int} (hd : decode c.code pc = .ok (.ifnonnull o, 3)) (hp : pc + 3 = pc') (H : Go p e below s k n Q T (mkF m pc' Ls st)) : Go p e below s k n Q T (mkF m pc Ls (.null :: st)) := by
  subst hp
  exact H.via fun t q => XS.ifnonnullNo X.here hx rfl hd rfl q
theorem g_ldc (pc' : Nat) (X : Stand p l e R s m args below meth c T locs cells slots) (hx : p.tables.exec = Jvm.exec) (hZ : Z.Warmed39 s.vm) {own : String} {index : Nat} {z : Int32} (hown : s.vm.findClass own = some m.cls) (w : (Cond.constant own index z).before a0 Z = true) (hd : decode c.code pc = .ok (.ldc index, 2)) (hp : pc + 2 = pc') (H : Go p e below s k n Q T (mkF m pc' Ls (.int z :: st))) : Go p e below s k n Q T (mkF m pc Ls st) := by
  subst hp
  exact H.via fun t q => X.ldcInt hx hown (mvT hZ w) (g := mkF m pc Ls st) rfl hd t q
theorem g_ldc2 (pc' : Nat) (X : Stand p l e R s m args below meth c T locs cells slots) (hx : p.tables.exec = Jvm.exec) (hZ : Z.Warmed39 s.vm) {own : String} {index : Nat} {z : Int64} (hown : s.vm.findClass own = some m.cls) (w : (Cond.constantLong own index z).before a0 Z = true) (hd : decode c.code pc = .ok (.ldc2_w index, 3)) (hp : pc + 3 = pc') (H : Go p e below s k n Q T (mkF m pc' Ls (.long z :: st))) : Go p e below s k n Q T (mkF m pc Ls st) := by
  subst hp
  exact H.via fun t q => X.ldc2Long hx hown (mvT hZ w) (g := mkF m pc Ls st) rfl hd t q
theorem g_retI (X : Stand p l e R s m args below meth c T locs cells slots) (hx : p.tables.exec = Jvm.exec) (hret : meth.sig.returnType = some .int) (hlk : meth.locks = false) {z : Int32} (hd : decode c.code pc = .ok (.ireturn, 1)) (hk : cells ≤ k) (hn : slots ≤ n) (hQ : Q (some (.int z)) T.heap locs) : Go p e below s k n Q T (mkF m pc Ls (.int z :: st)) := by
  obtain ⟨fs, hr, hrun, hended, hW, hsame⟩ := X.leave (v := some (.int z)) (fun q => by rw [hret] at q; cases q) hlk
  exact ⟨_, _, retOut X hx hret rfl (Or.inl ⟨rfl, Or.inl rfl, z, rfl⟩) hd hr, hrun, hended, _, _, rfl, hQ, ⟨_, rfl⟩, hW, hsame.mono hk hn⟩
theorem g_retJ (X : Stand p l e R s m args below meth c T locs cells slots) (hx : p.tables.exec = Jvm.exec) (hret : meth.sig.returnType = some .long) (hlk : meth.locks = false) {z : Int64} (hd : decode c.code pc = .ok (.lreturn, 1)) (hk : cells ≤ k) (hn : slots ≤ n) (hQ : Q (some (.long z)) T.heap locs) : Go p e below s k n Q T (mkF m pc Ls (.long z :: st)) := by
  obtain ⟨fs, hr, hrun, hended, hW, hsame⟩ := X.leave (v := some (.long z)) (fun q => by rw [hret] at q; cases q) hlk
  exact ⟨_, _, retOut X hx hret rfl (Or.inr (Or.inl ⟨rfl, rfl, z, rfl⟩)) hd hr, hrun, hended, _, _, rfl, hQ, ⟨_, rfl⟩, hW, hsame.mono hk hn⟩
theorem g_retA {ty : FieldType} (X : Stand p l e R s m args below meth c T locs cells slots) (hx : p.tables.exec = Jvm.exec) (hret : meth.sig.returnType = some ty) (hlk : meth.locks = false) {v : Value} (hty : ty.isReference = true) (hv : v.isRef = true) (hnv : narrow ty v = v) (hd : decode c.code pc = .ok (.areturn, 1)) (hk : cells ≤ k) (hn : slots ≤ n) (hQ : Q (some v) T.heap locs) : Go p e below s k n Q T (mkF m pc Ls (v :: st)) := by
  obtain ⟨fs, hr, hrun, hended, hW, hsame⟩ := X.leave (v := some v) (fun q => by rw [hret] at q; cases q) hlk
  exact ⟨_, _, retOut X hx hret hnv (Or.inr (Or.inr (Or.inr (Or.inr ⟨rfl, hty, hv⟩)))) hd hr, hrun, hended, _, _, rfl, hQ, ⟨_, rfl⟩, hW, hsame.mono hk hn⟩
theorem g_ret0 (X : Stand p l e R s m args below meth c T locs cells slots) (hx : p.tables.exec = Jvm.exec) (hret : meth.sig.returnType = none) (hlk : meth.locks = false) (hd : decode c.code pc = .ok (.return_, 1)) (hk : cells ≤ k) (hn : slots ≤ n) (hQ : Q (none) T.heap locs) : Go p e below s k n Q T (mkF m pc Ls []) := by
  obtain ⟨fs, hr, hrun, hended, hW, hsame⟩ := X.leave (v := none) (fun _ => rfl) hlk
  exact ⟨_, _, X.returnOut hx hret hd hr, hrun, hended, _, _, rfl, hQ, ⟨_, rfl⟩, hW, hsame.mono hk hn⟩
theorem g_retN (X : Stand p l e R s m args below meth c T locs cells slots) (hx : p.tables.exec = Jvm.exec) {t : FieldType} (hret : meth.sig.returnType = some t) (hlk : meth.locks = false) {z z' : Int32} (ht : t = .boolean ∨ t = .byte ∨ t = .char ∨ t = .short) (hz : nar t z = z') (hd : decode c.code pc = .ok (.ireturn, 1)) (hk : cells ≤ k) (hn : slots ≤ n) (hQ : Q (some (.int z')) T.heap locs) : Go p e below s k n Q T (mkF m pc Ls (.int z :: st)) := by
  subst hz
  obtain ⟨fs, hr, hrun, hended, hW, hsame⟩ := X.leave (v := some (.int (nar t z))) (fun q => by rw [hret] at q; cases q) hlk
  exact ⟨_, _, retN X hx hret ht hd hr, hrun, hended, _, _, rfl, hQ, ⟨_, rfl⟩, hW, hsame.mono hk hn⟩
theorem g_getF (pc' : Nat) (X : Stand p l e R s m args below meth c T locs cells slots) (hx : p.tables.exec = Jvm.exec) (hZ : Z.Warmed39 s.vm) {own R0 O nm d : String} {index : Nat} (hown : s.vm.findClass own = some m.cls) (w : (Cond.fieldLink own index R0 nm d).before a0 Z = true) (via : Via Z R0 O nm d) (eT : T.heap = h) {a : Addr} {v : Value} (F : Fld Z h a O nm d v) (hd : decode c.code pc = .ok (.getfield index, 3)) (hp : pc + 3 = pc') (H : ∀ T', Stand p l e R s m args below meth c T' locs cells slots → T'.heap = h → Go p e below s k n Q T' (mkF m pc' Ls (v :: st))) : Go p e below s k n Q T (mkF m pc Ls (.ref a :: st)) := by
  subst hp
  obtain ⟨T', X', e', q⟩ := getF X hx hZ hown (host := "") (Or.inl w) via eT F (g := mkF m pc Ls (.ref a :: st)) rfl rfl hd
  exact (H T' X' e').via q
theorem g_putF (pc' : Nat) (X : Stand p l e R s m args below meth c T locs cells slots) (hx : p.tables.exec = Jvm.exec) (hZ : Z.Warmed39 s.vm) {own R0 O nm d C : String} {index kk : Nat} {ty : FieldType} (hown : s.vm.findClass own = some m.cls) (w : (Cond.fieldLink own index R0 nm d).before a0 Z = true) (via : Via Z R0 O nm d) (eT : T.heap = h) {a : Addr} {v old : Value} (F : Fld Z h a O nm d old) (E : Exa Z h a C) (L : (Cond.lays C O nm d).before a0 Z = true ∨ ((Cond.laysFinal C O nm d).before a0 Z = true ∧ own = O ∧ meth.name = "<init>")) (wi : (Cond.instantiable C kk).before a0 Z = true) (hty : parseFieldDescriptor d = some ty) (hn : narrow ty v = v) (hf : fits ty v = true) (hd : decode c.code pc = .ok (.putfield index, 3)) (hp : pc + 3 = pc') (H : ∀ T' h', Stand p l e R s m args below meth c T' (locs ++ [⟨a, Jvm.RoadKit.slotOf Z O nm d⟩]) cells slots → T'.heap = h' → Wr h h' a (Jvm.RoadKit.slotOf Z O nm d) v → Go p e below s k n Q T' (mkF m pc' Ls st)) : Go p e below s k n Q T (mkF m pc Ls (v :: .ref a :: st)) := by
  subst hp
  obtain ⟨T', h', X', e', W, q⟩ := putF X hx hZ hown (host := "") (Or.inl w) via eT F E L wi hty hn hf (g := mkF m pc Ls (v :: .ref a :: st)) rfl rfl hd
  exact (H T' h' X' e' W).via q
theorem g_newO (pc' : Nat) (X : Stand p l e R s m args below meth c T locs cells slots) (hx : p.tables.exec = Jvm.exec) (hZ : Z.Warmed39 s.vm) {own C : String} {index nn : Nat} (hown : s.vm.findClass own = some m.cls) (w : (Cond.classLink own index C).before a0 Z = true) (wi : (Cond.instantiable C nn).before a0 Z = true) (wz : (Cond.initialized C).before a0 Z = true) (eT : T.heap = h) (hd : decode c.code pc = .ok (.new index, 3)) (hc : cells + 1 ≤ R.cells) (hl : slots + nn ≤ R.slots) (hp : pc + 3 = pc') (H : ∀ T' h' b, Stand p l e R s m args below meth c T' locs (cells + 1) (slots + nn) → T'.heap = h' → Ext h h' → b = h.size → Exa Z h' b C → (∀ {O nm d : String} {ty : FieldType}, Laid Z a0 C O nm d → parseFieldDescriptor d = some ty → Fld Z h' b O nm d (defaultValue ty)) → Go p e below s k n Q T' (mkF m pc' Ls (.ref b :: st))) : Go p e below s k n Q T (mkF m pc Ls st) := by
  subst hp
  obtain ⟨T', h', X', e', E, A, D, -, q⟩ := newO X hx hZ hown w wi wz eT (g := mkF m pc Ls st) rfl hd hc hl
  exact (H T' h' _ X' e' E rfl A D).via q
theorem g_initO (pc' : Nat) (X : Stand p l e R s m args below meth c T locs cells slots) (hx : p.tables.exec = Jvm.exec) (hZ : Z.Warmed39 s.vm) {own : String} {idx : Nat} (hown : s.vm.findClass own = some m.cls) (w1 : (Cond.methodLink own idx Lib.objectInit).before a0 Z = true) (w2 : (Cond.instanceMethod Lib.objectInit).before a0 Z = true) (w3 : (Cond.code Lib.objectInit ⟨#[0xb1]⟩ 1 none).before a0 Z = true) (eT : T.heap = h) (hsize : Ls.size = c.maxLocals) {a : Addr} (hd : decode c.code pc = .ok (.invokespecial idx, 3)) (hf : 1 ≤ R.frames) (W : Nat) (hW : (st.map fun v => v.category).sum ≤ W) (hl : W + 12 ≤ R.locals) (hp : pc + 3 = pc') (H : ∀ T', Stand p l e R s m args below meth c T' locs cells slots → T'.heap = h → Go p e below s k n Q T' (mkF m pc' Ls st)) : Go p e below s k n Q T (mkF m pc Ls (.ref a :: st)) := by
  subst hp
  obtain ⟨T', X', e', q⟩ := initO X hx hZ hown w1 w2 w3 eT (g := mkF m pc Ls (.ref a :: st)) rfl hsize rfl hd hf (W := W) (by show 2 * 0 + _ ≤ _; omega) hl
  exact (H T' X' e').via q
theorem g_callS (pc' : Nat) (X : Stand p l e R s m args below meth c T locs cells slots) (hx : p.tables.exec = Jvm.exec) (hZ : Z.Warmed39 s.vm) {own : String} {index : Nat} {y : MethodName} {bytes : ByteArray} {maxL : Nat} {ret : Option FieldType} {rm : Room} {as' : Array Value} {Qc : Option Value → Heap → List Loc → Prop} (hown : s.vm.findClass own = some m.cls) (w1 : (Cond.methodLink own index y).before a0 Z = true) (w2 : (Cond.static y).before a0 Z = true) (w3 : (Cond.initialized y.cls).before a0 Z = true) (w4 : (Cond.code y bytes maxL ret).before a0 Z = true) (hy : y.cls ≠ "java/lang/invoke/MethodHandle" ∧ y.cls ≠ "java/lang/invoke/VarHandle") (eT : T.heap = h) (hM : MetFree l y (head1 [Cond.code y bytes maxL ret] rm) (fun a U => a = as' ∧ Z.Warmed39 U.vm ∧ U.heap = h) (fun _ _ _ _ _ => True) (fun _ U o U' => ∃ v L, o = .returned v ∧ Qc v U'.heap L ∧ FrameEnd U o U' L rm.cells rm.slots)) (hsize : Ls.size = c.maxLocals) (argsL rest : List Value) (ha : argsL.toArray = as') (hst : st = argsL.reverse ++ rest) (hlen : ∀ sig, parseMethodDescriptor y.desc = some sig → argsL.length = sig.parameters.length) (W : Nat) (hW : (rest.map fun v => v.category).sum ≤ W) (hd : decode c.code pc = .ok (.invokestatic index, 3)) (hfr : rm.frames + 1 ≤ R.frames) (hlo : W + (maxL + 11) + rm.locals ≤ R.locals) (hce : cells + rm.cells ≤ R.cells) (hsl : slots + rm.slots ≤ R.slots) (hp : pc + 3 = pc') (H : ∀ v T' L, Stand p l e R s m args below meth c T' (locs ++ L) (cells + rm.cells) (slots + rm.slots) → Qc v T'.heap L → Go p e below s k n Q T' (mkF m pc' Ls (v.toList ++ rest))) : Go p e below s k n Q T (mkF m pc Ls st) := by
  subst hp hst
  obtain ⟨v, _, ⟨T', L, k', n'⟩, -, X', ⟨Lc, hQ, l1, l2, l3⟩, q⟩ := Jvm.LawKit.callS X hx (y := y) hown (mvT hZ w1) (mvT hZ w2) (mvT hZ w3) (mvT hZ w4) hy (backOf (W := W) hM hZ w4 w3 hfr hlo) (g := mkF m pc Ls (argsL.reverse ++ rest)) rfl hsize (argsL := argsL) (rest := rest) hlen rfl (by show 2 * 0 + _ ≤ _; omega) hd (fun _ _ => ⟨ha, eT, hce, hsl⟩)
  dsimp only [Pt.U, Pt.locs, Pt.cells, Pt.slots] at X' l1 l2 l3 q hQ
  subst l1 l2 l3
  exact (H v T' Lc X' hQ).via q
theorem g_callI (pc' : Nat) (X : Stand p l e R s m args below meth c T locs cells slots) (hx : p.tables.exec = Jvm.exec) (hZ : Z.Warmed39 s.vm) {own : String} {index : Nat} {y : MethodName} {bytes : ByteArray} {maxL : Nat} {rm : Room} {as' : Array Value} {Qc : Option Value → Heap → List Loc → Prop} (hy1 : y.name = "<init>") (hown : s.vm.findClass own = some m.cls) (w1 : (Cond.methodLink own index y).before a0 Z = true) (w2 : (Cond.instanceMethod y).before a0 Z = true) (w3 : (Cond.initialized y.cls).before a0 Z = true) (w4 : (Cond.code y bytes maxL none).before a0 Z = true) (hy : y.cls ≠ "java/lang/invoke/MethodHandle" ∧ y.cls ≠ "java/lang/invoke/VarHandle") (eT : T.heap = h) (hM : MetFree l y (head1 [Cond.code y bytes maxL none] rm) (fun a U => a = as' ∧ Z.Warmed39 U.vm ∧ U.heap = h) (fun _ _ _ _ _ => True) (fun _ U o U' => ∃ v L, o = .returned v ∧ Qc v U'.heap L ∧ FrameEnd U o U' L rm.cells rm.slots)) (hsize : Ls.size = c.maxLocals) (a : Addr) (argsL rest : List Value) (ha : (.ref a :: argsL).toArray = as') (hst : st = argsL.reverse ++ .ref a :: rest) (hlen : ∀ sig, parseMethodDescriptor y.desc = some sig → argsL.length = sig.parameters.length) (W : Nat) (hW : (rest.map fun v => v.category).sum ≤ W) (hd : decode c.code pc = .ok (.invokespecial index, 3)) (hfr : rm.frames + 1 ≤ R.frames) (hlo : W + (maxL + 11) + rm.locals ≤ R.locals) (hce : cells + rm.cells ≤ R.cells) (hsl : slots + rm.slots ≤ R.slots) (hp : pc + 3 = pc') (H : ∀ v T' L, Stand p l e R s m args below meth c T' (locs ++ L) (cells + rm.cells) (slots + rm.slots) → Qc v T'.heap L → Go p e below s k n Q T' (mkF m pc' Ls (v.toList ++ rest))) : Go p e below s k n Q T (mkF m pc Ls st) := by
  subst hp hst
  obtain ⟨v, _, ⟨T', L, k', n'⟩, -, X', ⟨Lc, hQ, l1, l2, l3⟩, q⟩ := X.specialBack hx (y := y) hy1 hown (mvT hZ w1) (mvT hZ w2) (mvT hZ w4) hy (backOf (W := W) hM hZ w4 w3 hfr hlo) (g := mkF m pc Ls (argsL.reverse ++ .ref a :: rest)) rfl hsize (Steps.refl _) (a := a) (argsL := argsL) (rest := rest) hlen rfl (by show 2 * 0 + _ ≤ _; omega) hd (fun _ _ => ⟨ha, eT, hce, hsl⟩)
  dsimp only [Pt.U, Pt.locs, Pt.cells, Pt.slots] at X' l1 l2 l3 q hQ
  subst l1 l2 l3
  exact (H v T' Lc X' hQ).via fun t r => q.trans r
theorem g_callV (pc' : Nat) (X : Stand p l e R s m args below meth c T locs cells slots) (hx : p.tables.exec = Jvm.exec) (hZ : Z.Warmed39 s.vm) {own : String} {index : Nat} {y : MethodName} {bytes : ByteArray} {maxL : Nat} {ret : Option FieldType} {rm : Room} {as' : Array Value} {Qc : Option Value → Heap → List Loc → Prop} (hown : s.vm.findClass own = some m.cls) (w1 : (Cond.methodLink own index y).before a0 Z = true) (w2 : (Cond.declares y).before a0 Z = true) (w5 : (Cond.selects y.cls y y).before a0 Z = true) (w6 : (Cond.instanceMethod y).before a0 Z = true) (w3 : (Cond.initialized y.cls).before a0 Z = true) (w4 : (Cond.code y bytes maxL ret).before a0 Z = true) (hy : y.cls ≠ "java/lang/invoke/MethodHandle" ∧ y.cls ≠ "java/lang/invoke/VarHandle") (eT : T.heap = h) {a : Addr} (E : Exa Z h a y.cls) (hM : MetFree l y (head1 [Cond.code y bytes maxL ret] rm) (fun a U => a = as' ∧ Z.Warmed39 U.vm ∧ U.heap = h) (fun _ _ _ _ _ => True) (fun _ U o U' => ∃ v L, o = .returned v ∧ Qc v U'.heap L ∧ FrameEnd U o U' L rm.cells rm.slots)) (hsize : Ls.size = c.maxLocals) (argsL rest : List Value) (ha : (.ref a :: argsL).toArray = as') (hst : st = argsL.reverse ++ .ref a :: rest) (hlen : ∀ sig, parseMethodDescriptor y.desc = some sig → argsL.length = sig.parameters.length) (W : Nat) (hW : (rest.map fun v => v.category).sum ≤ W) (hd : decode c.code pc = .ok (.invokevirtual index, 3)) (hfr : rm.frames + 1 ≤ R.frames) (hlo : W + (maxL + 11) + rm.locals ≤ R.locals) (hce : cells + rm.cells ≤ R.cells) (hsl : slots + rm.slots ≤ R.slots) (hp : pc + 3 = pc') (H : ∀ v T' L, Stand p l e R s m args below meth c T' (locs ++ L) (cells + rm.cells) (slots + rm.slots) → Qc v T'.heap L → Go p e below s k n Q T' (mkF m pc' Ls (v.toList ++ rest))) : Go p e below s k n Q T (mkF m pc Ls st) := by
  subst hp hst
  obtain ⟨cq, kq, qa, qb, qc⟩ := isOf hZ eT E
  obtain ⟨v, _, ⟨T', L, k', n'⟩, -, X', ⟨Lc, hQ, l1, l2, l3⟩, q⟩ := X.virtualBack hx (y := y) (z := y) hown (mvT hZ w1) (mvT hZ w2) (notFace_of_selects (args := #[]) (mvT hZ w5)) (mvT hZ w5) (mvT hZ w6) hy (backOf (W := W) hM hZ w4 w3 hfr hlo) qa qc (g := mkF m pc Ls (argsL.reverse ++ .ref a :: rest)) rfl hsize (Steps.refl _) (argsL := argsL) (rest := rest) hlen rfl (by show 2 * 0 + _ ≤ _; omega) hd (fun _ _ => ⟨ha, eT, hce, hsl⟩)
  dsimp only [Pt.U, Pt.locs, Pt.cells, Pt.slots] at X' l1 l2 l3 q hQ
  subst l1 l2 l3
  exact (H v T' Lc X' hQ).via fun t r => q.trans r
end OwnKit
theorem own_lrem (x y : Int64) (d : Int) (hy : y.toInt = d) : (0 ≤ x.toInt → (x % y).toInt = x.toInt % d) ∧ (x.toInt < 0 → (x % y).toInt = -((-x.toInt) % d)) := by
  rw [Int64.toInt_mod, hy]; exact tr _ _
theorem own_lremV (x y : Int64) : 0 ≤ x.toInt → 0 < y.toInt → 0 ≤ (x % y).toInt ∧ (x % y).toInt < y.toInt ∧ (x % y).toInt ≤ x.toInt := by
  intro h1 h2
  rw [Int64.toInt_mod, Int.tmod_eq_emod_of_nonneg h1]
  have a := Int.emod_nonneg x.toInt (by omega : y.toInt ≠ 0)
  have b := Int.emod_lt_of_pos x.toInt h2
  refine ⟨a, b, ?_⟩
  by_cases c : x.toInt < y.toInt
  · rw [Int.emod_eq_of_lt h1 c]; exact Int.le_refl _
  · omega
theorem own_prod {a b A B : Int} (h1 : 0 ≤ a) (h2 : a ≤ A) (h3 : 0 ≤ b) (h4 : b ≤ B) : 0 ≤ a * b ∧ a * b ≤ A * B :=
  ⟨Int.mul_nonneg h1 h3, Int.mul_le_mul h2 h4 h3 (Int.le_trans h1 h2)⟩

theorem d1_0 : decode jdk_29_method_66_code 0 = .ok (.lload_n 0, 1) := by decide +kernel
theorem d1_1 : decode jdk_29_method_66_code 1 = .ok (.lload_n 2, 1) := by decide +kernel
theorem d1_2 : decode jdk_29_method_66_code 2 = .ok (.lcmp, 1) := by decide +kernel
theorem d1_3 : decode jdk_29_method_66_code 3 = .ok (.ifCond .lt 7, 3) := by decide +kernel
theorem d1_6 : decode jdk_29_method_66_code 6 = .ok (.lload_n 0, 1) := by decide +kernel
theorem d1_7 : decode jdk_29_method_66_code 7 = .ok (.goto 4, 3) := by decide +kernel
theorem d1_10 : decode jdk_29_method_66_code 10 = .ok (.lload_n 2, 1) := by decide +kernel
theorem d1_11 : decode jdk_29_method_66_code 11 = .ok (.lreturn, 1) := by decide +kernel
def Rel1 (q1 : Int64) (q2 : Int64) (r : Int64) : Prop := (q1 < q2 ∧ r = q2) ∨ (¬ (q1 < q2) ∧ r = q1)
def Q1 (Z : State) (q1 : Int64) (q2 : Int64) (h0 : Heap) (n0 : Nat) (v : Option Value) (h : Heap) (L : List Loc) : Prop := ∃ r : Int64, v = some (.long r) ∧ Rel1 q1 q2 r ∧ Fr n0 L ∧ h = h0
theorem ef_rm1 (m : MethodId) (q1 : Int64) (q2 : Int64) : entryFrame m #[(.long q1), (.long q2)] 4 = mkF m 0 #[.val (.long q1), .second, .val (.long q2), .second] [] := by first | (simp [entryFrame, mkF, argsToLocals, Value.category]; done) | rfl
set_option maxRecDepth 65536 in
set_option maxHeartbeats 40000000 in
theorem rm1 (l : Launch) (Z : State) (a0 : Array Value) (hw : ∀ d ∈ tables_1, d.before a0 Z = true) (ws : List Jvm.Cond) (q1 : Int64) (q2 : Int64) (h0 : Heap) (n0 : Nat) (Z0 : n0 ≤ h0.size)  :
    MetFree l (⟨"java/lang/Math", "max", "(JJ)J"⟩ : MethodName) (head1 (Jvm.Cond.code (⟨"java/lang/Math", "max", "(JJ)J"⟩ : MethodName) jdk_29_method_66_code 4 (some .long) :: ws) ({ frames := 0, cells := 0, slots := 0, locals := 0 } : Room)) (fun a U => a = #[(.long q1), (.long q2)] ∧ Z.Warmed39 U.vm ∧ U.heap = h0) (fun _ _ _ _ _ => True) (fun _ U o U' => ∃ v L, o = .returned v ∧ (Q1 Z q1 q2 h0 n0) v U'.heap L ∧ FrameEnd U o U' L ({ frames := 0, cells := 0, slots := 0, locals := 0 } : Room).cells ({ frames := 0, cells := 0, slots := 0, locals := 0 } : Room).slots) := by
  refine MetFree.of_bodySF (Jvm.Free.JP.mathPlain rfl (by decide +kernel)) hisR ?_
  intro p e s m args below meth c s₁ Bd hml0 hP hK
  obtain ⟨rfl, hZ, hh⟩ := hP
  have hx := Bd.exec
  have hby := Bd.bytes
  have hml : c.maxLocals = 4 := hml0
  have hown : s.vm.findClass "java/lang/Math" = some m.cls := findClass_of_methodNamed Bd.named
  have hnm := (name_of_methodNamed Bd.named Bd.method).1
  have hlk : meth.locks = false := BodyLoose.notSynchronized Bd
  have X0 : Stand p l e ({ frames := 0, cells := 0, slots := 0, locals := 0 } : Room) s m #[(.long q1), (.long q2)] below meth c s₁ [] 0 0 := Stand.of_body Bd
  have e0 : s₁.heap = h0 := by rw [← hh, Bd.state]; rfl
  have N0 := Fr.nil n0
  show Go p e below s ({ frames := 0, cells := 0, slots := 0, locals := 0 } : Room).cells ({ frames := 0, cells := 0, slots := 0, locals := 0 } : Room).slots (Q1 Z q1 q2 h0 n0) s₁ (entryFrame m #[(.long q1), (.long q2)] 4)
  rw [ef_rm1 m q1 q2]
  refine g_lloadN 1 X0 hx (hb hby d1_0) rfl (v := q1) rfl ?_
  refine g_lloadN 2 X0 hx (hb hby d1_1) rfl (v := q2) rfl ?_
  by_cases hc2_0 : q1 < q2
  ·
    refine g_lcmpYes 10 X0 hx (hb hby d1_2) rfl (hb hby d1_3) (tltL hc2_0).1 (by decide) (by decide) ?_
    refine g_lloadN 11 X0 hx (hb hby d1_10) rfl (v := q2) rfl ?_
    exact g_retJ X0 hx Bd.returns hlk (hb hby d1_11) (by decide) (by decide) ⟨q2, rfl, (Or.inl ⟨hc2_0, rfl⟩), N0, e0⟩
  ·
    refine g_lcmpNo 6 X0 hx (hb hby d1_2) rfl (hb hby d1_3) (fltL hc2_0).1 rfl ?_
    refine g_lloadN 7 X0 hx (hb hby d1_6) rfl (v := q1) rfl ?_
    refine g_goto 11 X0 hx (hb hby d1_7) (by decide) (by decide) ?_
    exact g_retJ X0 hx Bd.returns hlk (hb hby d1_11) (by decide) (by decide) ⟨q1, rfl, (Or.inr ⟨hc2_0, rfl⟩), N0, e0⟩
theorem pn_0 : plainName "com/example/utility_meter_billing/utilitymeterbilling/rules/ReadingInterval" = true := by first | (simp [plainName, overriddenIn]; done) | decide +kernel
theorem d2_0 : decode prog_115_method_4_code 0 = .ok (.lload_n 0, 1) := by decide +kernel
theorem d2_1 : decode prog_115_method_4_code 1 = .ok (.ldc2_w 29, 3) := by decide +kernel
theorem d2_4 : decode prog_115_method_4_code 4 = .ok (.ladd, 1) := by decide +kernel
theorem d2_5 : decode prog_115_method_4_code 5 = .ok (.ldc2_w 31, 3) := by decide +kernel
theorem d2_8 : decode prog_115_method_4_code 8 = .ok (.ldiv, 1) := by decide +kernel
theorem d2_9 : decode prog_115_method_4_code 9 = .ok (.lstore 4, 2) := by decide +kernel
theorem d2_11 : decode prog_115_method_4_code 11 = .ok (.lconst 0, 1) := by decide +kernel
theorem d2_12 : decode prog_115_method_4_code 12 = .ok (.lstore 6, 2) := by decide +kernel
theorem d2_14 : decode prog_115_method_4_code 14 = .ok (.lload_n 0, 1) := by decide +kernel
theorem d2_15 : decode prog_115_method_4_code 15 = .ok (.ldc2_w 29, 3) := by decide +kernel
theorem d2_18 : decode prog_115_method_4_code 18 = .ok (.lcmp, 1) := by decide +kernel
theorem d2_19 : decode prog_115_method_4_code 19 = .ok (.ifCond .lt 17, 3) := by decide +kernel
theorem d2_22 : decode prog_115_method_4_code 22 = .ok (.lload_n 0, 1) := by decide +kernel
theorem d2_23 : decode prog_115_method_4_code 23 = .ok (.ldc2_w 33, 3) := by decide +kernel
theorem d2_26 : decode prog_115_method_4_code 26 = .ok (.lcmp, 1) := by decide +kernel
theorem d2_27 : decode prog_115_method_4_code 27 = .ok (.ifCond .gt 9, 3) := by decide +kernel
theorem d2_30 : decode prog_115_method_4_code 30 = .ok (.lconst 1, 1) := by decide +kernel
theorem d2_31 : decode prog_115_method_4_code 31 = .ok (.lstore 6, 2) := by decide +kernel
theorem d2_33 : decode prog_115_method_4_code 33 = .ok (.goto 22, 3) := by decide +kernel
theorem d2_36 : decode prog_115_method_4_code 36 = .ok (.lload_n 0, 1) := by decide +kernel
theorem d2_37 : decode prog_115_method_4_code 37 = .ok (.ldc2_w 33, 3) := by decide +kernel
theorem d2_40 : decode prog_115_method_4_code 40 = .ok (.lcmp, 1) := by decide +kernel
theorem d2_41 : decode prog_115_method_4_code 41 = .ok (.ifCond .le 14, 3) := by decide +kernel
theorem d2_44 : decode prog_115_method_4_code 44 = .ok (.lload 4, 2) := by decide +kernel
theorem d2_46 : decode prog_115_method_4_code 46 = .ok (.lload_n 2, 1) := by decide +kernel
theorem d2_47 : decode prog_115_method_4_code 47 = .ok (.lcmp, 1) := by decide +kernel
theorem d2_48 : decode prog_115_method_4_code 48 = .ok (.ifCond .gt 7, 3) := by decide +kernel
theorem d2_51 : decode prog_115_method_4_code 51 = .ok (.lload 4, 2) := by decide +kernel
theorem d2_53 : decode prog_115_method_4_code 53 = .ok (.lstore 6, 2) := by decide +kernel
theorem d2_55 : decode prog_115_method_4_code 55 = .ok (.lload 6, 2) := by decide +kernel
theorem d2_57 : decode prog_115_method_4_code 57 = .ok (.lreturn, 1) := by decide +kernel
def Rel2 (q1 : Int64) (q2 : Int64) (r : Int64) : Prop := (q1 < (15 : Int64) ∧ (47 : Int64) < q1 ∧ q2 < ((q1 + (15 : Int64)) / (30 : Int64)) ∧ r = (0 : Int64)) ∨ (q1 < (15 : Int64) ∧ (47 : Int64) < q1 ∧ ¬ (q2 < ((q1 + (15 : Int64)) / (30 : Int64))) ∧ r = ((q1 + (15 : Int64)) / (30 : Int64))) ∨ (q1 < (15 : Int64) ∧ ¬ ((47 : Int64) < q1) ∧ r = (0 : Int64)) ∨ (¬ (q1 < (15 : Int64)) ∧ (47 : Int64) < q1 ∧ (47 : Int64) < q1 ∧ q2 < ((q1 + (15 : Int64)) / (30 : Int64)) ∧ r = (0 : Int64)) ∨ (¬ (q1 < (15 : Int64)) ∧ (47 : Int64) < q1 ∧ (47 : Int64) < q1 ∧ ¬ (q2 < ((q1 + (15 : Int64)) / (30 : Int64))) ∧ r = ((q1 + (15 : Int64)) / (30 : Int64))) ∨ (¬ (q1 < (15 : Int64)) ∧ (47 : Int64) < q1 ∧ ¬ ((47 : Int64) < q1) ∧ r = (0 : Int64)) ∨ (¬ (q1 < (15 : Int64)) ∧ ¬ ((47 : Int64) < q1) ∧ r = (1 : Int64))
def Q2 (Z : State) (q1 : Int64) (q2 : Int64) (h0 : Heap) (n0 : Nat) (v : Option Value) (h : Heap) (L : List Loc) : Prop := ∃ r : Int64, v = some (.long r) ∧ Rel2 q1 q2 r ∧ Fr n0 L ∧ h = h0
theorem ef_rm2 (m : MethodId) (q1 : Int64) (q2 : Int64) : entryFrame m #[(.long q1), (.long q2)] 8 = mkF m 0 #[.val (.long q1), .second, .val (.long q2), .second, .unset, .unset, .unset, .unset] [] := by first | (simp [entryFrame, mkF, argsToLocals, Value.category]; done) | rfl
set_option maxRecDepth 65536 in
set_option maxHeartbeats 40000000 in
theorem rm2 (l : Launch) (Z : State) (a0 : Array Value) (hw : ∀ d ∈ tables_1, d.before a0 Z = true) (ws : List Jvm.Cond) (q1 : Int64) (q2 : Int64) (h0 : Heap) (n0 : Nat) (Z0 : n0 ≤ h0.size)  :
    MetFree l (⟨"com/example/utility_meter_billing/utilitymeterbilling/rules/ReadingInterval", "cycles", "(JJ)J"⟩ : MethodName) (head1 (Jvm.Cond.code (⟨"com/example/utility_meter_billing/utilitymeterbilling/rules/ReadingInterval", "cycles", "(JJ)J"⟩ : MethodName) prog_115_method_4_code 8 (some .long) :: ws) ({ frames := 0, cells := 0, slots := 0, locals := 0 } : Room)) (fun a U => a = #[(.long q1), (.long q2)] ∧ Z.Warmed39 U.vm ∧ U.heap = h0) (fun _ _ _ _ _ => True) (fun _ U o U' => ∃ v L, o = .returned v ∧ (Q2 Z q1 q2 h0 n0) v U'.heap L ∧ FrameEnd U o U' L ({ frames := 0, cells := 0, slots := 0, locals := 0 } : Room).cells ({ frames := 0, cells := 0, slots := 0, locals := 0 } : Room).slots) := by
  refine MetFree.of_bodySF (plainFor_of_name pn_0) hisR ?_
  intro p e s m args below meth c s₁ Bd hml0 hP hK
  obtain ⟨rfl, hZ, hh⟩ := hP
  have hx := Bd.exec
  have hby := Bd.bytes
  have hml : c.maxLocals = 8 := hml0
  have hown : s.vm.findClass "com/example/utility_meter_billing/utilitymeterbilling/rules/ReadingInterval" = some m.cls := findClass_of_methodNamed Bd.named
  have hnm := (name_of_methodNamed Bd.named Bd.method).1
  have hlk : meth.locks = false := BodyLoose.notSynchronized Bd
  have X0 : Stand p l e ({ frames := 0, cells := 0, slots := 0, locals := 0 } : Room) s m #[(.long q1), (.long q2)] below meth c s₁ [] 0 0 := Stand.of_body Bd
  have e0 : s₁.heap = h0 := by rw [← hh, Bd.state]; rfl
  have N0 := Fr.nil n0
  show Go p e below s ({ frames := 0, cells := 0, slots := 0, locals := 0 } : Room).cells ({ frames := 0, cells := 0, slots := 0, locals := 0 } : Room).slots (Q2 Z q1 q2 h0 n0) s₁ (entryFrame m #[(.long q1), (.long q2)] 8)
  rw [ef_rm2 m q1 q2]
  refine g_lloadN 1 X0 hx (hb hby d2_0) rfl (v := q1) rfl ?_
  refine g_ldc2 4 X0 hx hZ hown (hw _ (List.mem_of_getElem? (i := 10) rfl)) (hb hby d2_1) rfl ?_
  refine g_ladd 5 X0 hx (hb hby d2_4) rfl (z := (q1 + (15 : Int64))) rfl ?_
  refine g_ldc2 8 X0 hx hZ hown (hw _ (List.mem_of_getElem? (i := 11) rfl)) (hb hby d2_5) rfl ?_
  refine g_ldiv 9 X0 hx (hb hby d2_8) rfl (by decide) (z := ((q1 + (15 : Int64)) / (30 : Int64))) rfl ?_
  refine g_lstore 11 X0 hx (hb hby d2_9) rfl (Ls' := #[.val (.long q1), .second, .val (.long q2), .second, .val (.long ((q1 + (15 : Int64)) / (30 : Int64))), .second, .unset, .unset]) rfl ?_
  refine g_lconst 12 X0 hx (hb hby d2_11) rfl (z := (0 : Int64)) rfl ?_
  refine g_lstore 14 X0 hx (hb hby d2_12) rfl (Ls' := #[.val (.long q1), .second, .val (.long q2), .second, .val (.long ((q1 + (15 : Int64)) / (30 : Int64))), .second, .val (.long (0 : Int64)), .second]) rfl ?_
  refine g_lloadN 15 X0 hx (hb hby d2_14) rfl (v := q1) rfl ?_
  refine g_ldc2 18 X0 hx hZ hown (hw _ (List.mem_of_getElem? (i := 10) rfl)) (hb hby d2_15) rfl ?_
  by_cases hc18_0 : q1 < (15 : Int64)
  ·
    refine g_lcmpYes 36 X0 hx (hb hby d2_18) rfl (hb hby d2_19) (tltL hc18_0).1 (by decide) (by decide) ?_
    refine g_lloadN 37 X0 hx (hb hby d2_36) rfl (v := q1) rfl ?_
    refine g_ldc2 40 X0 hx hZ hown (hw _ (List.mem_of_getElem? (i := 12) rfl)) (hb hby d2_37) rfl ?_
    by_cases hc40_1 : (47 : Int64) < q1
    ·
      refine g_lcmpNo 44 X0 hx (hb hby d2_40) rfl (hb hby d2_41) (tltL hc40_1).2.2.2 rfl ?_
      refine g_lload 46 X0 hx (hb hby d2_44) rfl (v := ((q1 + (15 : Int64)) / (30 : Int64))) rfl ?_
      refine g_lloadN 47 X0 hx (hb hby d2_46) rfl (v := q2) rfl ?_
      by_cases hc47_2 : q2 < ((q1 + (15 : Int64)) / (30 : Int64))
      ·
        refine g_lcmpYes 55 X0 hx (hb hby d2_47) rfl (hb hby d2_48) (tltL hc47_2).2.2.1 (by decide) (by decide) ?_
        refine g_lload 57 X0 hx (hb hby d2_55) rfl (v := (0 : Int64)) rfl ?_
        exact g_retJ X0 hx Bd.returns hlk (hb hby d2_57) (by decide) (by decide) ⟨(0 : Int64), rfl, (Or.inl ⟨hc18_0, hc40_1, hc47_2, rfl⟩), N0, e0⟩
      ·
        refine g_lcmpNo 51 X0 hx (hb hby d2_47) rfl (hb hby d2_48) (fltL hc47_2).2.2.1 rfl ?_
        refine g_lload 53 X0 hx (hb hby d2_51) rfl (v := ((q1 + (15 : Int64)) / (30 : Int64))) rfl ?_
        refine g_lstore 55 X0 hx (hb hby d2_53) rfl (Ls' := #[.val (.long q1), .second, .val (.long q2), .second, .val (.long ((q1 + (15 : Int64)) / (30 : Int64))), .second, .val (.long ((q1 + (15 : Int64)) / (30 : Int64))), .second]) rfl ?_
        refine g_lload 57 X0 hx (hb hby d2_55) rfl (v := ((q1 + (15 : Int64)) / (30 : Int64))) rfl ?_
        exact g_retJ X0 hx Bd.returns hlk (hb hby d2_57) (by decide) (by decide) ⟨((q1 + (15 : Int64)) / (30 : Int64)), rfl, (Or.inr (Or.inl ⟨hc18_0, hc40_1, hc47_2, rfl⟩)), N0, e0⟩
    ·
      refine g_lcmpYes 55 X0 hx (hb hby d2_40) rfl (hb hby d2_41) (fltL hc40_1).2.2.2 (by decide) (by decide) ?_
      refine g_lload 57 X0 hx (hb hby d2_55) rfl (v := (0 : Int64)) rfl ?_
      exact g_retJ X0 hx Bd.returns hlk (hb hby d2_57) (by decide) (by decide) ⟨(0 : Int64), rfl, (Or.inr (Or.inr (Or.inl ⟨hc18_0, hc40_1, rfl⟩))), N0, e0⟩
  ·
    refine g_lcmpNo 22 X0 hx (hb hby d2_18) rfl (hb hby d2_19) (fltL hc18_0).1 rfl ?_
    refine g_lloadN 23 X0 hx (hb hby d2_22) rfl (v := q1) rfl ?_
    refine g_ldc2 26 X0 hx hZ hown (hw _ (List.mem_of_getElem? (i := 12) rfl)) (hb hby d2_23) rfl ?_
    by_cases hc26_3 : (47 : Int64) < q1
    ·
      refine g_lcmpYes 36 X0 hx (hb hby d2_26) rfl (hb hby d2_27) (tltL hc26_3).2.2.1 (by decide) (by decide) ?_
      refine g_lloadN 37 X0 hx (hb hby d2_36) rfl (v := q1) rfl ?_
      refine g_ldc2 40 X0 hx hZ hown (hw _ (List.mem_of_getElem? (i := 12) rfl)) (hb hby d2_37) rfl ?_
      by_cases hc40_4 : (47 : Int64) < q1
      ·
        refine g_lcmpNo 44 X0 hx (hb hby d2_40) rfl (hb hby d2_41) (tltL hc40_4).2.2.2 rfl ?_
        refine g_lload 46 X0 hx (hb hby d2_44) rfl (v := ((q1 + (15 : Int64)) / (30 : Int64))) rfl ?_
        refine g_lloadN 47 X0 hx (hb hby d2_46) rfl (v := q2) rfl ?_
        by_cases hc47_5 : q2 < ((q1 + (15 : Int64)) / (30 : Int64))
        ·
          refine g_lcmpYes 55 X0 hx (hb hby d2_47) rfl (hb hby d2_48) (tltL hc47_5).2.2.1 (by decide) (by decide) ?_
          refine g_lload 57 X0 hx (hb hby d2_55) rfl (v := (0 : Int64)) rfl ?_
          exact g_retJ X0 hx Bd.returns hlk (hb hby d2_57) (by decide) (by decide) ⟨(0 : Int64), rfl, (Or.inr (Or.inr (Or.inr (Or.inl ⟨hc18_0, hc26_3, hc40_4, hc47_5, rfl⟩)))), N0, e0⟩
        ·
          refine g_lcmpNo 51 X0 hx (hb hby d2_47) rfl (hb hby d2_48) (fltL hc47_5).2.2.1 rfl ?_
          refine g_lload 53 X0 hx (hb hby d2_51) rfl (v := ((q1 + (15 : Int64)) / (30 : Int64))) rfl ?_
          refine g_lstore 55 X0 hx (hb hby d2_53) rfl (Ls' := #[.val (.long q1), .second, .val (.long q2), .second, .val (.long ((q1 + (15 : Int64)) / (30 : Int64))), .second, .val (.long ((q1 + (15 : Int64)) / (30 : Int64))), .second]) rfl ?_
          refine g_lload 57 X0 hx (hb hby d2_55) rfl (v := ((q1 + (15 : Int64)) / (30 : Int64))) rfl ?_
          exact g_retJ X0 hx Bd.returns hlk (hb hby d2_57) (by decide) (by decide) ⟨((q1 + (15 : Int64)) / (30 : Int64)), rfl, (Or.inr (Or.inr (Or.inr (Or.inr (Or.inl ⟨hc18_0, hc26_3, hc40_4, hc47_5, rfl⟩))))), N0, e0⟩
      ·
        refine g_lcmpYes 55 X0 hx (hb hby d2_40) rfl (hb hby d2_41) (fltL hc40_4).2.2.2 (by decide) (by decide) ?_
        refine g_lload 57 X0 hx (hb hby d2_55) rfl (v := (0 : Int64)) rfl ?_
        exact g_retJ X0 hx Bd.returns hlk (hb hby d2_57) (by decide) (by decide) ⟨(0 : Int64), rfl, (Or.inr (Or.inr (Or.inr (Or.inr (Or.inr (Or.inl ⟨hc18_0, hc26_3, hc40_4, rfl⟩)))))), N0, e0⟩
    ·
      refine g_lcmpNo 30 X0 hx (hb hby d2_26) rfl (hb hby d2_27) (fltL hc26_3).2.2.1 rfl ?_
      refine g_lconst 31 X0 hx (hb hby d2_30) rfl (z := (1 : Int64)) rfl ?_
      refine g_lstore 33 X0 hx (hb hby d2_31) rfl (Ls' := #[.val (.long q1), .second, .val (.long q2), .second, .val (.long ((q1 + (15 : Int64)) / (30 : Int64))), .second, .val (.long (1 : Int64)), .second]) rfl ?_
      refine g_goto 55 X0 hx (hb hby d2_33) (by decide) (by decide) ?_
      refine g_lload 57 X0 hx (hb hby d2_55) rfl (v := (1 : Int64)) rfl ?_
      exact g_retJ X0 hx Bd.returns hlk (hb hby d2_57) (by decide) (by decide) ⟨(1 : Int64), rfl, (Or.inr (Or.inr (Or.inr (Or.inr (Or.inr (Or.inr ⟨hc18_0, hc26_3, rfl⟩)))))), N0, e0⟩
theorem own_days (q1 z1 : Int64) (h : q1 >>> ((2 : Int32) &&& 0x3f).toInt64 = z1) : -2305843009213693952 ≤ z1.toInt ∧ z1.toInt < 2305843009213693952 := by
  have a := c_lshr q1 (2 : Int32) 2 (by decide)
  have b := rng64 q1
  rw [h] at a
  omega
theorem own_rnd (d : Int64) (h : -2305843009213693952 ≤ d.toInt ∧ d.toInt < 2305843009213693952) (h2 : 47 < d.toInt) : ((d + (15 : Int64)) / (30 : Int64)).toInt = (d.toInt + 15) / 30 := by
  have a := c_ladd d (15 : Int64)
  have r := rng64 (d + (15 : Int64))
  simp only [Int64.reduceToInt] at a
  have e : (d + (15 : Int64)).toInt = d.toInt + 15 := by omega
  have b := (c_ldiv (d + (15 : Int64)) (30 : Int64) 30 (by decide) (by decide)).1 (by omega)
  rw [b, e]
theorem own_main (d m r n q p t : Int64) (h : -2305843009213693952 ≤ d.toInt ∧ d.toInt < 2305843009213693952) (h2 : (47 : Int64) < d) (hq : d / (30 : Int64) = q) (hp : q * (30 : Int64) = p) (ht : d - p = t) (hn : (t < (15 : Int64) ∧ n = q) ∨ (¬ (t < (15 : Int64)) ∧ n = (q + (1 : Int64)))) : n = (d + (15 : Int64)) / (30 : Int64) := by
  rw [Int64.lt_iff_toInt_lt] at h2
  simp only [Int64.reduceToInt] at h2
  apply Int64.toInt_inj.mp
  rw [own_rnd d h h2]
  have a := (c_ldiv d (30 : Int64) 30 (by decide) (by decide)).1 (by omega)
  rw [hq] at a
  have b := c_lmul q (30 : Int64)
  rw [hp] at b
  have rp := rng64 p
  simp only [Int64.reduceToInt] at b
  have e : p.toInt = q.toInt * 30 := by omega
  have c := c_lsub d p
  rw [ht] at c
  have rt := rng64 t
  have f : t.toInt = d.toInt - p.toInt := by omega
  clear b c
  rcases hn with ⟨n1, n2⟩ | ⟨n1, n2⟩
  · subst n2
    simp only [Int64.lt_iff_toInt_lt, Int64.reduceToInt] at n1
    omega
  · have g := c_ladd q (1 : Int64)
    have rg := rng64 (q + (1 : Int64))
    simp only [Int64.lt_iff_toInt_lt, Int64.reduceToInt] at n1 g
    have k : (q + (1 : Int64)).toInt = q.toInt + 1 := by omega
    rw [n2, k]
    omega
theorem pd_0 : parseMethodDescriptor "(JJ)J" = some ⟨[.long, .long], some .long⟩ := by decide +kernel
theorem leaf_0 (q1 : Int64) (q2 : Int64) (z1 : Int64) (z2 : Int64) (r3 : Int64) (r9 : Int64) (z11 : Int32) (hz1 : q1 >>> ((2 : Int32) &&& 0x3f).toInt64 = z1) (hz2 : q2 &&& (9223372036854775807 : Int64) = z2) (hr3 : Rel1 (1 : Int64) z2 r3) (hc21_3 : z1 < (15 : Int64)) (hr9 : Rel2 z1 r3 r9) (hj12 : (r9 = (0 : Int64) ∧ z11 = (1 : Int32)) ∨ (¬ (r9 = (0 : Int64)) ∧ z11 = (0 : Int32))) : z11 = 1 := by
  have k : r9 = (0 : Int64) := by
    rcases hr9 with ⟨_, a, _⟩ | ⟨_, a, _⟩ | ⟨_, _, a⟩ | ⟨a, _⟩ | ⟨a, _⟩ | ⟨a, _⟩ | ⟨a, _⟩
    · exact absurd a (by simp only [Int64.lt_iff_toInt_lt, Int64.reduceToInt] at *; omega)
    · exact absurd a (by simp only [Int64.lt_iff_toInt_lt, Int64.reduceToInt] at *; omega)
    · exact a
    all_goals exact absurd hc21_3 a
  rcases hj12 with ⟨_, b⟩ | ⟨a, _⟩
  · exact b
  · exact absurd k a
theorem leaf_1 (q1 : Int64) (q2 : Int64) (z1 : Int64) (z2 : Int64) (r3 : Int64) (z17 : Int64) (z18 : Int64) (z19 : Int64) (z21 : Int64) (z24 : Int64) (r26 : Int64) (z28 : Int32) (hz1 : q1 >>> ((2 : Int32) &&& 0x3f).toInt64 = z1) (hz2 : q2 &&& (9223372036854775807 : Int64) = z2) (hr3 : Rel1 (1 : Int64) z2 r3) (hc21_3 : ¬ (z1 < (15 : Int64))) (hc36_12 : (47 : Int64) < z1) (hz17 : z1 / (30 : Int64) = z17) (hz18 : z17 * (30 : Int64) = z18) (hz19 : z1 - z18 = z19) (hj22 : (z19 < (15 : Int64) ∧ z21 = z17) ∨ (¬ (z19 < (15 : Int64)) ∧ z21 = (z17 + (1 : Int64)))) (hj25 : (r3 < z21 ∧ z24 = (0 : Int64)) ∨ (¬ (r3 < z21) ∧ z24 = z21)) (hr26 : Rel2 z1 r3 r26) (hj29 : (r26 = z24 ∧ z28 = (1 : Int32)) ∨ (¬ (r26 = z24) ∧ z28 = (0 : Int32))) : z28 = 1 := by
  have n := own_main z1 r3 r26 z21 z17 z18 z19 (own_days q1 z1 hz1) hc36_12 hz17 hz18 hz19 hj22
  have k : r26 = z24 := by
    rw [n] at hj25
    rcases hr26 with ⟨a, _⟩ | ⟨a, _⟩ | ⟨a, _⟩ | ⟨_, _, _, a, b⟩ | ⟨_, _, _, a, b⟩ | ⟨_, _, a, _⟩ | ⟨_, a, _⟩
    · exact absurd a hc21_3
    · exact absurd a hc21_3
    · exact absurd a hc21_3
    · rcases hj25 with ⟨_, x⟩ | ⟨x, _⟩
      · rw [b, x]
      · exact absurd a x
    · rcases hj25 with ⟨x, _⟩ | ⟨_, x⟩
      · exact absurd x a
      · rw [b, x]
    · exact absurd hc36_12 a
    · exact absurd hc36_12 a
  rcases hj29 with ⟨_, b⟩ | ⟨a, _⟩
  · exact b
  · exact absurd k a
theorem leaf_2 (q1 : Int64) (q2 : Int64) (z1 : Int64) (z2 : Int64) (r3 : Int64) (r30 : Int64) (z32 : Int32) (hz1 : q1 >>> ((2 : Int32) &&& 0x3f).toInt64 = z1) (hz2 : q2 &&& (9223372036854775807 : Int64) = z2) (hr3 : Rel1 (1 : Int64) z2 r3) (hc21_3 : ¬ (z1 < (15 : Int64))) (hc36_12 : ¬ ((47 : Int64) < z1)) (hr30 : Rel2 z1 r3 r30) (hj33 : (r30 = (1 : Int64) ∧ z32 = (1 : Int32)) ∨ (¬ (r30 = (1 : Int64)) ∧ z32 = (0 : Int32))) : z32 = 1 := by
  have k : r30 = (1 : Int64) := by
    rcases hr30 with ⟨a, _⟩ | ⟨a, _⟩ | ⟨a, _⟩ | ⟨_, a, _⟩ | ⟨_, a, _⟩ | ⟨_, a, _⟩ | ⟨_, _, a⟩
    · exact absurd a hc21_3
    · exact absurd a hc21_3
    · exact absurd a hc21_3
    · exact absurd a hc36_12
    · exact absurd a hc36_12
    · exact absurd a hc36_12
    · exact a
  rcases hj33 with ⟨_, b⟩ | ⟨a, _⟩
  · exact b
  · exact absurd k a
def Q0 (Z : State) (q1 : Int64) (q2 : Int64) (h0 : Heap) (n0 : Nat) (v : Option Value) (h : Heap) (L : List Loc) : Prop := v = some (.int (1 : Int32)) ∧ Fr n0 L
theorem pn_1 : plainName "com/example/utility_meter_billing/utilitymeterbilling/rules/ReadingIntervalCyclesPinLaw" = true := by first | (simp [plainName, overriddenIn]; done) | decide +kernel
theorem ef_rm0 (m : MethodId) (q1 : Int64) (q2 : Int64) : entryFrame m #[(.long q1), (.long q2)] maxLocals = mkF m 0 #[.val (.long q1), .second, .val (.long q2), .second, .unset, .unset, .unset, .unset, .unset, .unset, .unset, .unset, .unset, .unset, .unset, .unset] [] := by first | (simp [entryFrame, mkF, argsToLocals, Value.category, maxLocals]; done) | rfl
set_option maxRecDepth 65536 in
set_option maxHeartbeats 40000000 in
theorem rm0 (l : Launch) (Z : State) (a0 : Array Value) (hw : ∀ d ∈ tables_1, d.before a0 Z = true) (ws : List Jvm.Cond) (q1 : Int64) (q2 : Int64) (h0 : Heap) (n0 : Nat) (Z0 : n0 ≤ h0.size)  :
    MetFree l x (head1 (Jvm.Cond.code x code maxLocals ret :: ws) room_1) (fun a U => a = #[(.long q1), (.long q2)] ∧ Z.Warmed39 U.vm ∧ U.heap = h0) (fun _ _ _ _ _ => True) (fun _ U o U' => ∃ v L, o = .returned v ∧ (Q0 Z q1 q2 h0 n0) v U'.heap L ∧ FrameEnd U o U' L 0 0) := by
  refine MetFree.of_bodySF (plainFor_of_name pn_1) hisR ?_
  intro p e s m args below meth c s₁ Bd hml0 hP hK
  obtain ⟨rfl, hZ, hh⟩ := hP
  have hx := Bd.exec
  have hby := Bd.bytes
  have hml : c.maxLocals = 16 := hml0
  have hown : s.vm.findClass "com/example/utility_meter_billing/utilitymeterbilling/rules/ReadingIntervalCyclesPinLaw" = some m.cls := findClass_of_methodNamed Bd.named
  have hnm := (name_of_methodNamed Bd.named Bd.method).1
  have hlk : meth.locks = false := BodyLoose.notSynchronized Bd
  have X0 : Stand p l e room_1 s m #[(.long q1), (.long q2)] below meth c s₁ [] 0 0 := Stand.of_body Bd
  have e0 : s₁.heap = h0 := by rw [← hh, Bd.state]; rfl
  have N0 := Fr.nil n0
  show Go p e below s 0 0 (Q0 Z q1 q2 h0 n0) s₁ (entryFrame m #[(.long q1), (.long q2)] maxLocals)
  rw [ef_rm0 m q1 q2]
  refine g_lloadN 1 X0 hx (hb hby at_0) rfl (v := q1) rfl ?_
  refine g_iconst 2 X0 hx (hb hby at_1) rfl (z := (2 : Int32)) rfl ?_
  obtain ⟨z1, hz1⟩ : ∃ z : Int64, q1 >>> ((2 : Int32) &&& 0x3f).toInt64 = z := ⟨_, rfl⟩
  refine g_lshr 3 X0 hx (hb hby at_2) rfl (z := z1) hz1 ?_
  refine g_lstore 5 X0 hx (hb hby at_3) rfl (Ls' := #[.val (.long q1), .second, .val (.long q2), .second, .val (.long z1), .second, .unset, .unset, .unset, .unset, .unset, .unset, .unset, .unset, .unset, .unset]) rfl ?_
  refine g_lconst 6 X0 hx (hb hby at_5) rfl (z := (1 : Int64)) rfl ?_
  refine g_lloadN 7 X0 hx (hb hby at_6) rfl (v := q2) rfl ?_
  refine g_ldc2 10 X0 hx hZ hown (hw _ (List.mem_of_getElem? (i := 0) rfl)) (hb hby at_7) rfl ?_
  obtain ⟨z2, hz2⟩ : ∃ z : Int64, q2 &&& (9223372036854775807 : Int64) = z := ⟨_, rfl⟩
  refine g_land 11 X0 hx (hb hby at_10) rfl (z := z2) hz2 ?_
  refine g_callS 14 X0 hx hZ (y := (⟨"java/lang/Math", "max", "(JJ)J"⟩ : MethodName)) hown (hw _ (List.mem_of_getElem? (i := 1) rfl)) (hw _ (List.mem_of_getElem? (i := 2) rfl)) (hw _ (List.mem_of_getElem? (i := 3) rfl)) (hw _ (List.mem_of_getElem? (i := 4) rfl)) (by decide) e0 (rm1 l Z a0 hw [] (1 : Int64) z2  h0 n0 Z0 ) (by rw [hml]; rfl) [(.long (1 : Int64)), (.long z2)] [] rfl rfl (lenOf pd_0 rfl) 0 (Nat.le_of_eq rfl) (hb hby at_11) (by decide) (by decide) (by decide) (by decide) rfl ?_
  intro v3 T3 L3 X3 hQ3
  obtain ⟨r3, rfl, hr3, N3q, e3⟩ := hQ3
  have N3 := Fr.app N0 N3q
  show Go p e below s 0 0 (Q0 Z q1 q2 h0 n0) T3 (mkF m 14 #[.val (.long q1), .second, .val (.long q2), .second, .val (.long z1), .second, .unset, .unset, .unset, .unset, .unset, .unset, .unset, .unset, .unset, .unset] [(.long r3)])
  refine g_lstore 16 X3 hx (hb hby at_14) rfl (Ls' := #[.val (.long q1), .second, .val (.long q2), .second, .val (.long z1), .second, .val (.long r3), .second, .unset, .unset, .unset, .unset, .unset, .unset, .unset, .unset]) rfl ?_
  refine g_lload 18 X3 hx (hb hby at_16) rfl (v := z1) rfl ?_
  refine g_ldc2 21 X3 hx hZ hown (hw _ (List.mem_of_getElem? (i := 5) rfl)) (hb hby at_18) rfl ?_
  by_cases hc21_3 : z1 < (15 : Int64)
  ·
    refine g_lcmpNo 25 X3 hx (hb hby at_21) rfl (hb hby at_22) (tltL hc21_3).2.1 rfl ?_
    refine g_lconst 26 X3 hx (hb hby at_25) rfl (z := (0 : Int64)) rfl ?_
    refine g_lstore 28 X3 hx (hb hby at_26) rfl (Ls' := #[.val (.long q1), .second, .val (.long q2), .second, .val (.long z1), .second, .val (.long r3), .second, .val (.long (0 : Int64)), .second, .unset, .unset, .unset, .unset, .unset, .unset]) rfl ?_
    refine g_goto 101 X3 hx (hb hby at_28) (by decide) (by decide) ?_
    refine g_lload 103 X3 hx (hb hby at_101) rfl (v := z1) rfl ?_
    refine g_lload 105 X3 hx (hb hby at_103) rfl (v := r3) rfl ?_
    refine g_callS 108 X3 hx hZ (y := (⟨"com/example/utility_meter_billing/utilitymeterbilling/rules/ReadingInterval", "cycles", "(JJ)J"⟩ : MethodName)) hown (hw _ (List.mem_of_getElem? (i := 6) rfl)) (hw _ (List.mem_of_getElem? (i := 7) rfl)) (hw _ (List.mem_of_getElem? (i := 8) rfl)) (hw _ (List.mem_of_getElem? (i := 9) rfl)) (by decide) e3 (rm2 l Z a0 hw [] z1 r3  h0 n0 Z0 ) (by rw [hml]; rfl) [(.long z1), (.long r3)] [] rfl rfl (lenOf pd_0 rfl) 0 (Nat.le_of_eq rfl) (hb hby at_105) (by decide) (by decide) (by decide) (by decide) rfl ?_
    intro v9 T9 L9 X9 hQ9
    obtain ⟨r9, rfl, hr9, N9q, e9⟩ := hQ9
    have N9 := Fr.app N3 N9q
    show Go p e below s 0 0 (Q0 Z q1 q2 h0 n0) T9 (mkF m 108 #[.val (.long q1), .second, .val (.long q2), .second, .val (.long z1), .second, .val (.long r3), .second, .val (.long (0 : Int64)), .second, .unset, .unset, .unset, .unset, .unset, .unset] [(.long r9)])
    refine g_lload 110 X9 hx (hb hby at_108) rfl (v := (0 : Int64)) rfl ?_
    suffices Jhj12 : ∀ (z11 : Int32), ((r9 = (0 : Int64) ∧ z11 = (1 : Int32)) ∨ (¬ (r9 = (0 : Int64)) ∧ z11 = (0 : Int32))) → Go p e below s 0 0 (Q0 Z q1 q2 h0 n0) T9 (mkF m 119 #[.val (.long q1), .second, .val (.long q2), .second, .val (.long z1), .second, .val (.long r3), .second, .val (.long (0 : Int64)), .second, .unset, .unset, .unset, .unset, .unset, .unset] [(.int z11)]) by
      by_cases hc110_9 : r9 = (0 : Int64)
      ·
        refine g_lcmpNo 114 X9 hx (hb hby at_110) rfl (hb hby at_111) (teqL hc110_9).2 rfl ?_
        refine g_iconst 115 X9 hx (hb hby at_114) rfl (z := (1 : Int32)) rfl ?_
        refine g_goto 119 X9 hx (hb hby at_115) (by decide) (by decide) ?_
        exact Jhj12 (1 : Int32) (Or.inl ⟨hc110_9, rfl⟩)
      ·
        refine g_lcmpYes 118 X9 hx (hb hby at_110) rfl (hb hby at_111) (feqL hc110_9).2 (by decide) (by decide) ?_
        refine g_iconst 119 X9 hx (hb hby at_118) rfl (z := (0 : Int32)) rfl ?_
        exact Jhj12 (0 : Int32) (Or.inr (⟨hc110_9, rfl⟩))
    intro z11 hj12
    have hl0 : z11 = 1 := leaf_0 q1 q2 z1 z2 r3 r9 z11 hz1 hz2 hr3 hc21_3 hr9 hj12
    subst hl0
    exact g_retN X9 hx (t := .boolean) Bd.returns hlk (by simp) rfl (hb hby at_119) (by decide) (by decide) ⟨rfl, N9⟩
  ·
    refine g_lcmpYes 31 X3 hx (hb hby at_21) rfl (hb hby at_22) (fltL hc21_3).2.1 (by decide) (by decide) ?_
    refine g_lload 33 X3 hx (hb hby at_31) rfl (v := z1) rfl ?_
    refine g_ldc2 36 X3 hx hZ hown (hw _ (List.mem_of_getElem? (i := 13) rfl)) (hb hby at_33) rfl ?_
    by_cases hc36_12 : (47 : Int64) < z1
    ·
      refine g_lcmpYes 46 X3 hx (hb hby at_36) rfl (hb hby at_37) (tltL hc36_12).2.2.1 (by decide) (by decide) ?_
      refine g_lload 48 X3 hx (hb hby at_46) rfl (v := z1) rfl ?_
      refine g_ldc2 51 X3 hx hZ hown (hw _ (List.mem_of_getElem? (i := 14) rfl)) (hb hby at_48) rfl ?_
      obtain ⟨z17, hz17⟩ : ∃ z : Int64, z1 / (30 : Int64) = z := ⟨_, rfl⟩
      refine g_ldiv 52 X3 hx (hb hby at_51) rfl (by decide) (z := z17) hz17 ?_
      refine g_lstore 54 X3 hx (hb hby at_52) rfl (Ls' := #[.val (.long q1), .second, .val (.long q2), .second, .val (.long z1), .second, .val (.long r3), .second, .unset, .unset, .val (.long z17), .second, .unset, .unset, .unset, .unset]) rfl ?_
      refine g_lload 56 X3 hx (hb hby at_54) rfl (v := z1) rfl ?_
      refine g_lload 58 X3 hx (hb hby at_56) rfl (v := z17) rfl ?_
      refine g_ldc2 61 X3 hx hZ hown (hw _ (List.mem_of_getElem? (i := 14) rfl)) (hb hby at_58) rfl ?_
      obtain ⟨z18, hz18⟩ : ∃ z : Int64, z17 * (30 : Int64) = z := ⟨_, rfl⟩
      refine g_lmul 62 X3 hx (hb hby at_61) rfl (z := z18) hz18 ?_
      obtain ⟨z19, hz19⟩ : ∃ z : Int64, z1 - z18 = z := ⟨_, rfl⟩
      refine g_lsub 63 X3 hx (hb hby at_62) rfl (z := z19) hz19 ?_
      refine g_lstore 65 X3 hx (hb hby at_63) rfl (Ls' := #[.val (.long q1), .second, .val (.long q2), .second, .val (.long z1), .second, .val (.long r3), .second, .unset, .unset, .val (.long z17), .second, .val (.long z19), .second, .unset, .unset]) rfl ?_
      refine g_lload 67 X3 hx (hb hby at_65) rfl (v := z19) rfl ?_
      refine g_ldc2 70 X3 hx hZ hown (hw _ (List.mem_of_getElem? (i := 5) rfl)) (hb hby at_67) rfl ?_
      suffices Jhj22 : ∀ (z21 : Int64), ((z19 < (15 : Int64) ∧ z21 = z17) ∨ (¬ (z19 < (15 : Int64)) ∧ z21 = (z17 + (1 : Int64)))) → Go p e below s 0 0 (Q0 Z q1 q2 h0 n0) T3 (mkF m 83 #[.val (.long q1), .second, .val (.long q2), .second, .val (.long z1), .second, .val (.long r3), .second, .unset, .unset, .val (.long z17), .second, .val (.long z19), .second, .unset, .unset] [(.long z21)]) by
        by_cases hc70_19 : z19 < (15 : Int64)
        ·
          refine g_lcmpYes 81 X3 hx (hb hby at_70) rfl (hb hby at_71) (tltL hc70_19).1 (by decide) (by decide) ?_
          refine g_lload 83 X3 hx (hb hby at_81) rfl (v := z17) rfl ?_
          exact Jhj22 z17 (Or.inl ⟨hc70_19, rfl⟩)
        ·
          refine g_lcmpNo 74 X3 hx (hb hby at_70) rfl (hb hby at_71) (fltL hc70_19).1 rfl ?_
          refine g_lload 76 X3 hx (hb hby at_74) rfl (v := z17) rfl ?_
          refine g_lconst 77 X3 hx (hb hby at_76) rfl (z := (1 : Int64)) rfl ?_
          refine g_ladd 78 X3 hx (hb hby at_77) rfl (z := (z17 + (1 : Int64))) rfl ?_
          refine g_goto 83 X3 hx (hb hby at_78) (by decide) (by decide) ?_
          exact Jhj22 (z17 + (1 : Int64)) (Or.inr (⟨hc70_19, rfl⟩))
      intro z21 hj22
      refine g_lstore 85 X3 hx (hb hby at_83) rfl (Ls' := #[.val (.long q1), .second, .val (.long q2), .second, .val (.long z1), .second, .val (.long r3), .second, .unset, .unset, .val (.long z17), .second, .val (.long z19), .second, .val (.long z21), .second]) rfl ?_
      refine g_lload 87 X3 hx (hb hby at_85) rfl (v := z21) rfl ?_
      refine g_lload 89 X3 hx (hb hby at_87) rfl (v := r3) rfl ?_
      suffices Jhj25 : ∀ (z24 : Int64), ((r3 < z21 ∧ z24 = (0 : Int64)) ∨ (¬ (r3 < z21) ∧ z24 = z21)) → Go p e below s 0 0 (Q0 Z q1 q2 h0 n0) T3 (mkF m 99 #[.val (.long q1), .second, .val (.long q2), .second, .val (.long z1), .second, .val (.long r3), .second, .unset, .unset, .val (.long z17), .second, .val (.long z19), .second, .val (.long z21), .second] [(.long z24)]) by
        by_cases hc89_22 : r3 < z21
        ·
          refine g_lcmpYes 98 X3 hx (hb hby at_89) rfl (hb hby at_90) (tltL hc89_22).2.2.1 (by decide) (by decide) ?_
          refine g_lconst 99 X3 hx (hb hby at_98) rfl (z := (0 : Int64)) rfl ?_
          exact Jhj25 (0 : Int64) (Or.inl ⟨hc89_22, rfl⟩)
        ·
          refine g_lcmpNo 93 X3 hx (hb hby at_89) rfl (hb hby at_90) (fltL hc89_22).2.2.1 rfl ?_
          refine g_lload 95 X3 hx (hb hby at_93) rfl (v := z21) rfl ?_
          refine g_goto 99 X3 hx (hb hby at_95) (by decide) (by decide) ?_
          exact Jhj25 z21 (Or.inr (⟨hc89_22, rfl⟩))
      intro z24 hj25
      refine g_lstore 101 X3 hx (hb hby at_99) rfl (Ls' := #[.val (.long q1), .second, .val (.long q2), .second, .val (.long z1), .second, .val (.long r3), .second, .val (.long z24), .second, .val (.long z17), .second, .val (.long z19), .second, .val (.long z21), .second]) rfl ?_
      refine g_lload 103 X3 hx (hb hby at_101) rfl (v := z1) rfl ?_
      refine g_lload 105 X3 hx (hb hby at_103) rfl (v := r3) rfl ?_
      refine g_callS 108 X3 hx hZ (y := (⟨"com/example/utility_meter_billing/utilitymeterbilling/rules/ReadingInterval", "cycles", "(JJ)J"⟩ : MethodName)) hown (hw _ (List.mem_of_getElem? (i := 6) rfl)) (hw _ (List.mem_of_getElem? (i := 7) rfl)) (hw _ (List.mem_of_getElem? (i := 8) rfl)) (hw _ (List.mem_of_getElem? (i := 9) rfl)) (by decide) e3 (rm2 l Z a0 hw [] z1 r3  h0 n0 Z0 ) (by rw [hml]; rfl) [(.long z1), (.long r3)] [] rfl rfl (lenOf pd_0 rfl) 0 (Nat.le_of_eq rfl) (hb hby at_105) (by decide) (by decide) (by decide) (by decide) rfl ?_
      intro v26 T26 L26 X26 hQ26
      obtain ⟨r26, rfl, hr26, N26q, e26⟩ := hQ26
      have N26 := Fr.app N3 N26q
      show Go p e below s 0 0 (Q0 Z q1 q2 h0 n0) T26 (mkF m 108 #[.val (.long q1), .second, .val (.long q2), .second, .val (.long z1), .second, .val (.long r3), .second, .val (.long z24), .second, .val (.long z17), .second, .val (.long z19), .second, .val (.long z21), .second] [(.long r26)])
      refine g_lload 110 X26 hx (hb hby at_108) rfl (v := z24) rfl ?_
      suffices Jhj29 : ∀ (z28 : Int32), ((r26 = z24 ∧ z28 = (1 : Int32)) ∨ (¬ (r26 = z24) ∧ z28 = (0 : Int32))) → Go p e below s 0 0 (Q0 Z q1 q2 h0 n0) T26 (mkF m 119 #[.val (.long q1), .second, .val (.long q2), .second, .val (.long z1), .second, .val (.long r3), .second, .val (.long z24), .second, .val (.long z17), .second, .val (.long z19), .second, .val (.long z21), .second] [(.int z28)]) by
        by_cases hc110_26 : r26 = z24
        ·
          refine g_lcmpNo 114 X26 hx (hb hby at_110) rfl (hb hby at_111) (teqL hc110_26).2 rfl ?_
          refine g_iconst 115 X26 hx (hb hby at_114) rfl (z := (1 : Int32)) rfl ?_
          refine g_goto 119 X26 hx (hb hby at_115) (by decide) (by decide) ?_
          exact Jhj29 (1 : Int32) (Or.inl ⟨hc110_26, rfl⟩)
        ·
          refine g_lcmpYes 118 X26 hx (hb hby at_110) rfl (hb hby at_111) (feqL hc110_26).2 (by decide) (by decide) ?_
          refine g_iconst 119 X26 hx (hb hby at_118) rfl (z := (0 : Int32)) rfl ?_
          exact Jhj29 (0 : Int32) (Or.inr (⟨hc110_26, rfl⟩))
      intro z28 hj29
      have hl1 : z28 = 1 := leaf_1 q1 q2 z1 z2 r3 z17 z18 z19 z21 z24 r26 z28 hz1 hz2 hr3 hc21_3 hc36_12 hz17 hz18 hz19 hj22 hj25 hr26 hj29
      subst hl1
      exact g_retN X26 hx (t := .boolean) Bd.returns hlk (by simp) rfl (hb hby at_119) (by decide) (by decide) ⟨rfl, N26⟩
    ·
      refine g_lcmpNo 40 X3 hx (hb hby at_36) rfl (hb hby at_37) (fltL hc36_12).2.2.1 rfl ?_
      refine g_lconst 41 X3 hx (hb hby at_40) rfl (z := (1 : Int64)) rfl ?_
      refine g_lstore 43 X3 hx (hb hby at_41) rfl (Ls' := #[.val (.long q1), .second, .val (.long q2), .second, .val (.long z1), .second, .val (.long r3), .second, .val (.long (1 : Int64)), .second, .unset, .unset, .unset, .unset, .unset, .unset]) rfl ?_
      refine g_goto 101 X3 hx (hb hby at_43) (by decide) (by decide) ?_
      refine g_lload 103 X3 hx (hb hby at_101) rfl (v := z1) rfl ?_
      refine g_lload 105 X3 hx (hb hby at_103) rfl (v := r3) rfl ?_
      refine g_callS 108 X3 hx hZ (y := (⟨"com/example/utility_meter_billing/utilitymeterbilling/rules/ReadingInterval", "cycles", "(JJ)J"⟩ : MethodName)) hown (hw _ (List.mem_of_getElem? (i := 6) rfl)) (hw _ (List.mem_of_getElem? (i := 7) rfl)) (hw _ (List.mem_of_getElem? (i := 8) rfl)) (hw _ (List.mem_of_getElem? (i := 9) rfl)) (by decide) e3 (rm2 l Z a0 hw [] z1 r3  h0 n0 Z0 ) (by rw [hml]; rfl) [(.long z1), (.long r3)] [] rfl rfl (lenOf pd_0 rfl) 0 (Nat.le_of_eq rfl) (hb hby at_105) (by decide) (by decide) (by decide) (by decide) rfl ?_
      intro v30 T30 L30 X30 hQ30
      obtain ⟨r30, rfl, hr30, N30q, e30⟩ := hQ30
      have N30 := Fr.app N3 N30q
      show Go p e below s 0 0 (Q0 Z q1 q2 h0 n0) T30 (mkF m 108 #[.val (.long q1), .second, .val (.long q2), .second, .val (.long z1), .second, .val (.long r3), .second, .val (.long (1 : Int64)), .second, .unset, .unset, .unset, .unset, .unset, .unset] [(.long r30)])
      refine g_lload 110 X30 hx (hb hby at_108) rfl (v := (1 : Int64)) rfl ?_
      suffices Jhj33 : ∀ (z32 : Int32), ((r30 = (1 : Int64) ∧ z32 = (1 : Int32)) ∨ (¬ (r30 = (1 : Int64)) ∧ z32 = (0 : Int32))) → Go p e below s 0 0 (Q0 Z q1 q2 h0 n0) T30 (mkF m 119 #[.val (.long q1), .second, .val (.long q2), .second, .val (.long z1), .second, .val (.long r3), .second, .val (.long (1 : Int64)), .second, .unset, .unset, .unset, .unset, .unset, .unset] [(.int z32)]) by
        by_cases hc110_30 : r30 = (1 : Int64)
        ·
          refine g_lcmpNo 114 X30 hx (hb hby at_110) rfl (hb hby at_111) (teqL hc110_30).2 rfl ?_
          refine g_iconst 115 X30 hx (hb hby at_114) rfl (z := (1 : Int32)) rfl ?_
          refine g_goto 119 X30 hx (hb hby at_115) (by decide) (by decide) ?_
          exact Jhj33 (1 : Int32) (Or.inl ⟨hc110_30, rfl⟩)
        ·
          refine g_lcmpYes 118 X30 hx (hb hby at_110) rfl (hb hby at_111) (feqL hc110_30).2 (by decide) (by decide) ?_
          refine g_iconst 119 X30 hx (hb hby at_118) rfl (z := (0 : Int32)) rfl ?_
          exact Jhj33 (0 : Int32) (Or.inr (⟨hc110_30, rfl⟩))
      intro z32 hj33
      have hl2 : z32 = 1 := leaf_2 q1 q2 z1 z2 r3 r30 z32 hz1 hz2 hr3 hc21_3 hc36_12 hr30 hj33
      subst hl2
      exact g_retN X30 hx (t := .boolean) Bd.returns hlk (by simp) rfl (hb hby at_119) (by decide) (by decide) ⟨rfl, N30⟩
set_option maxRecDepth 65536 in
set_option maxHeartbeats 40000000 in
theorem comes_1 {Post : Tables → Env → Array Value → State → Outcome → State → Prop} (hpost : ∀ tb e args s v u, (limb_1_1.after args s (.returned v) u = true ∧ limb_1_2.after args s (.returned v) u = true ∧ True) → FrameEnd s (.returned v) u (Jvm.fieldLocs frame_1_writes args s ++ Jvm.arrayLocs frame_1_arrays args s ++ Jvm.staticLocs frame_1_statics s) 0 0 → Post tb e args s (.returned v) u) :
    ArmFor flags0 classFile x code maxLocals ret World_1 tables_1 room_1 Calls_1 rest_1 Pre_1 Post := by
  intro l hfl _ _ p e ha hc hk s m args below hf hA hF happ hP
  obtain ⟨hcalls, hrest, hpre⟩ := hP
  obtain ⟨-, -, -, hnamed, -, -, -, hat⟩ := (Spec.applies_iff hf).mp happ
  obtain ⟨hg, hn⟩ := and_e (Cond.before_iff.mp (show (Jvm.Cond.and given_1 narrow_1).before args s = true from hpre))
  obtain ⟨hcount, r0⟩ := and_e hg
  obtain ⟨ga0, r1⟩ := and_e r0
  obtain ⟨w0, w1, rfl⟩ : ∃ w0 w1 : Value, args = #[w0, w1] := by
    have hs : args.size = 2 := by simpa [Cond.value, given_1] using hcount
    obtain ⟨L⟩ := args
    match L, hs with
    | [w0, w1], _ => exact ⟨w0, w1, rfl⟩
  have hw := fun d (hd : d ∈ tables_1) => atoms_spec (ws := Jvm.Cond.code x code maxLocals ret :: tables_1) hat d (List.mem_cons_of_mem _ hd)
  obtain ⟨i0, ei0⟩ := isL_v ga0
  obtain rfl : w0 = (.long i0) := Option.some.inj ei0
  obtain ⟨i1, ei1⟩ := isL_v r1
  obtain rfl : w1 = (.long i1) := Option.some.inj ei1
  obtain ⟨n, o, h1, h2, h3, _, L, rfl, ⟨rfl, N⟩, hq⟩ := rm0 l s _ hw tables_1 i0 i1 s.heap s.heap.size (Nat.le_refl _)  p e ha hc hk s m _ below hf ((Spec.applies_iff_loose hf).mp happ).1 ⟨rfl, State.Warmed39.refl s, rfl⟩ trivial
  exact ⟨n, _, h1, h2, h3, hpost _ _ _ _ _ _ ⟨Cond.after_iff.mpr rfl, Cond.after_iff.mpr (eq_i res_at (Term.int_eval (1)) rfl), trivial⟩ ⟨hq.1, hq.2.1, (hq.2.2.sift fun y hy => Or.inr (N y hy)).mono (by decide) (by decide)⟩⟩
theorem main_1_1 : Claimed_1_1 := comes_1 fun _ _ _ _ _ _ h hF => ⟨h.1, hF⟩
theorem main_1_2 : Claimed_1_2 := comes_1 fun _ _ _ _ _ _ h hF => ⟨h.2.1, hF⟩
end Jvm.Pilot.@@N@@
namespace Jvm.Pilot.@@N@@
open Jvm Jvm.ClassFile Sem Op Lib Jvm.Free Jvm.Stand Jvm.Pilot.@@N@@.Jvm.D
/-! MADE BY PROGRAM (witnessworld.py) out of the Statement's table words and the real class files: 13 classes; the members and pool entries that the words name. The judged class is class 1, her method 1. -/
namespace start1
open Jvm.ClassFile
def u (s : String) : CpInfo := .utf8 (stringToUtf16 s)
/-- a pool by its gaps: so many unusable entries, then the entry; so many at the end -/
def gap : Nat → List CpInfo → List CpInfo
  | 0, r => r
  | n + 1, r => .unusable :: gap n r
def poolList (es : List (Nat × CpInfo)) (last : Nat) : List CpInfo := es.foldr (fun e r => gap e.1 (e.2 :: r)) (gap last [])
def pool (es : List (Nat × CpInfo)) (last : Nat) : Array CpInfo := ⟨poolList es last⟩
def fileOf (pool : Array CpInfo) (this : Nat) (attrs : Array Attribute := #[]) (ms : Array MethodInfo := #[]) (fl : Nat := 33) (sup : Nat := 0) (ifs : Array Nat := #[]) (fds : Array FieldInfo := #[]) : ClassFile where
  minorVersion := 0
  majorVersion := 65
  constantPool := pool
  accessFlags := fl
  thisClass := this
  superClass := sup
  interfaces := ifs
  fields := fds
  methods := ms
  attributes := attrs
def plain (name : String) (sup : Option ClassId) : Class where
  name := name
  kind := .ordinary
  loader := none
  accessFlags := 33
  super := sup
  interfaces := #[]
  cf := none
  fields := #[]
  methods := #[]
  instanceTypes := #[]
  staticTypes := #[]
  resolved := #[]
  callSites := []
  init := .initialized
  statics := none
  mirror := none

def pool0 : Array CpInfo := pool [(5, u "<init>"), (0, u "()V"), (1, .class_ 10), (1, u "java/lang/Object")] 113

def k0m0 : Method := { name := "<init>", desc := "()V", sig := { parameters := [], returnType := none }, accessFlags := 1, code := none }
/-- java/lang/Object -/
def k0 : Class := { plain "java/lang/Object" none with
  accessFlags := 33
  interfaces := #[]
  cf := some (fileOf pool0 8 #[] #[{ accessFlags := 1, nameIndex := 5, descriptorIndex := 6, attributes := #[] }] 33 0 #[] #[])
  fields := #[]
  methods := #[k0m0]
  instanceTypes := #[]
  staticTypes := #[]
  resolved := Array.replicate 124 none
  statics := none }

def pool1 : Array CpInfo := pool [(2, .class_ 4), (1, u "java/lang/Object"), (0, u "<init>"), (0, u "()V"), (2, .long 9223372036854775807), (1, .methodref 12 13), (0, .class_ 14), (0, .nameAndType 15 16), (0, u "java/lang/Math"), (0, u "max"), (0, u "(JJ)J"), (0, .long 15), (1, .long 47), (1, .long 30), (1, .methodref 24 25), (0, .class_ 26), (0, .nameAndType 27 16), (0, u "com/example/utility_meter_billing/utilitymeterbilling/rules/ReadingInterval"), (0, u "cycles"), (0, .class_ 29), (0, u "com/example/utility_meter_billing/utilitymeterbilling/rules/ReadingIntervalCyclesPinLaw"), (2, u "law"), (0, u "(JJ)Z")] 3

def k1m0 : Method := { name := "<init>", desc := "()V", sig := { parameters := [], returnType := none }, accessFlags := 1, code := none }
def k1c1 : Code := { maxStack := 6, maxLocals := 16, code := code, exceptionTable := #[], attributes := #[] }
def k1m1 : Method := { name := "law", desc := "(JJ)Z", sig := { parameters := [.long, .long], returnType := some .boolean }, accessFlags := 9, code := some k1c1 }
/-- com/example/utility_meter_billing/utilitymeterbilling/rules/ReadingIntervalCyclesPinLaw -/
def k1 : Class := { plain "com/example/utility_meter_billing/utilitymeterbilling/rules/ReadingIntervalCyclesPinLaw" (some 0) with
  accessFlags := 49
  interfaces := #[]
  cf := some (fileOf pool1 28 #[] #[{ accessFlags := 1, nameIndex := 5, descriptorIndex := 6, attributes := #[] }, { accessFlags := 9, nameIndex := 32, descriptorIndex := 33, attributes := #[] }] 49 2 #[] #[])
  fields := #[]
  methods := #[k1m0, k1m1]
  instanceTypes := #[]
  staticTypes := #[]
  resolved := Array.replicate 37 none
  statics := none }

def pool2 : Array CpInfo := pool [(1, .class_ 2), (0, u "java/lang/Math"), (1, .class_ 6), (1, u "java/lang/Object"), (0, u "<init>"), (0, u "()V"), (89, .class_ 100), (1, u "java/lang/Math$RandomNumberGeneratorHolder"), (20, u "(JJ)J"), (50, u "negativeZeroFloatBits"), (0, u "J"), (2, u "negativeZeroDoubleBits"), (21, u "max"), (46, u "$assertionsDisabled"), (0, u "Z"), (91, u "twoToTheDoubleScaleDown"), (0, u "D"), (4, u "twoToTheDoubleScaleUp"), (9, u "E"), (3, u "PI"), (2, u "TAU"), (2, u "DEGREES_TO_RADIANS"), (0, u "RADIANS_TO_DEGREES")] 94

def k2m0 : Method := { name := "<init>", desc := "()V", sig := { parameters := [], returnType := none }, accessFlags := 2, code := none }
def k2c1 : Code := { maxStack := 4, maxLocals := 4, code := jdk_29_method_66_code, exceptionTable := #[], attributes := #[] }
def k2m1 : Method := { name := "max", desc := "(JJ)J", sig := { parameters := [.long, .long], returnType := some .long }, accessFlags := 9, code := some k2c1 }
/-- java/lang/Math -/
def k2 : Class := { plain "java/lang/Math" (some 0) with
  accessFlags := 49
  interfaces := #[]
  cf := some (fileOf pool2 1 #[.nestMembers #[98]] #[{ accessFlags := 2, nameIndex := 7, descriptorIndex := 8, attributes := #[] }, { accessFlags := 9, nameIndex := 198, descriptorIndex := 121, attributes := #[] }] 49 4 #[] #[{ accessFlags := 25, nameIndex := 354, descriptorIndex := 339, attributes := #[] }, { accessFlags := 25, nameIndex := 358, descriptorIndex := 339, attributes := #[] }, { accessFlags := 25, nameIndex := 361, descriptorIndex := 339, attributes := #[] }, { accessFlags := 26, nameIndex := 364, descriptorIndex := 339, attributes := #[] }, { accessFlags := 26, nameIndex := 365, descriptorIndex := 339, attributes := #[] }, { accessFlags := 26, nameIndex := 172, descriptorIndex := 173, attributes := #[] }, { accessFlags := 26, nameIndex := 176, descriptorIndex := 173, attributes := #[] }, { accessFlags := 8, nameIndex := 344, descriptorIndex := 339, attributes := #[] }, { accessFlags := 8, nameIndex := 338, descriptorIndex := 339, attributes := #[] }, { accessFlags := 4120, nameIndex := 245, descriptorIndex := 246, attributes := #[] }])
  fields := #[{ name := "E", type := .double, accessFlags := 25, slot := 0, constantValue := 0 }, { name := "PI", type := .double, accessFlags := 25, slot := 1, constantValue := 0 }, { name := "TAU", type := .double, accessFlags := 25, slot := 2, constantValue := 0 }, { name := "DEGREES_TO_RADIANS", type := .double, accessFlags := 26, slot := 3, constantValue := 0 }, { name := "RADIANS_TO_DEGREES", type := .double, accessFlags := 26, slot := 4, constantValue := 0 }, { name := "negativeZeroFloatBits", type := .long, accessFlags := 26, slot := 5, constantValue := 0 }, { name := "negativeZeroDoubleBits", type := .long, accessFlags := 26, slot := 6, constantValue := 0 }, { name := "twoToTheDoubleScaleUp", type := .double, accessFlags := 8, slot := 7, constantValue := 0 }, { name := "twoToTheDoubleScaleDown", type := .double, accessFlags := 8, slot := 8, constantValue := 0 }, { name := "$assertionsDisabled", type := .boolean, accessFlags := 4120, slot := 9, constantValue := 0 }]
  methods := #[k2m0, k2m1]
  instanceTypes := #[]
  staticTypes := #[.double, .double, .double, .double, .double, .long, .long, .double, .double, .boolean]
  resolved := Array.replicate 460 none
  statics := none }

def pool3 : Array CpInfo := pool [(1, .class_ 2), (0, u "java/lang/constant/Constable"), (0, .class_ 4), (0, u "java/lang/Object")] 6

/-- java/lang/constant/Constable -/
def k3 : Class := { plain "java/lang/constant/Constable" (some 0) with
  accessFlags := 1537
  interfaces := #[]
  cf := some (fileOf pool3 1 #[] #[] 1537 3 #[] #[])
  fields := #[]
  methods := #[]
  instanceTypes := #[]
  staticTypes := #[]
  resolved := Array.replicate 11 none
  statics := none }

def pool4 : Array CpInfo := pool [(1, .class_ 2), (0, u "java/lang/Comparable"), (0, .class_ 4), (0, u "java/lang/Object")] 7

/-- java/lang/Comparable -/
def k4 : Class := { plain "java/lang/Comparable" (some 0) with
  accessFlags := 1537
  interfaces := #[]
  cf := some (fileOf pool4 1 #[] #[] 1537 3 #[] #[])
  fields := #[]
  methods := #[]
  instanceTypes := #[]
  staticTypes := #[]
  resolved := Array.replicate 12 none
  statics := none }

def pool5 : Array CpInfo := pool [(1, .class_ 2), (0, u "java/io/Serializable"), (0, .class_ 4), (0, u "java/lang/Object")] 2

/-- java/io/Serializable -/
def k5 : Class := { plain "java/io/Serializable" (some 0) with
  accessFlags := 1537
  interfaces := #[]
  cf := some (fileOf pool5 1 #[] #[] 1537 3 #[] #[])
  fields := #[]
  methods := #[]
  instanceTypes := #[]
  staticTypes := #[]
  resolved := Array.replicate 7 none
  statics := none }

def pool6 : Array CpInfo := pool [(2, .class_ 4), (1, u "java/lang/Enum"), (0, u "name"), (0, u "Ljava/lang/String;"), (2, u "ordinal"), (0, u "I"), (1, .class_ 14), (1, u "java/lang/Object"), (4, u "hash"), (86, .class_ 108), (1, u "java/lang/Enum$EnumDesc"), (2, .class_ 112), (0, u "java/lang/constant/Constable"), (0, .class_ 114), (0, u "java/lang/Comparable"), (0, .class_ 116), (0, u "java/io/Serializable")] 87

/-- java/lang/Enum -/
def k6 : Class := { plain "java/lang/Enum" (some 0) with
  accessFlags := 1057
  interfaces := #[3, 4, 5]
  cf := some (fileOf pool6 2 #[.nestMembers #[106]] #[] 1057 12 #[111, 113, 115] #[{ accessFlags := 18, nameIndex := 5, descriptorIndex := 6, attributes := #[] }, { accessFlags := 18, nameIndex := 9, descriptorIndex := 10, attributes := #[] }, { accessFlags := 2, nameIndex := 19, descriptorIndex := 10, attributes := #[] }])
  fields := #[{ name := "name", type := (.object "java/lang/String"), accessFlags := 18, slot := 0, constantValue := 0 }, { name := "ordinal", type := .int, accessFlags := 18, slot := 1, constantValue := 0 }, { name := "hash", type := .int, accessFlags := 2, slot := 2, constantValue := 0 }]
  methods := #[]
  instanceTypes := #[(.object "java/lang/String"), .int, .int]
  staticTypes := #[]
  resolved := Array.replicate 204 none
  statics := none }

def pool7 : Array CpInfo := pool [(1, .class_ 2), (0, u "com/example/utility_meter_billing/utilitymeterbilling/rules/ReadingInterval"), (2, u "NORMAL"), (0, u "Lcom/example/utility_meter_billing/utilitymeterbilling/rules/ReadingInterval;"), (2, u "EXCEPTIONAL"), (2, u "$VALUES"), (0, u "[Lcom/example/utility_meter_billing/utilitymeterbilling/rules/ReadingInterval;"), (6, .class_ 22), (1, u "java/lang/Enum"), (6, .long 15), (1, .long 30), (1, .long 47), (12, u "NORMAL_FROM"), (0, u "J"), (1, u "NORMAL_TO"), (0, u "CYCLE_FROM"), (0, u "CYCLE_TO"), (0, u "CYCLE_DAYS"), (7, u "cycles"), (0, u "(JJ)J")] 7

def k7c0 : Code := { maxStack := 4, maxLocals := 8, code := prog_115_method_4_code, exceptionTable := #[], attributes := #[] }
def k7m0 : Method := { name := "cycles", desc := "(JJ)J", sig := { parameters := [.long, .long], returnType := some .long }, accessFlags := 8, code := some k7c0 }
/-- com/example/utility_meter_billing/utilitymeterbilling/rules/ReadingInterval -/
def k7 : Class := { plain "com/example/utility_meter_billing/utilitymeterbilling/rules/ReadingInterval" (some 6) with
  accessFlags := 16432
  interfaces := #[]
  cf := some (fileOf pool7 1 #[] #[{ accessFlags := 8, nameIndex := 60, descriptorIndex := 61, attributes := #[] }] 16432 20 #[] #[{ accessFlags := 16409, nameIndex := 5, descriptorIndex := 6, attributes := #[] }, { accessFlags := 16409, nameIndex := 9, descriptorIndex := 6, attributes := #[] }, { accessFlags := 24, nameIndex := 46, descriptorIndex := 47, attributes := #[] }, { accessFlags := 24, nameIndex := 49, descriptorIndex := 47, attributes := #[] }, { accessFlags := 24, nameIndex := 50, descriptorIndex := 47, attributes := #[] }, { accessFlags := 24, nameIndex := 51, descriptorIndex := 47, attributes := #[] }, { accessFlags := 24, nameIndex := 52, descriptorIndex := 47, attributes := #[] }, { accessFlags := 4122, nameIndex := 12, descriptorIndex := 13, attributes := #[] }])
  fields := #[{ name := "NORMAL", type := (.object "com/example/utility_meter_billing/utilitymeterbilling/rules/ReadingInterval"), accessFlags := 16409, slot := 0, constantValue := 0 }, { name := "EXCEPTIONAL", type := (.object "com/example/utility_meter_billing/utilitymeterbilling/rules/ReadingInterval"), accessFlags := 16409, slot := 1, constantValue := 0 }, { name := "NORMAL_FROM", type := .long, accessFlags := 24, slot := 2, constantValue := 0 }, { name := "NORMAL_TO", type := .long, accessFlags := 24, slot := 3, constantValue := 0 }, { name := "CYCLE_FROM", type := .long, accessFlags := 24, slot := 4, constantValue := 0 }, { name := "CYCLE_TO", type := .long, accessFlags := 24, slot := 5, constantValue := 0 }, { name := "CYCLE_DAYS", type := .long, accessFlags := 24, slot := 6, constantValue := 0 }, { name := "$VALUES", type := (.array (.object "com/example/utility_meter_billing/utilitymeterbilling/rules/ReadingInterval")), accessFlags := 4122, slot := 7, constantValue := 0 }]
  methods := #[k7m0]
  instanceTypes := #[(.object "java/lang/String"), .int, .int]
  staticTypes := #[(.object "com/example/utility_meter_billing/utilitymeterbilling/rules/ReadingInterval"), (.object "com/example/utility_meter_billing/utilitymeterbilling/rules/ReadingInterval"), .long, .long, .long, .long, .long, (.array (.object "com/example/utility_meter_billing/utilitymeterbilling/rules/ReadingInterval"))]
  resolved := Array.replicate 69 none
  statics := none }

def pool8 : Array CpInfo := pool [(1, u "java/lang/Cloneable"), (0, .class_ 1), (0, u "java/lang/Object"), (0, .class_ 3)] 3

/-- java/lang/Cloneable -/
def k8 : Class := { plain "java/lang/Cloneable" (some 0) with
  accessFlags := 1537
  interfaces := #[]
  cf := some (fileOf pool8 2 #[] #[] 1537 4 #[] #[])
  fields := #[]
  methods := #[]
  instanceTypes := #[]
  staticTypes := #[]
  resolved := Array.replicate 8 none
  statics := none }

/-- the primitive byte -/
def k9 : Class := { plain "byte" none with kind := .primitive 'B', accessFlags := 0x411 }
/-- [B -/
def k10 : Class := { plain "[B" (some 0) with kind := .array 9 .byte, interfaces := #[8, 5], accessFlags := 1041 }

/-- the primitive int -/
def k11 : Class := { plain "int" none with kind := .primitive 'I', accessFlags := 0x411 }
/-- [I -/
def k12 : Class := { plain "[I" (some 0) with kind := .array 11 .int, interfaces := #[8, 5], accessFlags := 1041 }

def heap : Heap := #[]
def classes : Array Class := #[k0, k1, k2, k3, k4, k5, k6, k7, k8, k9, k10, k11, k12]
def interned : List (Array UInt16 × Addr) := []
def slotsUsed : Nat := 0
def theMethod : MethodId := ⟨1, 1⟩
def args0 : Array Value := #[.long 500, .long 7]
def aboutOver (below : List Frame) : State where
  vm := { classes := classes, interned := interned.toArray }
  heap := heap
  slotsUsed := slotsUsed
  threads := #[{ frames := .invoking theMethod args0 :: below }]
def below0 : List Frame := [.native { method := ⟨0, 0⟩, args := #[] }]
def about1 : State := aboutOver below0
def p0 : Program := .bare "" "" ""
def e0 : Env := launch0.env 0 0 0
theorem w_frames : about1.frames = Frame.invoking theMethod args0 :: below0 := rfl
set_option maxRecDepth 65536 in
theorem w_args : argsFit about1.vm theMethod args0 = true := by decide +kernel
set_option maxRecDepth 65536 in
theorem w_heap : heapFits about1 = true := by decide +kernel
set_option maxRecDepth 65536 in
theorem w_runnable : about1.curStatus? = some .runnable := by decide +kernel
set_option maxRecDepth 65536 in
theorem w_alone : about1.alone = true := by decide +kernel
set_option maxRecDepth 65536 in
theorem w_named : about1.methodNamed? x = some theMethod := by decide +kernel
set_option maxRecDepth 65536 in
theorem w_hears : about1.hears theMethod below0 = true := by decide +kernel
set_option maxRecDepth 65536 in
theorem w_ripe : about1.ripe theMethod args0 below0 = true := by decide +kernel
theorem w_running : about1.status = .running := rfl
set_option maxRecDepth 65536 in
theorem w_room : about1.hasRoom e0.platform room_1 = true :=
  launch0.hasRoom_least _ room_1 (by decide +kernel) (by decide +kernel) (by decide +kernel) (by decide +kernel) (by decide +kernel) (by decide +kernel)
theorem allAtoms_all (ts : List Jvm.Cond) (a : Array Jvm.Value) (st : Jvm.State) : (allAtoms ts).before a st = ts.all (fun c => c.before a st) := by
  induction ts with
  | nil => rfl
  | cons c t ih =>
    show (Jvm.Cond.and c (allAtoms t)).before a st = _
    rw [Jvm.Cond.before_and, ih, List.all_cons]
def words1 : List Jvm.Cond := Jvm.Cond.code x code maxLocals ret :: tables_1
/-- a 'code' word, met by the world's own term for the bytes: nothing is compared byte by byte -/
theorem code_word {y : MethodName} {bytes : ByteArray} {mx : Nat} {rt : Option FieldType} {a : Array Value} {s : State} {m : MethodId} {meth : Method} {c : Code} (h1 : s.methodNamed? y = some m) (h2 : s.vm.method? m = some meth) (h3 : meth.code = some c) (h4 : c.code = bytes)
    (h5 : (c.maxLocals == mx && c.exceptionTable.isEmpty && decide (c.maxStack ≤ mostOperands) && decide (meth.sig.returnType = rt) && !meth.locks && decide (parseMethodDescriptor y.desc = some meth.sig)) = true) : (Jvm.Cond.code y bytes mx rt).before a s = true := by
  simp only [Bool.and_eq_true, beq_iff_eq, Bool.not_eq_true', decide_eq_true_eq] at h5
  obtain ⟨⟨⟨⟨⟨g1, g2⟩, g3⟩, g4⟩, g5⟩, g6⟩ := h5
  simp [Cond.before, Cond.holds, Cond.value, h1, h2, h3, h4, g1, g2, g3, g4, g5, g6]
def isCode : Jvm.Cond → Bool
  | .code _ _ _ _ => true
  | _ => false
theorem all_split {L : List Jvm.Cond} {P : Jvm.Cond → Bool} (h1 : L.all (fun c => isCode c || P c) = true) (h2 : ∀ c ∈ L.filter isCode, P c = true) : L.all P = true := by
  refine List.all_eq_true.mpr fun c hc => ?_
  have h := List.all_eq_true.mp h1 c hc
  rcases Bool.eq_false_or_eq_true (isCode c) with hi | hi
  · exact h2 c (List.mem_filter.mpr ⟨hc, hi⟩)
  · simpa [hi] using h
set_option maxRecDepth 65536 in
theorem w_c0 : (Jvm.Cond.code x code maxLocals ret).before args0 about1 = true := code_word (m := ⟨1, 1⟩) (meth := k1m1) (c := k1c1) (by decide +kernel) rfl rfl rfl (by decide +kernel)
set_option maxRecDepth 65536 in
theorem w_c1 : (Jvm.Cond.code ({ cls := "java/lang/Math", name := "max", desc := "(JJ)J" } : Jvm.MethodName) jdk_29_method_66_code (4 : Nat) (Option.some Jvm.ClassFile.FieldType.long)).before args0 about1 = true := code_word (m := ⟨2, 1⟩) (meth := k2m1) (c := k2c1) (by decide +kernel) rfl rfl rfl (by decide +kernel)
set_option maxRecDepth 65536 in
theorem w_c2 : (Jvm.Cond.code ({ cls := "com/example/utility_meter_billing/utilitymeterbilling/rules/ReadingInterval", name := "cycles", desc := "(JJ)J" } : Jvm.MethodName) prog_115_method_4_code (8 : Nat) (Option.some Jvm.ClassFile.FieldType.long)).before args0 about1 = true := code_word (m := ⟨7, 0⟩) (meth := k7m0) (c := k7c0) (by decide +kernel) rfl rfl rfl (by decide +kernel)
def codes1 : List Jvm.Cond := [Jvm.Cond.code x code maxLocals ret, Jvm.Cond.code ({ cls := "java/lang/Math", name := "max", desc := "(JJ)J" } : Jvm.MethodName) jdk_29_method_66_code (4 : Nat) (Option.some Jvm.ClassFile.FieldType.long), Jvm.Cond.code ({ cls := "com/example/utility_meter_billing/utilitymeterbilling/rules/ReadingInterval", name := "cycles", desc := "(JJ)J" } : Jvm.MethodName) prog_115_method_4_code (8 : Nat) (Option.some Jvm.ClassFile.FieldType.long)]
set_option maxRecDepth 65536 in
theorem codes_eq : words1.filter isCode = codes1 := rfl
theorem w_codes : ∀ c ∈ words1.filter isCode, c.before args0 about1 = true := by
  rw [codes_eq]
  intro c hc
  simp only [codes1, List.mem_cons, List.not_mem_nil, or_false] at hc
  rcases hc with rfl | rfl | rfl
  · exact w_c0
  · exact w_c1
  · exact w_c2
set_option maxRecDepth 65536 in
theorem w_t1 : words1.all (fun c => isCode c || c.before args0 about1) = true := by decide +kernel
theorem w_tables : (allAtoms (Jvm.Cond.code x code maxLocals ret :: tables_1)).before args0 about1 = true := by
  rw [allAtoms_all]
  show words1.all (fun c => c.before args0 about1) = true
  refine all_split ?_ w_codes
  rw [w_t1]
set_option maxRecDepth 65536 in
theorem w_case : (Jvm.Cond.and given_1 narrow_1).before args0 about1 = true := by decide +kernel
theorem w_applies : (headSpec (Jvm.Cond.code x code maxLocals ret :: tables_1) room_1).applies x e0.platform about1 = true :=
  (Spec.applies_iff w_frames).mpr ⟨w_running, w_runnable, w_alone, w_named, w_hears, w_ripe, w_room, w_tables⟩
theorem atStart : AtStart classFile x code maxLocals ret World_1 tables_1 room_1 Calls_1 rest_1 Pre_1 launch0 p0 e0 about1 theMethod args0 below0 :=
  ⟨lists_1, trivial, launch0.admits_env _ _ _, launch0.least_env, fairChoices_fair.cas, fairChoices_fair.clock, w_frames, w_args, w_heap, w_applies, trivial, trivial, w_case⟩
end start1
theorem witness_1 : WitnessClaimed_1 := ⟨start1.p0, start1.e0, start1.about1, start1.theMethod, start1.args0, start1.below0, start1.atStart⟩
end Jvm.Pilot.@@N@@
