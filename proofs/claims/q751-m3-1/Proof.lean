import JvmDerived
import JvmDerived.Pilot.@@N@@Statement
import JvmDerived.Pilot.@@N@@Code
set_option linter.unusedVariables false
set_option linter.unusedSimpArgs false
namespace Jvm.Pilot.@@N@@
open Jvm Jvm.ClassFile Sem Op Lib Jvm.Free Jvm.Stand Jvm.LawKit Jvm.RoadKit Bundle Jvm.Pilot.@@N@@.Jvm.D
section OwnKit
/-- the run goes on from here to the method's end; what it leaves is Q -/
def Go (p : Program) (e : Env) (below : List Frame) (s : State) (k n : Nat) (Q : Option Value → Heap → List Loc → Prop) (T : State) (g : JFrame) : Prop :=
  ∃ s₂ o, Steps p.tables e below (T.setTop g) s₂ ∧ s₂.status = .running ∧ Ended s₂ below o ∧ ∃ v L, o = .returned v ∧ Q v s₂.heap L ∧ FrameEnd s o s₂ L k n
variable {p : Program} {l : Launch} {e : Env} {R : Room} {s : State} {m : MethodId} {args : Array Value} {below : List Frame} {meth : Method} {c : Code} {T : State} {locs : List Loc} {cells slots : Nat} {k n : Nat} {Q : Option Value → Heap → List Loc → Prop} {pc : Nat} {Ls : Array Slot} {st : List Value} {Z : State} {a0 : Array Value} {h h' : Heap}
theorem Go.via {T' : State} {g g' : JFrame} (q : ∀ t, Steps p.tables e below (T'.setTop g') t → Steps p.tables e below (T.setTop g) t) (H : Go p e below s k n Q T' g') : Go p e below s k n Q T g := by
  obtain ⟨s₂, o, h1, r⟩ := H
  exact ⟨s₂, o, q _ h1, r⟩
theorem tltL {x y : Int64} (q : x < y) : ifCond.holds .lt (lcmpW x y) = true ∧ ifCond.holds .ge (lcmpW x y) = false ∧ ifCond.holds .gt (lcmpW y x) = true ∧ ifCond.holds .le (lcmpW y x) = false := by
  simp only [if0]
  exact ⟨(tlt ((lw_lt x y).mpr q)).1, (tlt ((lw_lt x y).mpr q)).2.1, (tlt ((lw_gt y x).mpr q)).2.2.1, (tlt ((lw_gt y x).mpr q)).2.2.2⟩
theorem fltL {x y : Int64} (q : ¬ x < y) : ifCond.holds .lt (lcmpW x y) = false ∧ ifCond.holds .ge (lcmpW x y) = true ∧ ifCond.holds .gt (lcmpW y x) = false ∧ ifCond.holds .le (lcmpW y x) = true := by
  simp only [if0]
  exact ⟨(flt (mt (lw_lt x y).mp q)).1, (flt (mt (lw_lt x y).mp q)).2.1, (flt (mt (lw_gt y x).mp q)).2.2.1, (flt (mt (lw_gt y x).mp q)).2.2.2⟩
theorem teqL {x y : Int64} (q : x = y) : ifCond.holds .eq (lcmpW x y) = true ∧ ifCond.holds .ne (lcmpW x y) = false := by
  simp only [if0]
  exact ⟨(teq ((lw_eq x y).mpr q)).1, (teq ((lw_eq x y).mpr q)).2⟩
theorem feqL {x y : Int64} (q : ¬ x = y) : ifCond.holds .eq (lcmpW x y) = false ∧ ifCond.holds .ne (lcmpW x y) = true := by
  simp only [if0]
  exact ⟨(feq (mt (lw_eq x y).mp q)).1, (feq (mt (lw_eq x y).mp q)).2⟩
theorem tlt0 {x y : Int32} (q : x < y) : (y = 0 → ifCond.holds .lt x = true ∧ ifCond.holds .ge x = false) ∧ (x = 0 → ifCond.holds .gt y = true ∧ ifCond.holds .le y = false) := by
  refine ⟨fun r => ?_, fun r => ?_⟩ <;> subst r <;> simp only [if0]
  · exact ⟨(tlt q).1, (tlt q).2.1⟩
  · exact ⟨(tlt q).2.2.1, (tlt q).2.2.2⟩
theorem g_iloadN (pc' : Nat) (X : Stand p l e R s m args below meth c T locs cells slots) (hx : p.tables.exec = Jvm.exec) {i : Fin 4} {v : Int32} (hd : decode c.code pc = .ok (.iload_n i, 1)) (hp : pc + 1 = pc') (hl : Ls[i.val]? = some (.val (.int v))) (H : Go p e below s k n Q T (mkF m pc' Ls (.int v :: st))) : Go p e below s k n Q T (mkF m pc Ls st) := by
  subst hp
  exact H.via fun t q => XS.iloadN X.here hx rfl hd hl q
theorem g_iload (pc' : Nat) (X : Stand p l e R s m args below meth c T locs cells slots) (hx : p.tables.exec = Jvm.exec) {i : Nat} {v : Int32} (hd : decode c.code pc = .ok (.iload i, 2)) (hp : pc + 2 = pc') (hl : Ls[i]? = some (.val (.int v))) (H : Go p e below s k n Q T (mkF m pc' Ls (.int v :: st))) : Go p e below s k n Q T (mkF m pc Ls st) := by
  subst hp
  exact H.via fun t q => XS.iload X.here hx rfl hd hl q
theorem g_istoreN (pc' : Nat) (X : Stand p l e R s m args below meth c T locs cells slots) (hx : p.tables.exec = Jvm.exec) {i : Fin 4} {v : Int32} {Ls' : Array Slot} (hd : decode c.code pc = .ok (.istore_n i, 1)) (hp : pc + 1 = pc') (hl : storeLocals Ls i.val (.int v) = some Ls') (H : Go p e below s k n Q T (mkF m pc' Ls' st)) : Go p e below s k n Q T (mkF m pc Ls (.int v :: st)) := by
  subst hp
  exact H.via fun t q => XS.istoreN X.here hx rfl hd rfl hl q
theorem g_istore (pc' : Nat) (X : Stand p l e R s m args below meth c T locs cells slots) (hx : p.tables.exec = Jvm.exec) {i : Nat} {v : Int32} {Ls' : Array Slot} (hd : decode c.code pc = .ok (.istore i, 2)) (hp : pc + 2 = pc') (hl : storeLocals Ls i (.int v) = some Ls') (H : Go p e below s k n Q T (mkF m pc' Ls' st)) : Go p e below s k n Q T (mkF m pc Ls (.int v :: st)) := by
  subst hp
  exact H.via fun t q => XS.istore X.here hx rfl hd rfl hl q
theorem g_lloadN (pc' : Nat) (X : Stand p l e R s m args below meth c T locs cells slots) (hx : p.tables.exec = Jvm.exec) {i : Fin 4} {v : Int64} (hd : decode c.code pc = .ok (.lload_n i, 1)) (hp : pc + 1 = pc') (hl : Ls[i.val]? = some (.val (.long v))) (H : Go p e below s k n Q T (mkF m pc' Ls (.long v :: st))) : Go p e below s k n Q T (mkF m pc Ls st) := by
  subst hp
  exact H.via fun t q => XS.lloadN X.here hx rfl hd hl q
theorem g_lload (pc' : Nat) (X : Stand p l e R s m args below meth c T locs cells slots) (hx : p.tables.exec = Jvm.exec) {i : Nat} {v : Int64} (hd : decode c.code pc = .ok (.lload i, 2)) (hp : pc + 2 = pc') (hl : Ls[i]? = some (.val (.long v))) (H : Go p e below s k n Q T (mkF m pc' Ls (.long v :: st))) : Go p e below s k n Q T (mkF m pc Ls st) := by
  subst hp
  exact H.via fun t q => XS.lload X.here hx rfl hd hl q
theorem g_lstoreN (pc' : Nat) (X : Stand p l e R s m args below meth c T locs cells slots) (hx : p.tables.exec = Jvm.exec) {i : Fin 4} {v : Int64} {Ls' : Array Slot} (hd : decode c.code pc = .ok (.lstore_n i, 1)) (hp : pc + 1 = pc') (hl : storeLocals Ls i.val (.long v) = some Ls') (H : Go p e below s k n Q T (mkF m pc' Ls' st)) : Go p e below s k n Q T (mkF m pc Ls (.long v :: st)) := by
  subst hp
  exact H.via fun t q => XS.lstoreN X.here hx rfl hd rfl hl q
theorem g_lstore (pc' : Nat) (X : Stand p l e R s m args below meth c T locs cells slots) (hx : p.tables.exec = Jvm.exec) {i : Nat} {v : Int64} {Ls' : Array Slot} (hd : decode c.code pc = .ok (.lstore i, 2)) (hp : pc + 2 = pc') (hl : storeLocals Ls i (.long v) = some Ls') (H : Go p e below s k n Q T (mkF m pc' Ls' st)) : Go p e below s k n Q T (mkF m pc Ls (.long v :: st)) := by
  subst hp
  exact H.via fun t q => XS.lstore X.here hx rfl hd rfl hl q
theorem g_aloadN (pc' : Nat) (X : Stand p l e R s m args below meth c T locs cells slots) (hx : p.tables.exec = Jvm.exec) {i : Fin 4} {v : Value} (hd : decode c.code pc = .ok (.aload_n i, 1)) (hp : pc + 1 = pc') (hl : Ls[i.val]? = some (.val v)) (hv : v.isRef = true) (H : Go p e below s k n Q T (mkF m pc' Ls (v :: st))) : Go p e below s k n Q T (mkF m pc Ls st) := by
  subst hp
  exact H.via fun t q => XS.aloadN X.here hx rfl hd hl hv q
theorem g_aload (pc' : Nat) (X : Stand p l e R s m args below meth c T locs cells slots) (hx : p.tables.exec = Jvm.exec) {i : Nat} {v : Value} (hd : decode c.code pc = .ok (.aload i, 2)) (hp : pc + 2 = pc') (hl : Ls[i]? = some (.val v)) (hv : v.isRef = true) (H : Go p e below s k n Q T (mkF m pc' Ls (v :: st))) : Go p e below s k n Q T (mkF m pc Ls st) := by
  subst hp
  exact H.via fun t q => XS.aload X.here hx rfl hd hl hv q
theorem g_astoreN (pc' : Nat) (X : Stand p l e R s m args below meth c T locs cells slots) (hx : p.tables.exec = Jvm.exec) {i : Fin 4} {v : Value} {Ls' : Array Slot} (hd : decode c.code pc = .ok (.astore_n i, 1)) (hp : pc + 1 = pc') (hv : v.isRef = true) (hl : storeLocals Ls i.val v = some Ls') (H : Go p e below s k n Q T (mkF m pc' Ls' st)) : Go p e below s k n Q T (mkF m pc Ls (v :: st)) := by
  subst hp
  exact H.via fun t q => XS.astoreN X.here hx rfl hd rfl hv hl q
theorem g_astore (pc' : Nat) (X : Stand p l e R s m args below meth c T locs cells slots) (hx : p.tables.exec = Jvm.exec) {i : Nat} {v : Value} {Ls' : Array Slot} (hd : decode c.code pc = .ok (.astore i, 2)) (hp : pc + 2 = pc') (hv : v.isRef = true) (hl : storeLocals Ls i v = some Ls') (H : Go p e below s k n Q T (mkF m pc' Ls' st)) : Go p e below s k n Q T (mkF m pc Ls (v :: st)) := by
  subst hp
  exact H.via fun t q => XS.astore X.here hx rfl hd rfl hv hl q
theorem g_iconst (pc' : Nat) (X : Stand p l e R s m args below meth c T locs cells slots) (hx : p.tables.exec = Jvm.exec) {i : Int} {z : Int32} (hd : decode c.code pc = .ok (.iconst i, 1)) (hp : pc + 1 = pc') (hz : Int32.ofInt i = z) (H : Go p e below s k n Q T (mkF m pc' Ls (.int z :: st))) : Go p e below s k n Q T (mkF m pc Ls st) := by
  subst hp hz
  exact H.via fun t q => XS.iconst X.here hx rfl hd q
theorem g_bipush (pc' : Nat) (X : Stand p l e R s m args below meth c T locs cells slots) (hx : p.tables.exec = Jvm.exec) {i : Int} {z : Int32} (hd : decode c.code pc = .ok (.bipush i, 2)) (hp : pc + 2 = pc') (hz : (Int8.ofInt i).toInt32 = z) (H : Go p e below s k n Q T (mkF m pc' Ls (.int z :: st))) : Go p e below s k n Q T (mkF m pc Ls st) := by
  subst hp hz
  exact H.via fun t q => XS.bipush X.here hx rfl hd q
theorem g_sipush (pc' : Nat) (X : Stand p l e R s m args below meth c T locs cells slots) (hx : p.tables.exec = Jvm.exec) {i : Int} {z : Int32} (hd : decode c.code pc = .ok (.sipush i, 3)) (hp : pc + 3 = pc') (hz : (Int16.ofInt i).toInt32 = z) (H : Go p e below s k n Q T (mkF m pc' Ls (.int z :: st))) : Go p e below s k n Q T (mkF m pc Ls st) := by
  subst hp hz
  exact H.via fun t q => XS.sipush X.here hx rfl hd q
theorem g_lconst (pc' : Nat) (X : Stand p l e R s m args below meth c T locs cells slots) (hx : p.tables.exec = Jvm.exec) {i : Fin 2} {z : Int64} (hd : decode c.code pc = .ok (.lconst i, 1)) (hp : pc + 1 = pc') (hz : Int64.ofNat i.val = z) (H : Go p e below s k n Q T (mkF m pc' Ls (.long z :: st))) : Go p e below s k n Q T (mkF m pc Ls st) := by
  subst hp hz
  exact H.via fun t q => XS.lconst X.here hx rfl hd q
theorem g_aconst_null (pc' : Nat) (X : Stand p l e R s m args below meth c T locs cells slots) (hx : p.tables.exec = Jvm.exec) (hd : decode c.code pc = .ok (.aconst_null, 1)) (hp : pc + 1 = pc')  (H : Go p e below s k n Q T (mkF m pc' Ls (.null :: st))) : Go p e below s k n Q T (mkF m pc Ls st) := by
  subst hp
  exact H.via fun t q => XS.aconstNull X.here hx rfl hd q
theorem g_iadd (pc' : Nat) (X : Stand p l e R s m args below meth c T locs cells slots) (hx : p.tables.exec = Jvm.exec) {x y z : Int32} (hd : decode c.code pc = .ok (.iadd, 1)) (hp : pc + 1 = pc') (hz : x + y = z) (H : Go p e below s k n Q T (mkF m pc' Ls (.int z :: st))) : Go p e below s k n Q T (mkF m pc Ls (.int y :: .int x :: st)) := by
  subst hp hz
  exact H.via fun t q => XS.iadd X.here hx rfl hd rfl q
theorem g_isub (pc' : Nat) (X : Stand p l e R s m args below meth c T locs cells slots) (hx : p.tables.exec = Jvm.exec) {x y z : Int32} (hd : decode c.code pc = .ok (.isub, 1)) (hp : pc + 1 = pc') (hz : x - y = z) (H : Go p e below s k n Q T (mkF m pc' Ls (.int z :: st))) : Go p e below s k n Q T (mkF m pc Ls (.int y :: .int x :: st)) := by
  subst hp hz
  exact H.via fun t q => XS.isub X.here hx rfl hd rfl q
theorem g_imul (pc' : Nat) (X : Stand p l e R s m args below meth c T locs cells slots) (hx : p.tables.exec = Jvm.exec) {x y z : Int32} (hd : decode c.code pc = .ok (.imul, 1)) (hp : pc + 1 = pc') (hz : x * y = z) (H : Go p e below s k n Q T (mkF m pc' Ls (.int z :: st))) : Go p e below s k n Q T (mkF m pc Ls (.int y :: .int x :: st)) := by
  subst hp hz
  exact H.via fun t q => XS.imul X.here hx rfl hd rfl q
theorem g_iand (pc' : Nat) (X : Stand p l e R s m args below meth c T locs cells slots) (hx : p.tables.exec = Jvm.exec) {x y z : Int32} (hd : decode c.code pc = .ok (.iand, 1)) (hp : pc + 1 = pc') (hz : x &&& y = z) (H : Go p e below s k n Q T (mkF m pc' Ls (.int z :: st))) : Go p e below s k n Q T (mkF m pc Ls (.int y :: .int x :: st)) := by
  subst hp hz
  exact H.via fun t q => XS.iand X.here hx rfl hd rfl q
theorem g_ior (pc' : Nat) (X : Stand p l e R s m args below meth c T locs cells slots) (hx : p.tables.exec = Jvm.exec) {x y z : Int32} (hd : decode c.code pc = .ok (.ior, 1)) (hp : pc + 1 = pc') (hz : x ||| y = z) (H : Go p e below s k n Q T (mkF m pc' Ls (.int z :: st))) : Go p e below s k n Q T (mkF m pc Ls (.int y :: .int x :: st)) := by
  subst hp hz
  exact H.via fun t q => XS.ior X.here hx rfl hd rfl q
theorem g_ixor (pc' : Nat) (X : Stand p l e R s m args below meth c T locs cells slots) (hx : p.tables.exec = Jvm.exec) {x y z : Int32} (hd : decode c.code pc = .ok (.ixor, 1)) (hp : pc + 1 = pc') (hz : x ^^^ y = z) (H : Go p e below s k n Q T (mkF m pc' Ls (.int z :: st))) : Go p e below s k n Q T (mkF m pc Ls (.int y :: .int x :: st)) := by
  subst hp hz
  exact H.via fun t q => XS.ixor X.here hx rfl hd rfl q
theorem g_ladd (pc' : Nat) (X : Stand p l e R s m args below meth c T locs cells slots) (hx : p.tables.exec = Jvm.exec) {x y z : Int64} (hd : decode c.code pc = .ok (.ladd, 1)) (hp : pc + 1 = pc') (hz : x + y = z) (H : Go p e below s k n Q T (mkF m pc' Ls (.long z :: st))) : Go p e below s k n Q T (mkF m pc Ls (.long y :: .long x :: st)) := by
  subst hp hz
  exact H.via fun t q => XS.ladd X.here hx rfl hd rfl q
theorem g_lsub (pc' : Nat) (X : Stand p l e R s m args below meth c T locs cells slots) (hx : p.tables.exec = Jvm.exec) {x y z : Int64} (hd : decode c.code pc = .ok (.lsub, 1)) (hp : pc + 1 = pc') (hz : x - y = z) (H : Go p e below s k n Q T (mkF m pc' Ls (.long z :: st))) : Go p e below s k n Q T (mkF m pc Ls (.long y :: .long x :: st)) := by
  subst hp hz
  exact H.via fun t q => XS.lsub X.here hx rfl hd rfl q
theorem g_lmul (pc' : Nat) (X : Stand p l e R s m args below meth c T locs cells slots) (hx : p.tables.exec = Jvm.exec) {x y z : Int64} (hd : decode c.code pc = .ok (.lmul, 1)) (hp : pc + 1 = pc') (hz : x * y = z) (H : Go p e below s k n Q T (mkF m pc' Ls (.long z :: st))) : Go p e below s k n Q T (mkF m pc Ls (.long y :: .long x :: st)) := by
  subst hp hz
  exact H.via fun t q => XS.lmul X.here hx rfl hd rfl q
theorem g_land (pc' : Nat) (X : Stand p l e R s m args below meth c T locs cells slots) (hx : p.tables.exec = Jvm.exec) {x y z : Int64} (hd : decode c.code pc = .ok (.land, 1)) (hp : pc + 1 = pc') (hz : x &&& y = z) (H : Go p e below s k n Q T (mkF m pc' Ls (.long z :: st))) : Go p e below s k n Q T (mkF m pc Ls (.long y :: .long x :: st)) := by
  subst hp hz
  exact H.via fun t q => XS.land X.here hx rfl hd rfl q
theorem g_lor (pc' : Nat) (X : Stand p l e R s m args below meth c T locs cells slots) (hx : p.tables.exec = Jvm.exec) {x y z : Int64} (hd : decode c.code pc = .ok (.lor, 1)) (hp : pc + 1 = pc') (hz : x ||| y = z) (H : Go p e below s k n Q T (mkF m pc' Ls (.long z :: st))) : Go p e below s k n Q T (mkF m pc Ls (.long y :: .long x :: st)) := by
  subst hp hz
  exact H.via fun t q => XS.lor X.here hx rfl hd rfl q
theorem g_lxor (pc' : Nat) (X : Stand p l e R s m args below meth c T locs cells slots) (hx : p.tables.exec = Jvm.exec) {x y z : Int64} (hd : decode c.code pc = .ok (.lxor, 1)) (hp : pc + 1 = pc') (hz : x ^^^ y = z) (H : Go p e below s k n Q T (mkF m pc' Ls (.long z :: st))) : Go p e below s k n Q T (mkF m pc Ls (.long y :: .long x :: st)) := by
  subst hp hz
  exact H.via fun t q => XS.lxor X.here hx rfl hd rfl q
theorem g_ishl (pc' : Nat) (X : Stand p l e R s m args below meth c T locs cells slots) (hx : p.tables.exec = Jvm.exec) {x y z : Int32} (hd : decode c.code pc = .ok (.ishl, 1)) (hp : pc + 1 = pc') (hz : x <<< (y &&& 31) = z) (H : Go p e below s k n Q T (mkF m pc' Ls (.int z :: st))) : Go p e below s k n Q T (mkF m pc Ls (.int y :: .int x :: st)) := by
  subst hp hz
  exact H.via fun t q => XS.ishl X.here hx rfl hd rfl q
theorem g_ishr (pc' : Nat) (X : Stand p l e R s m args below meth c T locs cells slots) (hx : p.tables.exec = Jvm.exec) {x y z : Int32} (hd : decode c.code pc = .ok (.ishr, 1)) (hp : pc + 1 = pc') (hz : x >>> (y &&& 31) = z) (H : Go p e below s k n Q T (mkF m pc' Ls (.int z :: st))) : Go p e below s k n Q T (mkF m pc Ls (.int y :: .int x :: st)) := by
  subst hp hz
  exact H.via fun t q => XS.ishr X.here hx rfl hd rfl q
theorem g_iushr (pc' : Nat) (X : Stand p l e R s m args below meth c T locs cells slots) (hx : p.tables.exec = Jvm.exec) {x y z : Int32} (hd : decode c.code pc = .ok (.iushr, 1)) (hp : pc + 1 = pc') (hz : (x.toUInt32 >>> (y &&& 31).toUInt32).toInt32 = z) (H : Go p e below s k n Q T (mkF m pc' Ls (.int z :: st))) : Go p e below s k n Q T (mkF m pc Ls (.int y :: .int x :: st)) := by
  subst hp hz
  exact H.via fun t q => XS.iushr X.here hx rfl hd rfl q
theorem g_lshl (pc' : Nat) (X : Stand p l e R s m args below meth c T locs cells slots) (hx : p.tables.exec = Jvm.exec) {x z : Int64} {y : Int32} (hd : decode c.code pc = .ok (.lshl, 1)) (hp : pc + 1 = pc') (hz : x <<< (y &&& 0x3f).toInt64 = z) (H : Go p e below s k n Q T (mkF m pc' Ls (.long z :: st))) : Go p e below s k n Q T (mkF m pc Ls (.int y :: .long x :: st)) := by
  subst hp hz
  exact H.via fun t q => XS.lshl X.here hx rfl hd rfl q
theorem g_lshr (pc' : Nat) (X : Stand p l e R s m args below meth c T locs cells slots) (hx : p.tables.exec = Jvm.exec) {x z : Int64} {y : Int32} (hd : decode c.code pc = .ok (.lshr, 1)) (hp : pc + 1 = pc') (hz : x >>> (y &&& 0x3f).toInt64 = z) (H : Go p e below s k n Q T (mkF m pc' Ls (.long z :: st))) : Go p e below s k n Q T (mkF m pc Ls (.int y :: .long x :: st)) := by
  subst hp hz
  exact H.via fun t q => XS.lshr X.here hx rfl hd rfl q
theorem g_lushr (pc' : Nat) (X : Stand p l e R s m args below meth c T locs cells slots) (hx : p.tables.exec = Jvm.exec) {x z : Int64} {y : Int32} (hd : decode c.code pc = .ok (.lushr, 1)) (hp : pc + 1 = pc') (hz : (x.toUInt64 >>> (y &&& 0x3f).toInt64.toUInt64).toInt64 = z) (H : Go p e below s k n Q T (mkF m pc' Ls (.long z :: st))) : Go p e below s k n Q T (mkF m pc Ls (.int y :: .long x :: st)) := by
  subst hp hz
  exact H.via fun t q => XS.lushr X.here hx rfl hd rfl q
theorem g_idiv (pc' : Nat) (X : Stand p l e R s m args below meth c T locs cells slots) (hx : p.tables.exec = Jvm.exec) {x y z : Int32} (hd : decode c.code pc = .ok (.idiv, 1)) (hp : pc + 1 = pc') (hy : y ≠ 0) (hz : x / y = z) (H : Go p e below s k n Q T (mkF m pc' Ls (.int z :: st))) : Go p e below s k n Q T (mkF m pc Ls (.int y :: .int x :: st)) := by
  subst hp hz
  exact H.via fun t q => XS.idiv X.here hx rfl hd rfl hy q
theorem g_irem (pc' : Nat) (X : Stand p l e R s m args below meth c T locs cells slots) (hx : p.tables.exec = Jvm.exec) {x y z : Int32} (hd : decode c.code pc = .ok (.irem, 1)) (hp : pc + 1 = pc') (hy : y ≠ 0) (hz : x % y = z) (H : Go p e below s k n Q T (mkF m pc' Ls (.int z :: st))) : Go p e below s k n Q T (mkF m pc Ls (.int y :: .int x :: st)) := by
  subst hp hz
  exact H.via fun t q => iremM X hx rfl hd rfl hy q
theorem g_ldiv (pc' : Nat) (X : Stand p l e R s m args below meth c T locs cells slots) (hx : p.tables.exec = Jvm.exec) {x y z : Int64} (hd : decode c.code pc = .ok (.ldiv, 1)) (hp : pc + 1 = pc') (hy : y ≠ 0) (hz : x / y = z) (H : Go p e below s k n Q T (mkF m pc' Ls (.long z :: st))) : Go p e below s k n Q T (mkF m pc Ls (.long y :: .long x :: st)) := by
  subst hp hz
  exact H.via fun t q => XS.ldiv X.here hx rfl hd rfl hy q
theorem g_lrem (pc' : Nat) (X : Stand p l e R s m args below meth c T locs cells slots) (hx : p.tables.exec = Jvm.exec) {x y z : Int64} (hd : decode c.code pc = .ok (.lrem, 1)) (hp : pc + 1 = pc') (hy : y ≠ 0) (hz : x % y = z) (H : Go p e below s k n Q T (mkF m pc' Ls (.long z :: st))) : Go p e below s k n Q T (mkF m pc Ls (.long y :: .long x :: st)) := by
  subst hp hz
  exact H.via fun t q => XS.lrem X.here hx rfl hd rfl hy (by rw [lrem_mod]; exact q)
theorem g_ineg (pc' : Nat) (X : Stand p l e R s m args below meth c T locs cells slots) (hx : p.tables.exec = Jvm.exec) {x : Int32} {z : Int32} (hd : decode c.code pc = .ok (.ineg, 1)) (hp : pc + 1 = pc') (hz : -x = z) (H : Go p e below s k n Q T (mkF m pc' Ls (.int z :: st))) : Go p e below s k n Q T (mkF m pc Ls (.int x :: st)) := by
  subst hp hz
  exact H.via fun t q => XS.ineg X.here hx rfl hd rfl q
theorem g_lneg (pc' : Nat) (X : Stand p l e R s m args below meth c T locs cells slots) (hx : p.tables.exec = Jvm.exec) {x : Int64} {z : Int64} (hd : decode c.code pc = .ok (.lneg, 1)) (hp : pc + 1 = pc') (hz : -x = z) (H : Go p e below s k n Q T (mkF m pc' Ls (.long z :: st))) : Go p e below s k n Q T (mkF m pc Ls (.long x :: st)) := by
  subst hp hz
  exact H.via fun t q => XS.lneg X.here hx rfl hd rfl q
theorem g_i2l (pc' : Nat) (X : Stand p l e R s m args below meth c T locs cells slots) (hx : p.tables.exec = Jvm.exec) {x : Int32} {z : Int64} (hd : decode c.code pc = .ok (.i2l, 1)) (hp : pc + 1 = pc') (hz : x.toInt64 = z) (H : Go p e below s k n Q T (mkF m pc' Ls (.long z :: st))) : Go p e below s k n Q T (mkF m pc Ls (.int x :: st)) := by
  subst hp hz
  exact H.via fun t q => XS.i2l X.here hx rfl hd rfl q
theorem g_l2i (pc' : Nat) (X : Stand p l e R s m args below meth c T locs cells slots) (hx : p.tables.exec = Jvm.exec) {x : Int64} {z : Int32} (hd : decode c.code pc = .ok (.l2i, 1)) (hp : pc + 1 = pc') (hz : x.toInt32 = z) (H : Go p e below s k n Q T (mkF m pc' Ls (.int z :: st))) : Go p e below s k n Q T (mkF m pc Ls (.long x :: st)) := by
  subst hp hz
  exact H.via fun t q => XS.l2i X.here hx rfl hd rfl q
theorem g_i2b (pc' : Nat) (X : Stand p l e R s m args below meth c T locs cells slots) (hx : p.tables.exec = Jvm.exec) {x : Int32} {z : Int32} (hd : decode c.code pc = .ok (.i2b, 1)) (hp : pc + 1 = pc') (hz : x.toInt8.toInt32 = z) (H : Go p e below s k n Q T (mkF m pc' Ls (.int z :: st))) : Go p e below s k n Q T (mkF m pc Ls (.int x :: st)) := by
  subst hp hz
  exact H.via fun t q => XS.i2b X.here hx rfl hd rfl q
theorem g_i2s (pc' : Nat) (X : Stand p l e R s m args below meth c T locs cells slots) (hx : p.tables.exec = Jvm.exec) {x : Int32} {z : Int32} (hd : decode c.code pc = .ok (.i2s, 1)) (hp : pc + 1 = pc') (hz : x.toInt16.toInt32 = z) (H : Go p e below s k n Q T (mkF m pc' Ls (.int z :: st))) : Go p e below s k n Q T (mkF m pc Ls (.int x :: st)) := by
  subst hp hz
  exact H.via fun t q => XS.i2s X.here hx rfl hd rfl q
theorem g_i2c (pc' : Nat) (X : Stand p l e R s m args below meth c T locs cells slots) (hx : p.tables.exec = Jvm.exec) {x : Int32} {z : Int32} (hd : decode c.code pc = .ok (.i2c, 1)) (hp : pc + 1 = pc') (hz : x.toUInt32.toUInt16.toUInt32.toInt32 = z) (H : Go p e below s k n Q T (mkF m pc' Ls (.int z :: st))) : Go p e below s k n Q T (mkF m pc Ls (.int x :: st)) := by
  subst hp hz
  exact H.via fun t q => XS.i2c X.here hx rfl hd rfl q
theorem g_dup (pc' : Nat) (X : Stand p l e R s m args below meth c T locs cells slots) (hx : p.tables.exec = Jvm.exec) {v : Value} (hd : decode c.code pc = .ok (.dup, 1)) (hp : pc + 1 = pc') (hv : v.category = 1) (H : Go p e below s k n Q T (mkF m pc' Ls (v :: v :: st))) : Go p e below s k n Q T (mkF m pc Ls (v :: st)) := by
  subst hp
  exact H.via fun t q => XS.dup X.here hx rfl hd rfl hv q
theorem g_pop (pc' : Nat) (X : Stand p l e R s m args below meth c T locs cells slots) (hx : p.tables.exec = Jvm.exec) {v : Value} (hd : decode c.code pc = .ok (.pop, 1)) (hp : pc + 1 = pc') (hv : v.category = 1) (H : Go p e below s k n Q T (mkF m pc' Ls st)) : Go p e below s k n Q T (mkF m pc Ls (v :: st)) := by
  subst hp
  exact H.via fun t q => XS.pop X.here hx rfl hd rfl hv q
theorem g_dup_x1 (pc' : Nat) (X : Stand p l e R s m args below meth c T locs cells slots) (hx : p.tables.exec = Jvm.exec) {v w : Value} (hd : decode c.code pc = .ok (.dup_x1, 1)) (hp : pc + 1 = pc') (hv : v.category = 1) (hw : w.category = 1) (H : Go p e below s k n Q T (mkF m pc' Ls (v :: w :: v :: st))) : Go p e below s k n Q T (mkF m pc Ls (v :: w :: st)) := by
  subst hp
  exact H.via fun t q => XS.dupX1 X.here hx rfl hd rfl hv hw q
theorem g_dup2 (pc' : Nat) (X : Stand p l e R s m args below meth c T locs cells slots) (hx : p.tables.exec = Jvm.exec) {v w : Value} (hd : decode c.code pc = .ok (.dup2, 1)) (hp : pc + 1 = pc') (hv : v.category = 1) (hw : w.category = 1) (H : Go p e below s k n Q T (mkF m pc' Ls (v :: w :: v :: w :: st))) : Go p e below s k n Q T (mkF m pc Ls (v :: w :: st)) := by
  subst hp
  exact H.via fun t q => XT.dup2 X.here hx rfl hd rfl hv hw q
theorem g_iinc (pc' : Nat) (X : Stand p l e R s m args below meth c T locs cells slots) (hx : p.tables.exec = Jvm.exec) {i : Nat} {cst : Int} {x z : Int32} {Ls' : Array Slot} (hd : decode c.code pc = .ok (.iinc i cst, 3)) (hp : pc + 3 = pc') (hl : Ls[i]? = some (.val (.int x))) (hz : x + Int32.ofInt cst = z) (hl' : storeLocals Ls i (.int z) = some Ls') (H : Go p e below s k n Q T (mkF m pc' Ls' st)) : Go p e below s k n Q T (mkF m pc Ls st) := by
  subst hp hz
  exact H.via fun t q => XS.iinc X.here hx rfl hd hl hl' q
theorem g_goto (pc' : Nat) (X : Stand p l e R s m args below meth c T locs cells slots) (hx : p.tables.exec = Jvm.exec) {o : Int} (hd : decode c.code pc = .ok (.goto o, 3)) (ho : 0 ≤ (pc : Int) + o) (hp : ((pc : Int) + o).toNat = pc') (H : Go p e below s k n Q T (mkF m pc' Ls st)) : Go p e below s k n Q T (mkF m pc Ls st) :=
  H.via fun t q => XS.goto X.here hx rfl rfl hd ho hp q
theorem g_ifYes (pc' : Nat) (X : Stand p l e R s m args below meth c T locs cells slots) (hx : p.tables.exec = Jvm.exec) {cd : ClassFile.Cond} {x : Int32} {o : Int} (hd : decode c.code pc = .ok (.ifCond cd o, 3)) (hc : ifCond.holds cd x = true) (ho : 0 ≤ (pc : Int) + o) (hp : ((pc : Int) + o).toNat = pc') (H : Go p e below s k n Q T (mkF m pc' Ls st)) : Go p e below s k n Q T (mkF m pc Ls (.int x :: st)) :=
  H.via fun t q => XS.ifYes X.here hx rfl rfl hd rfl hc ho hp q
theorem g_ifNo (pc' : Nat) (X : Stand p l e R s m args below meth c T locs cells slots) (hx : p.tables.exec = Jvm.exec) {cd : ClassFile.Cond} {x : Int32} {o : Int} (hd : decode c.code pc = .ok (.ifCond cd o, 3)) (hc : ifCond.holds cd x = false) (hp : pc + 3 = pc') (H : Go p e below s k n Q T (mkF m pc' Ls st)) : Go p e below s k n Q T (mkF m pc Ls (.int x :: st)) := by
  subst hp
  exact H.via fun t q => XS.ifNo X.here hx rfl hd rfl hc q
theorem g_icmpYes (pc' : Nat) (X : Stand p l e R s m args below meth c T locs cells slots) (hx : p.tables.exec = Jvm.exec) {cd : ClassFile.Cond} {x y : Int32} {o : Int} (hd : decode c.code pc = .ok (.if_icmp cd o, 3)) (hc : if_icmp.holds cd x y = true) (ho : 0 ≤ (pc : Int) + o) (hp : ((pc : Int) + o).toNat = pc') (H : Go p e below s k n Q T (mkF m pc' Ls st)) : Go p e below s k n Q T (mkF m pc Ls (.int y :: .int x :: st)) :=
  H.via fun t q => XS.icmpYes X.here hx rfl rfl hd rfl hc ho hp q
theorem g_icmpNo (pc' : Nat) (X : Stand p l e R s m args below meth c T locs cells slots) (hx : p.tables.exec = Jvm.exec) {cd : ClassFile.Cond} {x y : Int32} {o : Int} (hd : decode c.code pc = .ok (.if_icmp cd o, 3)) (hc : if_icmp.holds cd x y = false) (hp : pc + 3 = pc') (H : Go p e below s k n Q T (mkF m pc' Ls st)) : Go p e below s k n Q T (mkF m pc Ls (.int y :: .int x :: st)) := by
  subst hp
  exact H.via fun t q => XS.icmpNo X.here hx rfl hd rfl hc q
theorem g_lcmpYes (pc' : Nat) (X : Stand p l e R s m args below meth c T locs cells slots) (hx : p.tables.exec = Jvm.exec) {cd : ClassFile.Cond} {x y : Int64} {o : Int} {pc1 : Nat} (hd : decode c.code pc = .ok (.lcmp, 1)) (hp1 : pc + 1 = pc1) (hd' : decode c.code pc1 = .ok (.ifCond cd o, 3)) (hc : ifCond.holds cd (lcmpW x y) = true) (ho : 0 ≤ (pc1 : Int) + o) (hp : ((pc1 : Int) + o).toNat = pc') (H : Go p e below s k n Q T (mkF m pc' Ls st)) : Go p e below s k n Q T (mkF m pc Ls (.long y :: .long x :: st)) := by
  subst hp1
  exact H.via fun t q => XS.lcmp X.here hx rfl hd rfl (XS.ifYes X.here hx rfl rfl hd' rfl hc ho hp q)
theorem g_lcmpNo (pc' : Nat) (X : Stand p l e R s m args below meth c T locs cells slots) (hx : p.tables.exec = Jvm.exec) {cd : ClassFile.Cond} {x y : Int64} {o : Int} {pc1 : Nat} (hd : decode c.code pc = .ok (.lcmp, 1)) (hp1 : pc + 1 = pc1) (hd' : decode c.code pc1 = .ok (.ifCond cd o, 3)) (hc : ifCond.holds cd (lcmpW x y) = false) (hp : pc1 + 3 = pc') (H : Go p e below s k n Q T (mkF m pc' Ls st)) : Go p e below s k n Q T (mkF m pc Ls (.long y :: .long x :: st)) := by
  subst hp1; subst hp
  exact H.via fun t q => XS.lcmp X.here hx rfl hd rfl (XS.ifNo X.here hx rfl hd' rfl hc q)
theorem g_ifnullYes (pc' : Nat) (X : Stand p l e R s m args below meth c T locs cells slots) (hx : p.tables.exec = Jvm.exec) {b : Addr} {o : Int} (hd : decode c.code pc = .ok (.ifnull o, 3)) (ho : 0 ≤ (pc : Int) + o) (hp : ((pc : Int) + o).toNat = pc') (H : Go p e below s k n Q T (mkF m pc' Ls st)) : Go p e below s k n Q T (mkF m pc Ls (.null :: st)) :=
  H.via fun t q => XS.ifnullYes X.here hx rfl rfl hd rfl ho hp q
theorem g_ifnullNo (pc' : Nat) (X : Stand p l e R s m args below meth c T locs cells slots) (hx : p.tables.exec = Jvm.exec) {b : Addr} {o : Int} (hd : decode c.code pc = .ok (.ifnull o, 3)) (hp : pc + 3 = pc') (H : Go p e below s k n Q T (mkF m pc' Ls st)) : Go p e below s k n Q T (mkF m pc Ls (.ref b :: st)) := by
  subst hp
  exact H.via fun t q => XS.ifnullNo X.here hx rfl hd rfl q
theorem g_ifnonnullYes (pc' : Nat) (X : Stand p l e R s m args below meth c T locs cells slots) (hx : p.tables.exec = Jvm.exec) {b : Addr} {o : Int} (hd : decode c.code pc = .ok (.ifnonnull o, 3)) (ho : 0 ≤ (pc : Int) + o) (hp : ((pc : Int) + o).toNat = pc') (H : Go p e below s k n Q T (mkF m pc' Ls st)) : Go p e below s k n Q T (mkF m pc Ls (.ref b :: st)) :=
  H.via fun t q => XS.ifnonnullYes X.here hx rfl rfl hd rfl ho hp q
theorem g_ifnonnullNo (pc' : Nat) (X : Stand p l e R s m args below meth c T locs cells slots) (hx : p.tables.exec = Jvm.exec) {b : Addr} {o : Int} (hd : decode c.code pc = .ok (.ifnonnull o, 3)) (hp : pc + 3 = pc') (H : Go p e below s k n Q T (mkF m pc' Ls st)) : Go p e below s k n Q T (mkF m pc Ls (.null :: st)) := by
  subst hp
  exact H.via fun t q => XS.ifnonnullNo X.here hx rfl hd rfl q
theorem g_ldc (pc' : Nat) (X : Stand p l e R s m args below meth c T locs cells slots) (hx : p.tables.exec = Jvm.exec) (hZ : Z.Warmed39 s.vm) {own : String} {index : Nat} {z : Int32} (hown : s.vm.findClass own = some m.cls) (w : (Cond.constant own index z).before a0 Z = true) (hd : decode c.code pc = .ok (.ldc index, 2)) (hp : pc + 2 = pc') (H : Go p e below s k n Q T (mkF m pc' Ls (.int z :: st))) : Go p e below s k n Q T (mkF m pc Ls st) := by
  subst hp
  exact H.via fun t q => X.ldcInt hx hown (mvT hZ w) (g := mkF m pc Ls st) rfl hd t q
theorem g_ldc2 (pc' : Nat) (X : Stand p l e R s m args below meth c T locs cells slots) (hx : p.tables.exec = Jvm.exec) (hZ : Z.Warmed39 s.vm) {own : String} {index : Nat} {z : Int64} (hown : s.vm.findClass own = some m.cls) (w : (Cond.constantLong own index z).before a0 Z = true) (hd : decode c.code pc = .ok (.ldc2_w index, 3)) (hp : pc + 3 = pc') (H : Go p e below s k n Q T (mkF m pc' Ls (.long z :: st))) : Go p e below s k n Q T (mkF m pc Ls st) := by
  subst hp
  exact H.via fun t q => X.ldc2Long hx hown (mvT hZ w) (g := mkF m pc Ls st) rfl hd t q
theorem g_retI (X : Stand p l e R s m args below meth c T locs cells slots) (hx : p.tables.exec = Jvm.exec) (hret : meth.sig.returnType = some .int) (hlk : meth.locks = false) {z : Int32} (hd : decode c.code pc = .ok (.ireturn, 1)) (hk : cells ≤ k) (hn : slots ≤ n) (hQ : Q (some (.int z)) T.heap locs) : Go p e below s k n Q T (mkF m pc Ls (.int z :: st)) := by
  obtain ⟨fs, hr, hrun, hended, hW, hsame⟩ := X.leave (v := some (.int z)) (fun q => by rw [hret] at q; cases q) hlk
  exact ⟨_, _, retOut X hx hret rfl (Or.inl ⟨rfl, Or.inl rfl, z, rfl⟩) hd hr, hrun, hended, _, _, rfl, hQ, ⟨_, rfl⟩, hW, hsame.mono hk hn⟩
theorem g_retJ (X : Stand p l e R s m args below meth c T locs cells slots) (hx : p.tables.exec = Jvm.exec) (hret : meth.sig.returnType = some .long) (hlk : meth.locks = false) {z : Int64} (hd : decode c.code pc = .ok (.lreturn, 1)) (hk : cells ≤ k) (hn : slots ≤ n) (hQ : Q (some (.long z)) T.heap locs) : Go p e below s k n Q T (mkF m pc Ls (.long z :: st)) := by
  obtain ⟨fs, hr, hrun, hended, hW, hsame⟩ := X.leave (v := some (.long z)) (fun q => by rw [hret] at q; cases q) hlk
  exact ⟨_, _, retOut X hx hret rfl (Or.inr (Or.inl ⟨rfl, rfl, z, rfl⟩)) hd hr, hrun, hended, _, _, rfl, hQ, ⟨_, rfl⟩, hW, hsame.mono hk hn⟩
theorem g_retA {ty : FieldType} (X : Stand p l e R s m args below meth c T locs cells slots) (hx : p.tables.exec = Jvm.exec) (hret : meth.sig.returnType = some ty) (hlk : meth.locks = false) {v : Value} (hty : ty.isReference = true) (hv : v.isRef = true) (hnv : narrow ty v = v) (hd : decode c.code pc = .ok (.areturn, 1)) (hk : cells ≤ k) (hn : slots ≤ n) (hQ : Q (some v) T.heap locs) : Go p e below s k n Q T (mkF m pc Ls (v :: st)) := by
  obtain ⟨fs, hr, hrun, hended, hW, hsame⟩ := X.leave (v := some v) (fun q => by rw [hret] at q; cases q) hlk
  exact ⟨_, _, retOut X hx hret hnv (Or.inr (Or.inr (Or.inr (Or.inr ⟨rfl, hty, hv⟩)))) hd hr, hrun, hended, _, _, rfl, hQ, ⟨_, rfl⟩, hW, hsame.mono hk hn⟩
theorem g_ret0 (X : Stand p l e R s m args below meth c T locs cells slots) (hx : p.tables.exec = Jvm.exec) (hret : meth.sig.returnType = none) (hlk : meth.locks = false) (hd : decode c.code pc = .ok (.return_, 1)) (hk : cells ≤ k) (hn : slots ≤ n) (hQ : Q (none) T.heap locs) : Go p e below s k n Q T (mkF m pc Ls []) := by
  obtain ⟨fs, hr, hrun, hended, hW, hsame⟩ := X.leave (v := none) (fun _ => rfl) hlk
  exact ⟨_, _, X.returnOut hx hret hd hr, hrun, hended, _, _, rfl, hQ, ⟨_, rfl⟩, hW, hsame.mono hk hn⟩
theorem g_retN (X : Stand p l e R s m args below meth c T locs cells slots) (hx : p.tables.exec = Jvm.exec) {t : FieldType} (hret : meth.sig.returnType = some t) (hlk : meth.locks = false) {z z' : Int32} (ht : t = .boolean ∨ t = .byte ∨ t = .char ∨ t = .short) (hz : nar t z = z') (hd : decode c.code pc = .ok (.ireturn, 1)) (hk : cells ≤ k) (hn : slots ≤ n) (hQ : Q (some (.int z')) T.heap locs) : Go p e below s k n Q T (mkF m pc Ls (.int z :: st)) := by
  subst hz
  obtain ⟨fs, hr, hrun, hended, hW, hsame⟩ := X.leave (v := some (.int (nar t z))) (fun q => by rw [hret] at q; cases q) hlk
  exact ⟨_, _, retN X hx hret ht hd hr, hrun, hended, _, _, rfl, hQ, ⟨_, rfl⟩, hW, hsame.mono hk hn⟩
theorem g_getF (pc' : Nat) (X : Stand p l e R s m args below meth c T locs cells slots) (hx : p.tables.exec = Jvm.exec) (hZ : Z.Warmed39 s.vm) {own R0 O nm d : String} {index : Nat} (hown : s.vm.findClass own = some m.cls) (w : (Cond.fieldLink own index R0 nm d).before a0 Z = true) (via : Via Z R0 O nm d) (eT : T.heap = h) {a : Addr} {v : Value} (F : Fld Z h a O nm d v) (hd : decode c.code pc = .ok (.getfield index, 3)) (hp : pc + 3 = pc') (H : ∀ T', Stand p l e R s m args below meth c T' locs cells slots → T'.heap = h → Go p e below s k n Q T' (mkF m pc' Ls (v :: st))) : Go p e below s k n Q T (mkF m pc Ls (.ref a :: st)) := by
  subst hp
  obtain ⟨T', X', e', q⟩ := getF X hx hZ hown (host := "") (Or.inl w) via eT F (g := mkF m pc Ls (.ref a :: st)) rfl rfl hd
  exact (H T' X' e').via q
theorem g_putF (pc' : Nat) (X : Stand p l e R s m args below meth c T locs cells slots) (hx : p.tables.exec = Jvm.exec) (hZ : Z.Warmed39 s.vm) {own R0 O nm d C : String} {index kk : Nat} {ty : FieldType} (hown : s.vm.findClass own = some m.cls) (w : (Cond.fieldLink own index R0 nm d).before a0 Z = true) (via : Via Z R0 O nm d) (eT : T.heap = h) {a : Addr} {v old : Value} (F : Fld Z h a O nm d old) (E : Exa Z h a C) (L : (Cond.lays C O nm d).before a0 Z = true ∨ ((Cond.laysFinal C O nm d).before a0 Z = true ∧ own = O ∧ meth.name = "<init>")) (wi : (Cond.instantiable C kk).before a0 Z = true) (hty : parseFieldDescriptor d = some ty) (hn : narrow ty v = v) (hf : fits ty v = true) (hd : decode c.code pc = .ok (.putfield index, 3)) (hp : pc + 3 = pc') (H : ∀ T' h', Stand p l e R s m args below meth c T' (locs ++ [⟨a, Jvm.RoadKit.slotOf Z O nm d⟩]) cells slots → T'.heap = h' → Wr h h' a (Jvm.RoadKit.slotOf Z O nm d) v → Go p e below s k n Q T' (mkF m pc' Ls st)) : Go p e below s k n Q T (mkF m pc Ls (v :: .ref a :: st)) := by
  subst hp
  obtain ⟨T', h', X', e', W, q⟩ := putF X hx hZ hown (host := "") (Or.inl w) via eT F E L wi hty hn hf (g := mkF m pc Ls (v :: .ref a :: st)) rfl rfl hd
  exact (H T' h' X' e' W).via q
theorem g_newO (pc' : Nat) (X : Stand p l e R s m args below meth c T locs cells slots) (hx : p.tables.exec = Jvm.exec) (hZ : Z.Warmed39 s.vm) {own C : String} {index nn : Nat} (hown : s.vm.findClass own = some m.cls) (w : (Cond.classLink own index C).before a0 Z = true) (wi : (Cond.instantiable C nn).before a0 Z = true) (wz : (Cond.initialized C).before a0 Z = true) (eT : T.heap = h) (hd : decode c.code pc = .ok (.new index, 3)) (hc : cells + 1 ≤ R.cells) (hl : slots + nn ≤ R.slots) (hp : pc + 3 = pc') (H : ∀ T' h' b, Stand p l e R s m args below meth c T' locs (cells + 1) (slots + nn) → T'.heap = h' → Ext h h' → b = h.size → Exa Z h' b C → (∀ {O nm d : String} {ty : FieldType}, Laid Z a0 C O nm d → parseFieldDescriptor d = some ty → Fld Z h' b O nm d (defaultValue ty)) → Go p e below s k n Q T' (mkF m pc' Ls (.ref b :: st))) : Go p e below s k n Q T (mkF m pc Ls st) := by
  subst hp
  obtain ⟨T', h', X', e', E, A, D, -, q⟩ := newO X hx hZ hown w wi wz eT (g := mkF m pc Ls st) rfl hd hc hl
  exact (H T' h' _ X' e' E rfl A D).via q
theorem g_initO (pc' : Nat) (X : Stand p l e R s m args below meth c T locs cells slots) (hx : p.tables.exec = Jvm.exec) (hZ : Z.Warmed39 s.vm) {own : String} {idx : Nat} (hown : s.vm.findClass own = some m.cls) (w1 : (Cond.methodLink own idx Lib.objectInit).before a0 Z = true) (w2 : (Cond.instanceMethod Lib.objectInit).before a0 Z = true) (w3 : (Cond.code Lib.objectInit ⟨#[0xb1]⟩ 1 none).before a0 Z = true) (eT : T.heap = h) (hsize : Ls.size = c.maxLocals) {a : Addr} (hd : decode c.code pc = .ok (.invokespecial idx, 3)) (hf : 1 ≤ R.frames) (W : Nat) (hW : (st.map fun v => v.category).sum ≤ W) (hl : W + 12 ≤ R.locals) (hp : pc + 3 = pc') (H : ∀ T', Stand p l e R s m args below meth c T' locs cells slots → T'.heap = h → Go p e below s k n Q T' (mkF m pc' Ls st)) : Go p e below s k n Q T (mkF m pc Ls (.ref a :: st)) := by
  subst hp
  obtain ⟨T', X', e', q⟩ := initO X hx hZ hown w1 w2 w3 eT (g := mkF m pc Ls (.ref a :: st)) rfl hsize rfl hd hf (W := W) (by show 2 * 0 + _ ≤ _; omega) hl
  exact (H T' X' e').via q
theorem g_callS (pc' : Nat) (X : Stand p l e R s m args below meth c T locs cells slots) (hx : p.tables.exec = Jvm.exec) (hZ : Z.Warmed39 s.vm) {own : String} {index : Nat} {y : MethodName} {bytes : ByteArray} {maxL : Nat} {ret : Option FieldType} {rm : Room} {as' : Array Value} {Qc : Option Value → Heap → List Loc → Prop} (hown : s.vm.findClass own = some m.cls) (w1 : (Cond.methodLink own index y).before a0 Z = true) (w2 : (Cond.static y).before a0 Z = true) (w3 : (Cond.initialized y.cls).before a0 Z = true) (w4 : (Cond.code y bytes maxL ret).before a0 Z = true) (hy : y.cls ≠ "java/lang/invoke/MethodHandle" ∧ y.cls ≠ "java/lang/invoke/VarHandle") (eT : T.heap = h) (hM : MetFree l y (head1 [Cond.code y bytes maxL ret] rm) (fun a U => a = as' ∧ Z.Warmed39 U.vm ∧ U.heap = h) (fun _ _ _ _ _ => True) (fun _ U o U' => ∃ v L, o = .returned v ∧ Qc v U'.heap L ∧ FrameEnd U o U' L rm.cells rm.slots)) (hsize : Ls.size = c.maxLocals) (argsL rest : List Value) (ha : argsL.toArray = as') (hst : st = argsL.reverse ++ rest) (hlen : ∀ sig, parseMethodDescriptor y.desc = some sig → argsL.length = sig.parameters.length) (W : Nat) (hW : (rest.map fun v => v.category).sum ≤ W) (hd : decode c.code pc = .ok (.invokestatic index, 3)) (hfr : rm.frames + 1 ≤ R.frames) (hlo : W + (maxL + 11) + rm.locals ≤ R.locals) (hce : cells + rm.cells ≤ R.cells) (hsl : slots + rm.slots ≤ R.slots) (hp : pc + 3 = pc') (H : ∀ v T' L, Stand p l e R s m args below meth c T' (locs ++ L) (cells + rm.cells) (slots + rm.slots) → Qc v T'.heap L → Go p e below s k n Q T' (mkF m pc' Ls (v.toList ++ rest))) : Go p e below s k n Q T (mkF m pc Ls st) := by
  subst hp hst
  obtain ⟨v, _, ⟨T', L, k', n'⟩, -, X', ⟨Lc, hQ, l1, l2, l3⟩, q⟩ := Jvm.LawKit.callS X hx (y := y) hown (mvT hZ w1) (mvT hZ w2) (mvT hZ w3) (mvT hZ w4) hy (backOf (W := W) hM hZ w4 w3 hfr hlo) (g := mkF m pc Ls (argsL.reverse ++ rest)) rfl hsize (argsL := argsL) (rest := rest) hlen rfl (by show 2 * 0 + _ ≤ _; omega) hd (fun _ _ => ⟨ha, eT, hce, hsl⟩)
  dsimp only [Pt.U, Pt.locs, Pt.cells, Pt.slots] at X' l1 l2 l3 q hQ
  subst l1 l2 l3
  exact (H v T' Lc X' hQ).via q
theorem g_callI (pc' : Nat) (X : Stand p l e R s m args below meth c T locs cells slots) (hx : p.tables.exec = Jvm.exec) (hZ : Z.Warmed39 s.vm) {own : String} {index : Nat} {y : MethodName} {bytes : ByteArray} {maxL : Nat} {rm : Room} {as' : Array Value} {Qc : Option Value → Heap → List Loc → Prop} (hy1 : y.name = "<init>") (hown : s.vm.findClass own = some m.cls) (w1 : (Cond.methodLink own index y).before a0 Z = true) (w2 : (Cond.instanceMethod y).before a0 Z = true) (w3 : (Cond.initialized y.cls).before a0 Z = true) (w4 : (Cond.code y bytes maxL none).before a0 Z = true) (hy : y.cls ≠ "java/lang/invoke/MethodHandle" ∧ y.cls ≠ "java/lang/invoke/VarHandle") (eT : T.heap = h) (hM : MetFree l y (head1 [Cond.code y bytes maxL none] rm) (fun a U => a = as' ∧ Z.Warmed39 U.vm ∧ U.heap = h) (fun _ _ _ _ _ => True) (fun _ U o U' => ∃ v L, o = .returned v ∧ Qc v U'.heap L ∧ FrameEnd U o U' L rm.cells rm.slots)) (hsize : Ls.size = c.maxLocals) (a : Addr) (argsL rest : List Value) (ha : (.ref a :: argsL).toArray = as') (hst : st = argsL.reverse ++ .ref a :: rest) (hlen : ∀ sig, parseMethodDescriptor y.desc = some sig → argsL.length = sig.parameters.length) (W : Nat) (hW : (rest.map fun v => v.category).sum ≤ W) (hd : decode c.code pc = .ok (.invokespecial index, 3)) (hfr : rm.frames + 1 ≤ R.frames) (hlo : W + (maxL + 11) + rm.locals ≤ R.locals) (hce : cells + rm.cells ≤ R.cells) (hsl : slots + rm.slots ≤ R.slots) (hp : pc + 3 = pc') (H : ∀ v T' L, Stand p l e R s m args below meth c T' (locs ++ L) (cells + rm.cells) (slots + rm.slots) → Qc v T'.heap L → Go p e below s k n Q T' (mkF m pc' Ls (v.toList ++ rest))) : Go p e below s k n Q T (mkF m pc Ls st) := by
  subst hp hst
  obtain ⟨v, _, ⟨T', L, k', n'⟩, -, X', ⟨Lc, hQ, l1, l2, l3⟩, q⟩ := X.specialBack hx (y := y) hy1 hown (mvT hZ w1) (mvT hZ w2) (mvT hZ w4) hy (backOf (W := W) hM hZ w4 w3 hfr hlo) (g := mkF m pc Ls (argsL.reverse ++ .ref a :: rest)) rfl hsize (Steps.refl _) (a := a) (argsL := argsL) (rest := rest) hlen rfl (by show 2 * 0 + _ ≤ _; omega) hd (fun _ _ => ⟨ha, eT, hce, hsl⟩)
  dsimp only [Pt.U, Pt.locs, Pt.cells, Pt.slots] at X' l1 l2 l3 q hQ
  subst l1 l2 l3
  exact (H v T' Lc X' hQ).via fun t r => q.trans r
theorem g_callV (pc' : Nat) (X : Stand p l e R s m args below meth c T locs cells slots) (hx : p.tables.exec = Jvm.exec) (hZ : Z.Warmed39 s.vm) {own : String} {index : Nat} {y : MethodName} {bytes : ByteArray} {maxL : Nat} {ret : Option FieldType} {rm : Room} {as' : Array Value} {Qc : Option Value → Heap → List Loc → Prop} (hown : s.vm.findClass own = some m.cls) (w1 : (Cond.methodLink own index y).before a0 Z = true) (w2 : (Cond.declares y).before a0 Z = true) (w5 : (Cond.selects y.cls y y).before a0 Z = true) (w6 : (Cond.instanceMethod y).before a0 Z = true) (w3 : (Cond.initialized y.cls).before a0 Z = true) (w4 : (Cond.code y bytes maxL ret).before a0 Z = true) (hy : y.cls ≠ "java/lang/invoke/MethodHandle" ∧ y.cls ≠ "java/lang/invoke/VarHandle") (eT : T.heap = h) {a : Addr} (E : Exa Z h a y.cls) (hM : MetFree l y (head1 [Cond.code y bytes maxL ret] rm) (fun a U => a = as' ∧ Z.Warmed39 U.vm ∧ U.heap = h) (fun _ _ _ _ _ => True) (fun _ U o U' => ∃ v L, o = .returned v ∧ Qc v U'.heap L ∧ FrameEnd U o U' L rm.cells rm.slots)) (hsize : Ls.size = c.maxLocals) (argsL rest : List Value) (ha : (.ref a :: argsL).toArray = as') (hst : st = argsL.reverse ++ .ref a :: rest) (hlen : ∀ sig, parseMethodDescriptor y.desc = some sig → argsL.length = sig.parameters.length) (W : Nat) (hW : (rest.map fun v => v.category).sum ≤ W) (hd : decode c.code pc = .ok (.invokevirtual index, 3)) (hfr : rm.frames + 1 ≤ R.frames) (hlo : W + (maxL + 11) + rm.locals ≤ R.locals) (hce : cells + rm.cells ≤ R.cells) (hsl : slots + rm.slots ≤ R.slots) (hp : pc + 3 = pc') (H : ∀ v T' L, Stand p l e R s m args below meth c T' (locs ++ L) (cells + rm.cells) (slots + rm.slots) → Qc v T'.heap L → Go p e below s k n Q T' (mkF m pc' Ls (v.toList ++ rest))) : Go p e below s k n Q T (mkF m pc Ls st) := by
  subst hp hst
  obtain ⟨cq, kq, qa, qb, qc⟩ := isOf hZ eT E
  obtain ⟨v, _, ⟨T', L, k', n'⟩, -, X', ⟨Lc, hQ, l1, l2, l3⟩, q⟩ := X.virtualBack hx (y := y) (z := y) hown (mvT hZ w1) (mvT hZ w2) (notFace_of_selects (args := #[]) (mvT hZ w5)) (mvT hZ w5) (mvT hZ w6) hy (backOf (W := W) hM hZ w4 w3 hfr hlo) qa qc (g := mkF m pc Ls (argsL.reverse ++ .ref a :: rest)) rfl hsize (Steps.refl _) (argsL := argsL) (rest := rest) hlen rfl (by show 2 * 0 + _ ≤ _; omega) hd (fun _ _ => ⟨ha, eT, hce, hsl⟩)
  dsimp only [Pt.U, Pt.locs, Pt.cells, Pt.slots] at X' l1 l2 l3 q hQ
  subst l1 l2 l3
  exact (H v T' Lc X' hQ).via fun t r => q.trans r
/-- an array of ints (bytes, chars, shorts, booleans) at a, whole -/
def AI (Z : State) (h : Heap) (a : Addr) (ty : FieldType) (bs : List Int32) : Prop := ∃ c : Cell, Arr Z h a c ty ∧ c.slots = (bs.map Value.int).toArray ∧ bs.length < 2 ^ 31
/-- an array of longs at a, whole -/
def AJ (Z : State) (h : Heap) (a : Addr) (bs : List Int64) : Prop := ∃ c : Cell, Arr Z h a c .long ∧ c.slots = (bs.map Value.long).toArray ∧ bs.length < 2 ^ 31
theorem AI.lt {a : Addr} {ty : FieldType} {bs : List Int32} (A : AI Z h a ty bs) : a < h.size := by obtain ⟨c, A, -⟩ := A; exact A.lt
theorem AI.ext {a : Addr} {ty : FieldType} {bs : List Int32} (A : AI Z h a ty bs) (E : Ext h h') : AI Z h' a ty bs := by obtain ⟨c, A, r⟩ := A; exact ⟨c, A.ext E, r⟩
theorem AI.other {a b : Addr} {ty : FieldType} {bs : List Int32} {sl : Nat} {v : Value} (A : AI Z h b ty bs) (W : Wr h h' a sl v) (q : b ≠ a) : AI Z h' b ty bs := by obtain ⟨c, A, r⟩ := A; exact ⟨c, A.other W q, r⟩
theorem AI.keep {a : Addr} {ty : FieldType} {bs : List Int32} {ws : List Addr} (A : AI Z h a ty bs) (K : Keep h h' ws) (q : a ∉ ws) : AI Z h' a ty bs := by obtain ⟨c, A, r⟩ := A; exact ⟨c, ⟨K.2.1 a c A.1 q, A.2⟩, r⟩
theorem AJ.lt {a : Addr} {bs : List Int64} (A : AJ Z h a bs) : a < h.size := by obtain ⟨c, A, -⟩ := A; exact A.lt
theorem AJ.ext {a : Addr} {bs : List Int64} (A : AJ Z h a bs) (E : Ext h h') : AJ Z h' a bs := by obtain ⟨c, A, r⟩ := A; exact ⟨c, A.ext E, r⟩
theorem AJ.other {a b : Addr} {bs : List Int64} {sl : Nat} {v : Value} (A : AJ Z h b bs) (W : Wr h h' a sl v) (q : b ≠ a) : AJ Z h' b bs := by obtain ⟨c, A, r⟩ := A; exact ⟨c, A.other W q, r⟩
theorem AJ.keep {a : Addr} {bs : List Int64} {ws : List Addr} (A : AJ Z h a bs) (K : Keep h h' ws) (q : a ∉ ws) : AJ Z h' a bs := by obtain ⟨c, A, r⟩ := A; exact ⟨c, ⟨K.2.1 a c A.1 q, A.2⟩, r⟩
theorem own_inI {a : Addr} {c : Cell} {bs : List Int32} {j : Int32} {i : Nat} (S : c.slots = (bs.map Value.int).toArray) (h0 : ¬ j < 0) (hj : j.toNatClampNeg = i) (hi : i < bs.length) : ¬ (j < 0 ∨ c.slots.size ≤ j.toNatClampNeg) := by
  rw [S]; simp [h0, hj]; omega
theorem own_inJ {a : Addr} {c : Cell} {bs : List Int64} {j : Int32} {i : Nat} (S : c.slots = (bs.map Value.long).toArray) (h0 : ¬ j < 0) (hj : j.toNatClampNeg = i) (hi : i < bs.length) : ¬ (j < 0 ∨ c.slots.size ≤ j.toNatClampNeg) := by
  rw [S]; simp [h0, hj]; omega
theorem own_setI {c : Cell} {bs : List Int32} {i : Nat} {x : Int32} (S : c.slots = (bs.map Value.int).toArray) : (c.setSlot i (.int x)).slots = ((bs.set i x).map Value.int).toArray := by
  simp [Cell.setSlot, S, List.map_set]
theorem own_setJ {c : Cell} {bs : List Int64} {i : Nat} {x : Int64} (S : c.slots = (bs.map Value.long).toArray) : (c.setSlot i (.long x)).slots = ((bs.set i x).map Value.long).toArray := by
  simp [Cell.setSlot, S, List.map_set]
theorem g_bastore (pc' : Nat) (X : Stand p l e R s m args below meth c T locs cells slots) (hx : p.tables.exec = Jvm.exec) (hZ : Z.Warmed39 s.vm) (eT : T.heap = h) {a : Addr} {bs : List Int32} (A : AI Z h a .byte bs) {j x : Int32} (i : Nat) (h0 : ¬ j < 0) (hj : j.toNatClampNeg = i) (hi : i < bs.length) {z : Int32} (hz : x.toInt8.toInt32 = z) (hd : decode c.code pc = .ok (.bastore, 1)) (hp : pc + 1 = pc') (H : ∀ T' h', Stand p l e R s m args below meth c T' (locs ++ [⟨a, i⟩]) cells slots → T'.heap = h' → Wr h h' a i (.int z) → AI Z h' a .byte (bs.set i z) → Go p e below s k n Q T' (mkF m pc' Ls st)) : Go p e below s k n Q T (mkF m pc Ls (.int x :: .int j :: .ref a :: st)) := by
  subst hp hz hj
  obtain ⟨cl, A, S, hl⟩ := A
  obtain ⟨T', h', X', e', W, q⟩ := stB X hx hZ eT A (own_inI (a := a) S h0 rfl hi) (g := mkF m pc Ls (.int x :: .int j :: .ref a :: st)) rfl rfl hd
  exact (H T' h' X' e' W ⟨_, A.same W, own_setI S, by simpa using hl⟩).via q
theorem g_iastore (pc' : Nat) (X : Stand p l e R s m args below meth c T locs cells slots) (hx : p.tables.exec = Jvm.exec) (hZ : Z.Warmed39 s.vm) (eT : T.heap = h) {a : Addr} {bs : List Int32} (A : AI Z h a .int bs) {j x : Int32} (i : Nat) (h0 : ¬ j < 0) (hj : j.toNatClampNeg = i) (hi : i < bs.length) {z : Int32} (hz : x = z) (hd : decode c.code pc = .ok (.iastore, 1)) (hp : pc + 1 = pc') (H : ∀ T' h', Stand p l e R s m args below meth c T' (locs ++ [⟨a, i⟩]) cells slots → T'.heap = h' → Wr h h' a i (.int z) → AI Z h' a .int (bs.set i z) → Go p e below s k n Q T' (mkF m pc' Ls st)) : Go p e below s k n Q T (mkF m pc Ls (.int x :: .int j :: .ref a :: st)) := by
  subst hp hz hj
  obtain ⟨cl, A, S, hl⟩ := A
  obtain ⟨T', h', X', e', W, q⟩ := stI X hx hZ eT A (own_inI (a := a) S h0 rfl hi) (g := mkF m pc Ls (.int x :: .int j :: .ref a :: st)) rfl rfl hd
  exact (H T' h' X' e' W ⟨_, A.same W, own_setI S, by simpa using hl⟩).via q
theorem g_castore (pc' : Nat) (X : Stand p l e R s m args below meth c T locs cells slots) (hx : p.tables.exec = Jvm.exec) (hZ : Z.Warmed39 s.vm) (eT : T.heap = h) {a : Addr} {bs : List Int32} (A : AI Z h a .char bs) {j x : Int32} (i : Nat) (h0 : ¬ j < 0) (hj : j.toNatClampNeg = i) (hi : i < bs.length) {z : Int32} (hz : x.toUInt32.toUInt16.toUInt32.toInt32 = z) (hd : decode c.code pc = .ok (.castore, 1)) (hp : pc + 1 = pc') (H : ∀ T' h', Stand p l e R s m args below meth c T' (locs ++ [⟨a, i⟩]) cells slots → T'.heap = h' → Wr h h' a i (.int z) → AI Z h' a .char (bs.set i z) → Go p e below s k n Q T' (mkF m pc' Ls st)) : Go p e below s k n Q T (mkF m pc Ls (.int x :: .int j :: .ref a :: st)) := by
  subst hp hz hj
  obtain ⟨cl, A, S, hl⟩ := A
  obtain ⟨T', h', X', e', W, q⟩ := stC X hx hZ eT A (own_inI (a := a) S h0 rfl hi) (g := mkF m pc Ls (.int x :: .int j :: .ref a :: st)) rfl rfl hd
  exact (H T' h' X' e' W ⟨_, A.same W, own_setI S, by simpa using hl⟩).via q
theorem g_sastore (pc' : Nat) (X : Stand p l e R s m args below meth c T locs cells slots) (hx : p.tables.exec = Jvm.exec) (hZ : Z.Warmed39 s.vm) (eT : T.heap = h) {a : Addr} {bs : List Int32} (A : AI Z h a .short bs) {j x : Int32} (i : Nat) (h0 : ¬ j < 0) (hj : j.toNatClampNeg = i) (hi : i < bs.length) {z : Int32} (hz : x.toInt16.toInt32 = z) (hd : decode c.code pc = .ok (.sastore, 1)) (hp : pc + 1 = pc') (H : ∀ T' h', Stand p l e R s m args below meth c T' (locs ++ [⟨a, i⟩]) cells slots → T'.heap = h' → Wr h h' a i (.int z) → AI Z h' a .short (bs.set i z) → Go p e below s k n Q T' (mkF m pc' Ls st)) : Go p e below s k n Q T (mkF m pc Ls (.int x :: .int j :: .ref a :: st)) := by
  subst hp hz hj
  obtain ⟨cl, A, S, hl⟩ := A
  obtain ⟨T', h', X', e', W, q⟩ := stS X hx hZ eT A (own_inI (a := a) S h0 rfl hi) (g := mkF m pc Ls (.int x :: .int j :: .ref a :: st)) rfl rfl hd
  exact (H T' h' X' e' W ⟨_, A.same W, own_setI S, by simpa using hl⟩).via q
theorem g_lastore (pc' : Nat) (X : Stand p l e R s m args below meth c T locs cells slots) (hx : p.tables.exec = Jvm.exec) (hZ : Z.Warmed39 s.vm) (eT : T.heap = h) {a : Addr} {bs : List Int64} (A : AJ Z h a bs) {j : Int32} {x : Int64} (i : Nat) (h0 : ¬ j < 0) (hj : j.toNatClampNeg = i) (hi : i < bs.length) (hd : decode c.code pc = .ok (.lastore, 1)) (hp : pc + 1 = pc') (H : ∀ T' h', Stand p l e R s m args below meth c T' (locs ++ [⟨a, i⟩]) cells slots → T'.heap = h' → Wr h h' a i (.long x) → AJ Z h' a (bs.set i x) → Go p e below s k n Q T' (mkF m pc' Ls st)) : Go p e below s k n Q T (mkF m pc Ls (.long x :: .int j :: .ref a :: st)) := by
  subst hp hj
  obtain ⟨cl, A, S, hl⟩ := A
  obtain ⟨T', h', X', e', W, q⟩ := stJ X hx hZ eT A (own_inJ (a := a) S h0 rfl hi) (g := mkF m pc Ls (.long x :: .int j :: .ref a :: st)) rfl rfl hd
  exact (H T' h' X' e' W ⟨_, A.same W, own_setJ S, by simpa using hl⟩).via q
theorem g_baload (pc' : Nat) (X : Stand p l e R s m args below meth c T locs cells slots) (hx : p.tables.exec = Jvm.exec) (hZ : Z.Warmed39 s.vm) (eT : T.heap = h) {a : Addr} {bs : List Int32} (A : AI Z h a .byte bs) {j z : Int32} (i : Nat) (h0 : ¬ j < 0) (hj : j.toNatClampNeg = i) (hv : bs[i]? = some z) (hd : decode c.code pc = .ok (.baload, 1)) (hp : pc + 1 = pc') (H : Go p e below s k n Q T (mkF m pc' Ls (.int z :: st))) : Go p e below s k n Q T (mkF m pc Ls (.int j :: .ref a :: st)) := by
  subst hp hj
  obtain ⟨cl, A, S, hl⟩ := A
  exact H.via fun t q => X.baloadBytes hx (by rw [eT]; exact A.1) (State.isArrayOf_alike hZ.alike A.2.1) A.2.2 (own_inI (a := a) S h0 rfl (List.getElem?_eq_some_iff.mp hv).1) (v := .int z) (by rw [S]; simp [hv]) (g := mkF m pc Ls (.int j :: .ref a :: st)) rfl rfl hd t q
theorem g_iaload (pc' : Nat) (X : Stand p l e R s m args below meth c T locs cells slots) (hx : p.tables.exec = Jvm.exec) (hZ : Z.Warmed39 s.vm) (eT : T.heap = h) {a : Addr} {bs : List Int32} (A : AI Z h a .int bs) {j z : Int32} (i : Nat) (h0 : ¬ j < 0) (hj : j.toNatClampNeg = i) (hv : bs[i]? = some z) (hd : decode c.code pc = .ok (.iaload, 1)) (hp : pc + 1 = pc') (H : Go p e below s k n Q T (mkF m pc' Ls (.int z :: st))) : Go p e below s k n Q T (mkF m pc Ls (.int j :: .ref a :: st)) := by
  subst hp hj
  obtain ⟨cl, A, S, hl⟩ := A
  exact H.via fun t q => X.iaload hx (by rw [eT]; exact A.1) (State.isArrayOf_alike hZ.alike A.2.1) A.2.2 (own_inI (a := a) S h0 rfl (List.getElem?_eq_some_iff.mp hv).1) (v := .int z) (by rw [S]; simp [hv]) (g := mkF m pc Ls (.int j :: .ref a :: st)) rfl rfl hd t q
theorem g_caload (pc' : Nat) (X : Stand p l e R s m args below meth c T locs cells slots) (hx : p.tables.exec = Jvm.exec) (hZ : Z.Warmed39 s.vm) (eT : T.heap = h) {a : Addr} {bs : List Int32} (A : AI Z h a .char bs) {j z : Int32} (i : Nat) (h0 : ¬ j < 0) (hj : j.toNatClampNeg = i) (hv : bs[i]? = some z) (hd : decode c.code pc = .ok (.caload, 1)) (hp : pc + 1 = pc') (H : Go p e below s k n Q T (mkF m pc' Ls (.int z :: st))) : Go p e below s k n Q T (mkF m pc Ls (.int j :: .ref a :: st)) := by
  subst hp hj
  obtain ⟨cl, A, S, hl⟩ := A
  exact H.via fun t q => X.caload hx (by rw [eT]; exact A.1) (State.isArrayOf_alike hZ.alike A.2.1) A.2.2 (own_inI (a := a) S h0 rfl (List.getElem?_eq_some_iff.mp hv).1) (v := .int z) (by rw [S]; simp [hv]) (g := mkF m pc Ls (.int j :: .ref a :: st)) rfl rfl hd t q
theorem g_saload (pc' : Nat) (X : Stand p l e R s m args below meth c T locs cells slots) (hx : p.tables.exec = Jvm.exec) (hZ : Z.Warmed39 s.vm) (eT : T.heap = h) {a : Addr} {bs : List Int32} (A : AI Z h a .short bs) {j z : Int32} (i : Nat) (h0 : ¬ j < 0) (hj : j.toNatClampNeg = i) (hv : bs[i]? = some z) (hd : decode c.code pc = .ok (.saload, 1)) (hp : pc + 1 = pc') (H : Go p e below s k n Q T (mkF m pc' Ls (.int z :: st))) : Go p e below s k n Q T (mkF m pc Ls (.int j :: .ref a :: st)) := by
  subst hp hj
  obtain ⟨cl, A, S, hl⟩ := A
  exact H.via fun t q => X.saload hx (by rw [eT]; exact A.1) (State.isArrayOf_alike hZ.alike A.2.1) A.2.2 (own_inI (a := a) S h0 rfl (List.getElem?_eq_some_iff.mp hv).1) (v := .int z) (by rw [S]; simp [hv]) (g := mkF m pc Ls (.int j :: .ref a :: st)) rfl rfl hd t q
theorem g_laload (pc' : Nat) (X : Stand p l e R s m args below meth c T locs cells slots) (hx : p.tables.exec = Jvm.exec) (hZ : Z.Warmed39 s.vm) (eT : T.heap = h) {a : Addr} {bs : List Int64} (A : AJ Z h a bs) {j : Int32} {z : Int64} (i : Nat) (h0 : ¬ j < 0) (hj : j.toNatClampNeg = i) (hv : bs[i]? = some z) (hd : decode c.code pc = .ok (.laload, 1)) (hp : pc + 1 = pc') (H : Go p e below s k n Q T (mkF m pc' Ls (.long z :: st))) : Go p e below s k n Q T (mkF m pc Ls (.int j :: .ref a :: st)) := by
  subst hp hj
  obtain ⟨cl, A, S, hl⟩ := A
  exact H.via fun t q => X.laload hx (by rw [eT]; exact A.1) (State.isArrayOf_alike hZ.alike A.2.1) A.2.2 (own_inJ (a := a) S h0 rfl (List.getElem?_eq_some_iff.mp hv).1) (v := .long z) (by rw [S]; simp [hv]) (g := mkF m pc Ls (.int j :: .ref a :: st)) rfl rfl hd t q
theorem g_arraylengthI (pc' : Nat) (X : Stand p l e R s m args below meth c T locs cells slots) (hx : p.tables.exec = Jvm.exec) (hZ : Z.Warmed39 s.vm) (eT : T.heap = h) {a : Addr} {ty : FieldType} {bs : List Int32} (A : AI Z h a ty bs) {z : Int32} (hz : Int32.ofNat bs.length = z) (hd : decode c.code pc = .ok (.arraylength, 1)) (hp : pc + 1 = pc') (H : Go p e below s k n Q T (mkF m pc' Ls (.int z :: st))) : Go p e below s k n Q T (mkF m pc Ls (.ref a :: st)) := by
  subst hp hz
  obtain ⟨cl, A, S, hl⟩ := A
  have q0 : cl.slots.size.toInt32 = Int32.ofNat bs.length := by rw [S]; simp
  exact H.via fun t q => X.arraylength hx (by rw [eT]; exact A.1) (State.isArrayOf_alike hZ.alike A.2.1) (g := mkF m pc Ls (.ref a :: st)) rfl rfl hd t (by rw [q0]; exact q)
theorem g_arraylengthJ (pc' : Nat) (X : Stand p l e R s m args below meth c T locs cells slots) (hx : p.tables.exec = Jvm.exec) (hZ : Z.Warmed39 s.vm) (eT : T.heap = h) {a : Addr} {bs : List Int64} (A : AJ Z h a bs) {z : Int32} (hz : Int32.ofNat bs.length = z) (hd : decode c.code pc = .ok (.arraylength, 1)) (hp : pc + 1 = pc') (H : Go p e below s k n Q T (mkF m pc' Ls (.int z :: st))) : Go p e below s k n Q T (mkF m pc Ls (.ref a :: st)) := by
  subst hp hz
  obtain ⟨cl, A, S, hl⟩ := A
  have q0 : cl.slots.size.toInt32 = Int32.ofNat bs.length := by rw [S]; simp
  exact H.via fun t q => X.arraylength hx (by rw [eT]; exact A.1) (State.isArrayOf_alike hZ.alike A.2.1) (g := mkF m pc Ls (.ref a :: st)) rfl rfl hd t (by rw [q0]; exact q)
theorem g_new_byte (pc' : Nat) (X : Stand p l e R s m args below meth c T locs cells slots) (hx : p.tables.exec = Jvm.exec) (hZ : Z.Warmed39 s.vm) (w : (Cond.arrayClass .byte).before a0 Z = true) (eT : T.heap = h) {nn : Int32} (len cap : Nat) (hn0 : ¬ nn < 0) (hlen : nn.toNatClampNeg = len) (hcap : len ≤ cap) (hb : cap * 8 ≤ 536870912) (hc : cells + 1 ≤ R.cells) (hl : slots + cap ≤ R.slots) (hd : decode c.code pc = .ok (.newarray .byte, 2)) (hp : pc + 2 = pc') (H : ∀ T' h' b, Stand p l e R s m args below meth c T' locs (cells + 1) (slots + cap) → T'.heap = h' → Ext h h' → b = h.size → AI Z h' b .byte (List.replicate len (0 : Int32)) → Go p e below s k n Q T' (mkF m pc' Ls (.ref b :: st))) : Go p e below s k n Q T (mkF m pc Ls (.int nn :: st)) := by
  subst hp hlen
  obtain ⟨T', h', cA, X', e', E, A, q⟩ := newP X hx hZ (aty := .byte) w eT (g := mkF m pc Ls (.int nn :: st)) rfl hd rfl hn0 hcap hb hc hl
  exact (H T' h' _ X' e' E rfl ⟨_, A, by simp [newA, defaultValue, newarray.typeOf], by simpa using (back32 hn0).2⟩).via q
theorem g_new_int (pc' : Nat) (X : Stand p l e R s m args below meth c T locs cells slots) (hx : p.tables.exec = Jvm.exec) (hZ : Z.Warmed39 s.vm) (w : (Cond.arrayClass .int).before a0 Z = true) (eT : T.heap = h) {nn : Int32} (len cap : Nat) (hn0 : ¬ nn < 0) (hlen : nn.toNatClampNeg = len) (hcap : len ≤ cap) (hb : cap * 8 ≤ 536870912) (hc : cells + 1 ≤ R.cells) (hl : slots + cap ≤ R.slots) (hd : decode c.code pc = .ok (.newarray .int, 2)) (hp : pc + 2 = pc') (H : ∀ T' h' b, Stand p l e R s m args below meth c T' locs (cells + 1) (slots + cap) → T'.heap = h' → Ext h h' → b = h.size → AI Z h' b .int (List.replicate len (0 : Int32)) → Go p e below s k n Q T' (mkF m pc' Ls (.ref b :: st))) : Go p e below s k n Q T (mkF m pc Ls (.int nn :: st)) := by
  subst hp hlen
  obtain ⟨T', h', cA, X', e', E, A, q⟩ := newP X hx hZ (aty := .int) w eT (g := mkF m pc Ls (.int nn :: st)) rfl hd rfl hn0 hcap hb hc hl
  exact (H T' h' _ X' e' E rfl ⟨_, A, by simp [newA, defaultValue, newarray.typeOf], by simpa using (back32 hn0).2⟩).via q
theorem g_new_long (pc' : Nat) (X : Stand p l e R s m args below meth c T locs cells slots) (hx : p.tables.exec = Jvm.exec) (hZ : Z.Warmed39 s.vm) (w : (Cond.arrayClass .long).before a0 Z = true) (eT : T.heap = h) {nn : Int32} (len cap : Nat) (hn0 : ¬ nn < 0) (hlen : nn.toNatClampNeg = len) (hcap : len ≤ cap) (hb : cap * 8 ≤ 536870912) (hc : cells + 1 ≤ R.cells) (hl : slots + cap ≤ R.slots) (hd : decode c.code pc = .ok (.newarray .long, 2)) (hp : pc + 2 = pc') (H : ∀ T' h' b, Stand p l e R s m args below meth c T' locs (cells + 1) (slots + cap) → T'.heap = h' → Ext h h' → b = h.size → AJ Z h' b (List.replicate len (0 : Int64)) → Go p e below s k n Q T' (mkF m pc' Ls (.ref b :: st))) : Go p e below s k n Q T (mkF m pc Ls (.int nn :: st)) := by
  subst hp hlen
  obtain ⟨T', h', cA, X', e', E, A, q⟩ := newP X hx hZ (aty := .long) w eT (g := mkF m pc Ls (.int nn :: st)) rfl hd rfl hn0 hcap hb hc hl
  exact (H T' h' _ X' e' E rfl ⟨_, A, by simp [newA, defaultValue, newarray.typeOf], by simpa using (back32 hn0).2⟩).via q
end OwnKit
theorem own_lrem (x y : Int64) (d : Int) (hy : y.toInt = d) : (0 ≤ x.toInt → (x % y).toInt = x.toInt % d) ∧ (x.toInt < 0 → (x % y).toInt = -((-x.toInt) % d)) := by
  rw [Int64.toInt_mod, hy]; exact tr _ _
theorem own_lremV (x y : Int64) : 0 ≤ x.toInt → 0 < y.toInt → 0 ≤ (x % y).toInt ∧ (x % y).toInt < y.toInt ∧ (x % y).toInt ≤ x.toInt := by
  intro h1 h2
  rw [Int64.toInt_mod, Int.tmod_eq_emod_of_nonneg h1]
  have a := Int.emod_nonneg x.toInt (by omega : y.toInt ≠ 0)
  have b := Int.emod_lt_of_pos x.toInt h2
  refine ⟨a, b, ?_⟩
  by_cases c : x.toInt < y.toInt
  · rw [Int.emod_eq_of_lt h1 c]; exact Int.le_refl _
  · omega
theorem own_prod {a b A B : Int} (h1 : 0 ≤ a) (h2 : a ≤ A) (h3 : 0 ≤ b) (h4 : b ≤ B) : 0 ≤ a * b ∧ a * b ≤ A * B :=
  ⟨Int.mul_nonneg h1 h3, Int.mul_le_mul h2 h4 h3 (Int.le_trans h1 h2)⟩
theorem own_pow (c : Int64) (i : Nat) : c * Int64.ofNat (10 ^ i) * (10 : Int64) = c * Int64.ofNat (10 ^ (i + 1)) := by
  rw [Int64.mul_assoc, Nat.pow_succ, Int64.ofNat_mul]; rfl
theorem own_nat {i : Int32} (h : 0 ≤ i.toInt) (q : i.toInt < 100) : (i + (1 : Int32)).toInt = i.toInt + 1 := by
  have a := c_iadd i (1 : Int32)
  have b := rng32 (i + (1 : Int32))
  simp only [Int32.reduceToInt] at a
  omega
theorem own_step (c : Int64) (q : Int64) (i : Int32) (h0 : 0 ≤ i.toInt) (h1 : i.toInt < 100) (h : q = c * Int64.ofNat (10 ^ i.toInt.toNat)) : q * (10 : Int64) = c * Int64.ofNat (10 ^ (i + (1 : Int32)).toInt.toNat) := by
  rw [h, own_pow, own_nat h0 h1, Int.toNat_add h0 (by decide)]; rfl

theorem pn_0 : plainName "com/example/utility_meter_billing/utilitymeterbilling/model/Premise" = true := by first | (simp [plainName, overriddenIn]; done) | decide +kernel
theorem d1_0 : decode prog_69_method_9_code 0 = .ok (.iload_n 0, 1) := by decide +kernel
theorem d1_1 : decode prog_69_method_9_code 1 = .ok (.ifCond .ne 7, 3) := by decide +kernel
theorem d1_4 : decode prog_69_method_9_code 4 = .ok (.lconst 0, 1) := by decide +kernel
theorem d1_5 : decode prog_69_method_9_code 5 = .ok (.goto 4, 3) := by decide +kernel
theorem d1_8 : decode prog_69_method_9_code 8 = .ok (.lconst 1, 1) := by decide +kernel
theorem d1_9 : decode prog_69_method_9_code 9 = .ok (.lstore_n 1, 1) := by decide +kernel
theorem d1_10 : decode prog_69_method_9_code 10 = .ok (.iconst 0, 1) := by decide +kernel
theorem d1_11 : decode prog_69_method_9_code 11 = .ok (.istore_n 3, 1) := by decide +kernel
theorem d1_12 : decode prog_69_method_9_code 12 = .ok (.iload_n 3, 1) := by decide +kernel
theorem d1_13 : decode prog_69_method_9_code 13 = .ok (.iload_n 0, 1) := by decide +kernel
theorem d1_14 : decode prog_69_method_9_code 14 = .ok (.if_icmp .ge 15, 3) := by decide +kernel
theorem d1_17 : decode prog_69_method_9_code 17 = .ok (.lload_n 1, 1) := by decide +kernel
theorem d1_18 : decode prog_69_method_9_code 18 = .ok (.ldc2_w 83, 3) := by decide +kernel
theorem d1_21 : decode prog_69_method_9_code 21 = .ok (.lmul, 1) := by decide +kernel
theorem d1_22 : decode prog_69_method_9_code 22 = .ok (.lstore_n 1, 1) := by decide +kernel
theorem d1_23 : decode prog_69_method_9_code 23 = .ok (.iinc 3 1, 3) := by decide +kernel
theorem d1_26 : decode prog_69_method_9_code 26 = .ok (.goto (-14), 3) := by decide +kernel
theorem d1_29 : decode prog_69_method_9_code 29 = .ok (.lload_n 1, 1) := by decide +kernel
theorem d1_30 : decode prog_69_method_9_code 30 = .ok (.lreturn, 1) := by decide +kernel
def Rel1 (p1 : Int32) (r : Int64) : Prop := (p1 = (0 : Int32) ∧ r = (0 : Int64)) ∨ (¬ (p1 = (0 : Int32)) ∧ r = Int64.ofNat (10 ^ p1.toInt.toNat))
def Q1 (Z : State) (p1 : Int32) (h0 : Heap) (n0 : Nat) (v : Option Value) (h : Heap) (L : List Loc) : Prop := ∃ r : Int64, v = some (.long r) ∧ Rel1 p1 r ∧ Fr n0 L ∧ h = h0
theorem ef_rm1 (m : MethodId) (p1 : Int32) : entryFrame m #[(.int p1)] 4 = mkF m 0 #[.val (.int p1), .unset, .unset, .unset] [] := by first | (simp [entryFrame, mkF, argsToLocals, Value.category]; done) | rfl
set_option maxRecDepth 65536 in
set_option maxHeartbeats 40000000 in
theorem rm1 (l : Launch) (Z : State) (a0 : Array Value) (hw : ∀ d ∈ tables_1, d.before a0 Z = true) (ws : List Jvm.Cond) (p1 : Int32) (h0 : Heap) (n0 : Nat) (Z0 : n0 ≤ h0.size) (hp : 0 ≤ p1.toInt ∧ p1.toInt ≤ 18) :
    MetFree l (⟨"com/example/utility_meter_billing/utilitymeterbilling/model/Premise", "capacityOf", "(I)J"⟩ : MethodName) (head1 (Jvm.Cond.code (⟨"com/example/utility_meter_billing/utilitymeterbilling/model/Premise", "capacityOf", "(I)J"⟩ : MethodName) prog_69_method_9_code 4 (some .long) :: ws) ({ frames := 0, cells := 0, slots := 0, locals := 0 } : Room)) (fun a U => a = #[(.int p1)] ∧ Z.Warmed39 U.vm ∧ U.heap = h0) (fun _ _ _ _ _ => True) (fun _ U o U' => ∃ v L, o = .returned v ∧ (Q1 Z p1 h0 n0) v U'.heap L ∧ FrameEnd U o U' L ({ frames := 0, cells := 0, slots := 0, locals := 0 } : Room).cells ({ frames := 0, cells := 0, slots := 0, locals := 0 } : Room).slots) := by
  refine MetFree.of_bodySF (plainFor_of_name pn_0) hisR ?_
  intro p e s m args below meth c s₁ Bd hml0 hP hK
  obtain ⟨rfl, hZ, hh⟩ := hP
  have hx := Bd.exec
  have hby := Bd.bytes
  have hml : c.maxLocals = 4 := hml0
  have hown : s.vm.findClass "com/example/utility_meter_billing/utilitymeterbilling/model/Premise" = some m.cls := findClass_of_methodNamed Bd.named
  have hnm := (name_of_methodNamed Bd.named Bd.method).1
  have hlk : meth.locks = false := BodyLoose.notSynchronized Bd
  have X0 : Stand p l e ({ frames := 0, cells := 0, slots := 0, locals := 0 } : Room) s m #[(.int p1)] below meth c s₁ [] 0 0 := Stand.of_body Bd
  have e0 : s₁.heap = h0 := by rw [← hh, Bd.state]; rfl
  have N0 := Fr.nil n0
  show Go p e below s ({ frames := 0, cells := 0, slots := 0, locals := 0 } : Room).cells ({ frames := 0, cells := 0, slots := 0, locals := 0 } : Room).slots (Q1 Z p1 h0 n0) s₁ (entryFrame m #[(.int p1)] 4)
  rw [ef_rm1 m p1]
  refine g_iloadN 1 X0 hx (hb hby d1_0) rfl (v := p1) rfl ?_
  by_cases hc1_0 : p1 = (0 : Int32)
  ·
    refine g_ifNo 4 X0 hx (hb hby d1_1)  ((if0 _ _).trans (teq hc1_0).2) rfl ?_
    refine g_lconst 5 X0 hx (hb hby d1_4) rfl (z := (0 : Int64)) rfl ?_
    refine g_goto 9 X0 hx (hb hby d1_5) (by decide) (by decide) ?_
    refine g_lstoreN 10 X0 hx (hb hby d1_9) rfl (Ls' := #[.val (.int p1), .val (.long (0 : Int64)), .second, .unset]) rfl ?_
    refine g_iconst 11 X0 hx (hb hby d1_10) rfl (z := (0 : Int32)) rfl ?_
    refine g_istoreN 12 X0 hx (hb hby d1_11) rfl (Ls' := #[.val (.int p1), .val (.long (0 : Int64)), .second, .val (.int (0 : Int32))]) rfl ?_
    have LOOP12 : ∀ (fuel : Nat) (lq : Int64) (li : Int32), (p1.toInt - li.toInt).toNat < fuel → (0 ≤ li.toInt) → (li.toInt ≤ p1.toInt) → (lq = (0 : Int64) * Int64.ofNat (10 ^ li.toInt.toNat)) → Go p e below s ({ frames := 0, cells := 0, slots := 0, locals := 0 } : Room).cells ({ frames := 0, cells := 0, slots := 0, locals := 0 } : Room).slots (Q1 Z p1 h0 n0) s₁ (mkF m 12 #[.val (.int p1), .val (.long lq), .second, .val (.int li)] []) := by
      intro fuel
      induction fuel with
      | zero => intro lq li hm; exact absurd hm (Nat.not_lt_zero _)
      | succ fuel ih =>
        intro lq li hm hi0 hi1 hq
        refine g_iloadN 13 X0 hx (hb hby d1_12) rfl (v := li) rfl ?_
        refine g_iloadN 14 X0 hx (hb hby d1_13) rfl (v := p1) rfl ?_
        by_cases hc14_1 : li < p1
        ·
          refine g_icmpNo 17 X0 hx (hb hby d1_14)  (tlt hc14_1).2.1 rfl ?_
          refine g_lloadN 18 X0 hx (hb hby d1_17) rfl (v := lq) rfl ?_
          refine g_ldc2 21 X0 hx hZ hown (hw _ (List.mem_of_getElem? (i := 9) rfl)) (hb hby d1_18) rfl ?_
          refine g_lmul 22 X0 hx (hb hby d1_21) rfl (z := (lq * (10 : Int64))) rfl ?_
          refine g_lstoreN 23 X0 hx (hb hby d1_22) rfl (Ls' := #[.val (.int p1), .val (.long (lq * (10 : Int64))), .second, .val (.int li)]) rfl ?_
          refine g_iinc 26 X0 hx (hb hby d1_23) rfl (x := li) rfl (z := (li + (1 : Int32))) rfl (Ls' := #[.val (.int p1), .val (.long (lq * (10 : Int64))), .second, .val (.int (li + (1 : Int32)))]) rfl ?_
          refine g_goto 12 X0 hx (hb hby d1_26) (by decide) (by decide) ?_
          exact ih (lq * (10 : Int64)) (li + (1 : Int32)) (by have a := own_nat hi0 (by have b := hi1; have c := hp.2; omega); have b := Int32.lt_iff_toInt_lt.mp hc14_1; omega) (by rw [own_nat hi0 (by have b := hi1; have c := hp.2; omega)]; omega) (by have b := Int32.lt_iff_toInt_lt.mp hc14_1; rw [own_nat hi0 (by have b := hi1; have c := hp.2; omega)]; omega) (own_step (0 : Int64) lq li hi0 (by have b := hi1; have c := hp.2; omega) hq)
        ·
          refine g_icmpYes 29 X0 hx (hb hby d1_14)  (flt hc14_1).2.1 (by decide) (by decide) ?_
          refine g_lloadN 30 X0 hx (hb hby d1_29) rfl (v := lq) rfl ?_
          exact g_retJ X0 hx Bd.returns hlk (hb hby d1_30) (by decide) (by decide) ⟨lq, rfl, (by have e : li.toInt = p1.toInt := (by have b := hc14_1; rw [Int32.lt_iff_toInt_lt] at b; omega); refine Or.inl ⟨hc1_0, ?_⟩; rw [hq]; exact Int64.zero_mul), N0, e0⟩
    exact LOOP12 _ (0 : Int64) (0 : Int32) (Nat.lt_succ_self _) (by decide) hp.1 (by decide)
  ·
    refine g_ifYes 8 X0 hx (hb hby d1_1)  ((if0 _ _).trans (feq hc1_0).2) (by decide) (by decide) ?_
    refine g_lconst 9 X0 hx (hb hby d1_8) rfl (z := (1 : Int64)) rfl ?_
    refine g_lstoreN 10 X0 hx (hb hby d1_9) rfl (Ls' := #[.val (.int p1), .val (.long (1 : Int64)), .second, .unset]) rfl ?_
    refine g_iconst 11 X0 hx (hb hby d1_10) rfl (z := (0 : Int32)) rfl ?_
    refine g_istoreN 12 X0 hx (hb hby d1_11) rfl (Ls' := #[.val (.int p1), .val (.long (1 : Int64)), .second, .val (.int (0 : Int32))]) rfl ?_
    have LOOP12 : ∀ (fuel : Nat) (lq : Int64) (li : Int32), (p1.toInt - li.toInt).toNat < fuel → (0 ≤ li.toInt) → (li.toInt ≤ p1.toInt) → (lq = (1 : Int64) * Int64.ofNat (10 ^ li.toInt.toNat)) → Go p e below s ({ frames := 0, cells := 0, slots := 0, locals := 0 } : Room).cells ({ frames := 0, cells := 0, slots := 0, locals := 0 } : Room).slots (Q1 Z p1 h0 n0) s₁ (mkF m 12 #[.val (.int p1), .val (.long lq), .second, .val (.int li)] []) := by
      intro fuel
      induction fuel with
      | zero => intro lq li hm; exact absurd hm (Nat.not_lt_zero _)
      | succ fuel ih =>
        intro lq li hm hi0 hi1 hq
        refine g_iloadN 13 X0 hx (hb hby d1_12) rfl (v := li) rfl ?_
        refine g_iloadN 14 X0 hx (hb hby d1_13) rfl (v := p1) rfl ?_
        by_cases hc14_2 : li < p1
        ·
          refine g_icmpNo 17 X0 hx (hb hby d1_14)  (tlt hc14_2).2.1 rfl ?_
          refine g_lloadN 18 X0 hx (hb hby d1_17) rfl (v := lq) rfl ?_
          refine g_ldc2 21 X0 hx hZ hown (hw _ (List.mem_of_getElem? (i := 9) rfl)) (hb hby d1_18) rfl ?_
          refine g_lmul 22 X0 hx (hb hby d1_21) rfl (z := (lq * (10 : Int64))) rfl ?_
          refine g_lstoreN 23 X0 hx (hb hby d1_22) rfl (Ls' := #[.val (.int p1), .val (.long (lq * (10 : Int64))), .second, .val (.int li)]) rfl ?_
          refine g_iinc 26 X0 hx (hb hby d1_23) rfl (x := li) rfl (z := (li + (1 : Int32))) rfl (Ls' := #[.val (.int p1), .val (.long (lq * (10 : Int64))), .second, .val (.int (li + (1 : Int32)))]) rfl ?_
          refine g_goto 12 X0 hx (hb hby d1_26) (by decide) (by decide) ?_
          exact ih (lq * (10 : Int64)) (li + (1 : Int32)) (by have a := own_nat hi0 (by have b := hi1; have c := hp.2; omega); have b := Int32.lt_iff_toInt_lt.mp hc14_2; omega) (by rw [own_nat hi0 (by have b := hi1; have c := hp.2; omega)]; omega) (by have b := Int32.lt_iff_toInt_lt.mp hc14_2; rw [own_nat hi0 (by have b := hi1; have c := hp.2; omega)]; omega) (own_step (1 : Int64) lq li hi0 (by have b := hi1; have c := hp.2; omega) hq)
        ·
          refine g_icmpYes 29 X0 hx (hb hby d1_14)  (flt hc14_2).2.1 (by decide) (by decide) ?_
          refine g_lloadN 30 X0 hx (hb hby d1_29) rfl (v := lq) rfl ?_
          exact g_retJ X0 hx Bd.returns hlk (hb hby d1_30) (by decide) (by decide) ⟨lq, rfl, (by have e : li.toInt = p1.toInt := (by have b := hc14_2; rw [Int32.lt_iff_toInt_lt] at b; omega); refine Or.inr ⟨hc1_0, ?_⟩; rw [hq, e]; rw [Int64.one_mul]), N0, e0⟩
    exact LOOP12 _ (1 : Int64) (0 : Int32) (Nat.lt_succ_self _) (by decide) hp.1 (by decide)
theorem pd_0 : parseMethodDescriptor "(I)J" = some ⟨[.int], some .long⟩ := by decide +kernel
theorem ask0_0 (p1 : Int32) (z1 : Int32) (z2 : Int32) (hz1 : p1 &&& (2147483647 : Int32) = z1) (hz2 : z1 % (19 : Int32) = z2) : z2 = (0 : Int32) ∨ z2 = (1 : Int32) ∨ z2 = (2 : Int32) ∨ z2 = (3 : Int32) ∨ z2 = (4 : Int32) ∨ z2 = (5 : Int32) ∨ z2 = (6 : Int32) ∨ z2 = (7 : Int32) ∨ z2 = (8 : Int32) ∨ z2 = (9 : Int32) ∨ z2 = (10 : Int32) ∨ z2 = (11 : Int32) ∨ z2 = (12 : Int32) ∨ z2 = (13 : Int32) ∨ z2 = (14 : Int32) ∨ z2 = (15 : Int32) ∨ z2 = (16 : Int32) ∨ z2 = (17 : Int32) ∨ z2 = (18 : Int32) := by
  have o0 := rng32 p1
  have o1 := rng32 (p1 &&& (2147483647 : Int32))
  have o2 := c_mask p1 (2147483647 : Int32) 31 (by decide) (by decide)
  have o3 := rng32 z1
  have o4 := rng32 (z1 % (19 : Int32))
  have o5 := c_irem z1 (19 : Int32) 19 (by decide)
  have o6 := rng32 z2
  simp only [Int32.lt_iff_toInt_lt, Int64.lt_iff_toInt_lt, Int32.le_iff_toInt_le, Int64.le_iff_toInt_le, ← Int32.toInt_inj, ← Int64.toInt_inj, Int32.reduceToInt, Int64.reduceToInt, Int32.toInt_toInt64, ne_eq] at * <;> omega
theorem ask0_1 (p1 : Int32) (z1 : Int32) (hz1 : p1 &&& (2147483647 : Int32) = z1) (hz2 : z1 % (19 : Int32) = (0 : Int32)) : 0 ≤ (0 : Int32).toInt ∧ (0 : Int32).toInt ≤ 18 := by
  have o0 := rng32 p1
  have o1 := rng32 (p1 &&& (2147483647 : Int32))
  have o2 := c_mask p1 (2147483647 : Int32) 31 (by decide) (by decide)
  have o3 := rng32 z1
  have o4 := rng32 (z1 % (19 : Int32))
  have o5 := c_irem z1 (19 : Int32) 19 (by decide)
  simp only [Int32.lt_iff_toInt_lt, Int64.lt_iff_toInt_lt, Int32.le_iff_toInt_le, Int64.le_iff_toInt_le, ← Int32.toInt_inj, ← Int64.toInt_inj, Int32.reduceToInt, Int64.reduceToInt, Int32.toInt_toInt64, ne_eq] at * <;> omega
theorem ask0_2 (p1 : Int32) (z1 : Int32) (hz1 : p1 &&& (2147483647 : Int32) = z1) (hz2 : z1 % (19 : Int32) = (1 : Int32)) : 0 ≤ (1 : Int32).toInt ∧ (1 : Int32).toInt ≤ 18 := by
  have o0 := rng32 p1
  have o1 := rng32 (p1 &&& (2147483647 : Int32))
  have o2 := c_mask p1 (2147483647 : Int32) 31 (by decide) (by decide)
  have o3 := rng32 z1
  have o4 := rng32 (z1 % (19 : Int32))
  have o5 := c_irem z1 (19 : Int32) 19 (by decide)
  simp only [Int32.lt_iff_toInt_lt, Int64.lt_iff_toInt_lt, Int32.le_iff_toInt_le, Int64.le_iff_toInt_le, ← Int32.toInt_inj, ← Int64.toInt_inj, Int32.reduceToInt, Int64.reduceToInt, Int32.toInt_toInt64, ne_eq] at * <;> omega
theorem ask0_3 (p1 : Int32) (z1 : Int32) (hz1 : p1 &&& (2147483647 : Int32) = z1) (hz2 : z1 % (19 : Int32) = (2 : Int32)) : 0 ≤ (2 : Int32).toInt ∧ (2 : Int32).toInt ≤ 18 := by
  have o0 := rng32 p1
  have o1 := rng32 (p1 &&& (2147483647 : Int32))
  have o2 := c_mask p1 (2147483647 : Int32) 31 (by decide) (by decide)
  have o3 := rng32 z1
  have o4 := rng32 (z1 % (19 : Int32))
  have o5 := c_irem z1 (19 : Int32) 19 (by decide)
  simp only [Int32.lt_iff_toInt_lt, Int64.lt_iff_toInt_lt, Int32.le_iff_toInt_le, Int64.le_iff_toInt_le, ← Int32.toInt_inj, ← Int64.toInt_inj, Int32.reduceToInt, Int64.reduceToInt, Int32.toInt_toInt64, ne_eq] at * <;> omega
theorem ask0_4 (p1 : Int32) (z1 : Int32) (hz1 : p1 &&& (2147483647 : Int32) = z1) (hz2 : z1 % (19 : Int32) = (3 : Int32)) : 0 ≤ (3 : Int32).toInt ∧ (3 : Int32).toInt ≤ 18 := by
  have o0 := rng32 p1
  have o1 := rng32 (p1 &&& (2147483647 : Int32))
  have o2 := c_mask p1 (2147483647 : Int32) 31 (by decide) (by decide)
  have o3 := rng32 z1
  have o4 := rng32 (z1 % (19 : Int32))
  have o5 := c_irem z1 (19 : Int32) 19 (by decide)
  simp only [Int32.lt_iff_toInt_lt, Int64.lt_iff_toInt_lt, Int32.le_iff_toInt_le, Int64.le_iff_toInt_le, ← Int32.toInt_inj, ← Int64.toInt_inj, Int32.reduceToInt, Int64.reduceToInt, Int32.toInt_toInt64, ne_eq] at * <;> omega
theorem ask0_5 (p1 : Int32) (z1 : Int32) (hz1 : p1 &&& (2147483647 : Int32) = z1) (hz2 : z1 % (19 : Int32) = (4 : Int32)) : 0 ≤ (4 : Int32).toInt ∧ (4 : Int32).toInt ≤ 18 := by
  have o0 := rng32 p1
  have o1 := rng32 (p1 &&& (2147483647 : Int32))
  have o2 := c_mask p1 (2147483647 : Int32) 31 (by decide) (by decide)
  have o3 := rng32 z1
  have o4 := rng32 (z1 % (19 : Int32))
  have o5 := c_irem z1 (19 : Int32) 19 (by decide)
  simp only [Int32.lt_iff_toInt_lt, Int64.lt_iff_toInt_lt, Int32.le_iff_toInt_le, Int64.le_iff_toInt_le, ← Int32.toInt_inj, ← Int64.toInt_inj, Int32.reduceToInt, Int64.reduceToInt, Int32.toInt_toInt64, ne_eq] at * <;> omega
theorem ask0_6 (p1 : Int32) (z1 : Int32) (hz1 : p1 &&& (2147483647 : Int32) = z1) (hz2 : z1 % (19 : Int32) = (5 : Int32)) : 0 ≤ (5 : Int32).toInt ∧ (5 : Int32).toInt ≤ 18 := by
  have o0 := rng32 p1
  have o1 := rng32 (p1 &&& (2147483647 : Int32))
  have o2 := c_mask p1 (2147483647 : Int32) 31 (by decide) (by decide)
  have o3 := rng32 z1
  have o4 := rng32 (z1 % (19 : Int32))
  have o5 := c_irem z1 (19 : Int32) 19 (by decide)
  simp only [Int32.lt_iff_toInt_lt, Int64.lt_iff_toInt_lt, Int32.le_iff_toInt_le, Int64.le_iff_toInt_le, ← Int32.toInt_inj, ← Int64.toInt_inj, Int32.reduceToInt, Int64.reduceToInt, Int32.toInt_toInt64, ne_eq] at * <;> omega
theorem ask0_7 (p1 : Int32) (z1 : Int32) (hz1 : p1 &&& (2147483647 : Int32) = z1) (hz2 : z1 % (19 : Int32) = (6 : Int32)) : 0 ≤ (6 : Int32).toInt ∧ (6 : Int32).toInt ≤ 18 := by
  have o0 := rng32 p1
  have o1 := rng32 (p1 &&& (2147483647 : Int32))
  have o2 := c_mask p1 (2147483647 : Int32) 31 (by decide) (by decide)
  have o3 := rng32 z1
  have o4 := rng32 (z1 % (19 : Int32))
  have o5 := c_irem z1 (19 : Int32) 19 (by decide)
  simp only [Int32.lt_iff_toInt_lt, Int64.lt_iff_toInt_lt, Int32.le_iff_toInt_le, Int64.le_iff_toInt_le, ← Int32.toInt_inj, ← Int64.toInt_inj, Int32.reduceToInt, Int64.reduceToInt, Int32.toInt_toInt64, ne_eq] at * <;> omega
theorem ask0_8 (p1 : Int32) (z1 : Int32) (hz1 : p1 &&& (2147483647 : Int32) = z1) (hz2 : z1 % (19 : Int32) = (7 : Int32)) : 0 ≤ (7 : Int32).toInt ∧ (7 : Int32).toInt ≤ 18 := by
  have o0 := rng32 p1
  have o1 := rng32 (p1 &&& (2147483647 : Int32))
  have o2 := c_mask p1 (2147483647 : Int32) 31 (by decide) (by decide)
  have o3 := rng32 z1
  have o4 := rng32 (z1 % (19 : Int32))
  have o5 := c_irem z1 (19 : Int32) 19 (by decide)
  simp only [Int32.lt_iff_toInt_lt, Int64.lt_iff_toInt_lt, Int32.le_iff_toInt_le, Int64.le_iff_toInt_le, ← Int32.toInt_inj, ← Int64.toInt_inj, Int32.reduceToInt, Int64.reduceToInt, Int32.toInt_toInt64, ne_eq] at * <;> omega
theorem ask0_9 (p1 : Int32) (z1 : Int32) (hz1 : p1 &&& (2147483647 : Int32) = z1) (hz2 : z1 % (19 : Int32) = (8 : Int32)) : 0 ≤ (8 : Int32).toInt ∧ (8 : Int32).toInt ≤ 18 := by
  have o0 := rng32 p1
  have o1 := rng32 (p1 &&& (2147483647 : Int32))
  have o2 := c_mask p1 (2147483647 : Int32) 31 (by decide) (by decide)
  have o3 := rng32 z1
  have o4 := rng32 (z1 % (19 : Int32))
  have o5 := c_irem z1 (19 : Int32) 19 (by decide)
  simp only [Int32.lt_iff_toInt_lt, Int64.lt_iff_toInt_lt, Int32.le_iff_toInt_le, Int64.le_iff_toInt_le, ← Int32.toInt_inj, ← Int64.toInt_inj, Int32.reduceToInt, Int64.reduceToInt, Int32.toInt_toInt64, ne_eq] at * <;> omega
theorem ask0_10 (p1 : Int32) (z1 : Int32) (hz1 : p1 &&& (2147483647 : Int32) = z1) (hz2 : z1 % (19 : Int32) = (9 : Int32)) : 0 ≤ (9 : Int32).toInt ∧ (9 : Int32).toInt ≤ 18 := by
  have o0 := rng32 p1
  have o1 := rng32 (p1 &&& (2147483647 : Int32))
  have o2 := c_mask p1 (2147483647 : Int32) 31 (by decide) (by decide)
  have o3 := rng32 z1
  have o4 := rng32 (z1 % (19 : Int32))
  have o5 := c_irem z1 (19 : Int32) 19 (by decide)
  simp only [Int32.lt_iff_toInt_lt, Int64.lt_iff_toInt_lt, Int32.le_iff_toInt_le, Int64.le_iff_toInt_le, ← Int32.toInt_inj, ← Int64.toInt_inj, Int32.reduceToInt, Int64.reduceToInt, Int32.toInt_toInt64, ne_eq] at * <;> omega
theorem ask0_11 (p1 : Int32) (z1 : Int32) (hz1 : p1 &&& (2147483647 : Int32) = z1) (hz2 : z1 % (19 : Int32) = (10 : Int32)) : 0 ≤ (10 : Int32).toInt ∧ (10 : Int32).toInt ≤ 18 := by
  have o0 := rng32 p1
  have o1 := rng32 (p1 &&& (2147483647 : Int32))
  have o2 := c_mask p1 (2147483647 : Int32) 31 (by decide) (by decide)
  have o3 := rng32 z1
  have o4 := rng32 (z1 % (19 : Int32))
  have o5 := c_irem z1 (19 : Int32) 19 (by decide)
  simp only [Int32.lt_iff_toInt_lt, Int64.lt_iff_toInt_lt, Int32.le_iff_toInt_le, Int64.le_iff_toInt_le, ← Int32.toInt_inj, ← Int64.toInt_inj, Int32.reduceToInt, Int64.reduceToInt, Int32.toInt_toInt64, ne_eq] at * <;> omega
theorem ask0_12 (p1 : Int32) (z1 : Int32) (hz1 : p1 &&& (2147483647 : Int32) = z1) (hz2 : z1 % (19 : Int32) = (11 : Int32)) : 0 ≤ (11 : Int32).toInt ∧ (11 : Int32).toInt ≤ 18 := by
  have o0 := rng32 p1
  have o1 := rng32 (p1 &&& (2147483647 : Int32))
  have o2 := c_mask p1 (2147483647 : Int32) 31 (by decide) (by decide)
  have o3 := rng32 z1
  have o4 := rng32 (z1 % (19 : Int32))
  have o5 := c_irem z1 (19 : Int32) 19 (by decide)
  simp only [Int32.lt_iff_toInt_lt, Int64.lt_iff_toInt_lt, Int32.le_iff_toInt_le, Int64.le_iff_toInt_le, ← Int32.toInt_inj, ← Int64.toInt_inj, Int32.reduceToInt, Int64.reduceToInt, Int32.toInt_toInt64, ne_eq] at * <;> omega
theorem ask0_13 (p1 : Int32) (z1 : Int32) (hz1 : p1 &&& (2147483647 : Int32) = z1) (hz2 : z1 % (19 : Int32) = (12 : Int32)) : 0 ≤ (12 : Int32).toInt ∧ (12 : Int32).toInt ≤ 18 := by
  have o0 := rng32 p1
  have o1 := rng32 (p1 &&& (2147483647 : Int32))
  have o2 := c_mask p1 (2147483647 : Int32) 31 (by decide) (by decide)
  have o3 := rng32 z1
  have o4 := rng32 (z1 % (19 : Int32))
  have o5 := c_irem z1 (19 : Int32) 19 (by decide)
  simp only [Int32.lt_iff_toInt_lt, Int64.lt_iff_toInt_lt, Int32.le_iff_toInt_le, Int64.le_iff_toInt_le, ← Int32.toInt_inj, ← Int64.toInt_inj, Int32.reduceToInt, Int64.reduceToInt, Int32.toInt_toInt64, ne_eq] at * <;> omega
theorem ask0_14 (p1 : Int32) (z1 : Int32) (hz1 : p1 &&& (2147483647 : Int32) = z1) (hz2 : z1 % (19 : Int32) = (13 : Int32)) : 0 ≤ (13 : Int32).toInt ∧ (13 : Int32).toInt ≤ 18 := by
  have o0 := rng32 p1
  have o1 := rng32 (p1 &&& (2147483647 : Int32))
  have o2 := c_mask p1 (2147483647 : Int32) 31 (by decide) (by decide)
  have o3 := rng32 z1
  have o4 := rng32 (z1 % (19 : Int32))
  have o5 := c_irem z1 (19 : Int32) 19 (by decide)
  simp only [Int32.lt_iff_toInt_lt, Int64.lt_iff_toInt_lt, Int32.le_iff_toInt_le, Int64.le_iff_toInt_le, ← Int32.toInt_inj, ← Int64.toInt_inj, Int32.reduceToInt, Int64.reduceToInt, Int32.toInt_toInt64, ne_eq] at * <;> omega
theorem ask0_15 (p1 : Int32) (z1 : Int32) (hz1 : p1 &&& (2147483647 : Int32) = z1) (hz2 : z1 % (19 : Int32) = (14 : Int32)) : 0 ≤ (14 : Int32).toInt ∧ (14 : Int32).toInt ≤ 18 := by
  have o0 := rng32 p1
  have o1 := rng32 (p1 &&& (2147483647 : Int32))
  have o2 := c_mask p1 (2147483647 : Int32) 31 (by decide) (by decide)
  have o3 := rng32 z1
  have o4 := rng32 (z1 % (19 : Int32))
  have o5 := c_irem z1 (19 : Int32) 19 (by decide)
  simp only [Int32.lt_iff_toInt_lt, Int64.lt_iff_toInt_lt, Int32.le_iff_toInt_le, Int64.le_iff_toInt_le, ← Int32.toInt_inj, ← Int64.toInt_inj, Int32.reduceToInt, Int64.reduceToInt, Int32.toInt_toInt64, ne_eq] at * <;> omega
theorem ask0_16 (p1 : Int32) (z1 : Int32) (hz1 : p1 &&& (2147483647 : Int32) = z1) (hz2 : z1 % (19 : Int32) = (15 : Int32)) : 0 ≤ (15 : Int32).toInt ∧ (15 : Int32).toInt ≤ 18 := by
  have o0 := rng32 p1
  have o1 := rng32 (p1 &&& (2147483647 : Int32))
  have o2 := c_mask p1 (2147483647 : Int32) 31 (by decide) (by decide)
  have o3 := rng32 z1
  have o4 := rng32 (z1 % (19 : Int32))
  have o5 := c_irem z1 (19 : Int32) 19 (by decide)
  simp only [Int32.lt_iff_toInt_lt, Int64.lt_iff_toInt_lt, Int32.le_iff_toInt_le, Int64.le_iff_toInt_le, ← Int32.toInt_inj, ← Int64.toInt_inj, Int32.reduceToInt, Int64.reduceToInt, Int32.toInt_toInt64, ne_eq] at * <;> omega
theorem ask0_17 (p1 : Int32) (z1 : Int32) (hz1 : p1 &&& (2147483647 : Int32) = z1) (hz2 : z1 % (19 : Int32) = (16 : Int32)) : 0 ≤ (16 : Int32).toInt ∧ (16 : Int32).toInt ≤ 18 := by
  have o0 := rng32 p1
  have o1 := rng32 (p1 &&& (2147483647 : Int32))
  have o2 := c_mask p1 (2147483647 : Int32) 31 (by decide) (by decide)
  have o3 := rng32 z1
  have o4 := rng32 (z1 % (19 : Int32))
  have o5 := c_irem z1 (19 : Int32) 19 (by decide)
  simp only [Int32.lt_iff_toInt_lt, Int64.lt_iff_toInt_lt, Int32.le_iff_toInt_le, Int64.le_iff_toInt_le, ← Int32.toInt_inj, ← Int64.toInt_inj, Int32.reduceToInt, Int64.reduceToInt, Int32.toInt_toInt64, ne_eq] at * <;> omega
theorem ask0_18 (p1 : Int32) (z1 : Int32) (hz1 : p1 &&& (2147483647 : Int32) = z1) (hz2 : z1 % (19 : Int32) = (17 : Int32)) : 0 ≤ (17 : Int32).toInt ∧ (17 : Int32).toInt ≤ 18 := by
  have o0 := rng32 p1
  have o1 := rng32 (p1 &&& (2147483647 : Int32))
  have o2 := c_mask p1 (2147483647 : Int32) 31 (by decide) (by decide)
  have o3 := rng32 z1
  have o4 := rng32 (z1 % (19 : Int32))
  have o5 := c_irem z1 (19 : Int32) 19 (by decide)
  simp only [Int32.lt_iff_toInt_lt, Int64.lt_iff_toInt_lt, Int32.le_iff_toInt_le, Int64.le_iff_toInt_le, ← Int32.toInt_inj, ← Int64.toInt_inj, Int32.reduceToInt, Int64.reduceToInt, Int32.toInt_toInt64, ne_eq] at * <;> omega
theorem ask0_19 (p1 : Int32) (z1 : Int32) (hz1 : p1 &&& (2147483647 : Int32) = z1) (hz2 : z1 % (19 : Int32) = (18 : Int32)) : 0 ≤ (18 : Int32).toInt ∧ (18 : Int32).toInt ≤ 18 := by
  have o0 := rng32 p1
  have o1 := rng32 (p1 &&& (2147483647 : Int32))
  have o2 := c_mask p1 (2147483647 : Int32) 31 (by decide) (by decide)
  have o3 := rng32 z1
  have o4 := rng32 (z1 % (19 : Int32))
  have o5 := c_irem z1 (19 : Int32) 19 (by decide)
  simp only [Int32.lt_iff_toInt_lt, Int64.lt_iff_toInt_lt, Int32.le_iff_toInt_le, Int64.le_iff_toInt_le, ← Int32.toInt_inj, ← Int64.toInt_inj, Int32.reduceToInt, Int64.reduceToInt, Int32.toInt_toInt64, ne_eq] at * <;> omega
theorem leaf_0 (p1 : Int32) (z1 : Int32) (r63 : Int64) (z66 : Int32) (hz1 : p1 &&& (2147483647 : Int32) = z1) (hz2 : z1 % (19 : Int32) = (0 : Int32)) (hr63 : Rel1 (0 : Int32) r63) (hj67 : (r63 = (0 : Int64) ∧ z66 = (1 : Int32)) ∨ (¬ (r63 = (0 : Int64)) ∧ z66 = (0 : Int32))) : z66 = 1 := by
  have q := hr63
  unfold Rel1 at q
  rcases q with ⟨a, b⟩ | ⟨a, b⟩
  · first | (exact absurd a (by decide)) | (subst b; rcases hj67 with ⟨c, d⟩ | ⟨c, d⟩ <;> first | exact d | exact absurd rfl c)
  · first | (exact absurd rfl a) | (subst b; rcases hj67 with ⟨c, d⟩ | ⟨c, d⟩ <;> first | exact d | exact absurd (by decide) c)
theorem leaf_1 (p1 : Int32) (z1 : Int32) (r68 : Int64) (z71 : Int32) (hz1 : p1 &&& (2147483647 : Int32) = z1) (hz2 : z1 % (19 : Int32) = (1 : Int32)) (hr68 : Rel1 (1 : Int32) r68) (hj72 : (r68 = (10 : Int64) ∧ z71 = (1 : Int32)) ∨ (¬ (r68 = (10 : Int64)) ∧ z71 = (0 : Int32))) : z71 = 1 := by
  have q := hr68
  unfold Rel1 at q
  rcases q with ⟨a, b⟩ | ⟨a, b⟩
  · first | (exact absurd a (by decide)) | (subst b; rcases hj72 with ⟨c, d⟩ | ⟨c, d⟩ <;> first | exact d | exact absurd rfl c)
  · first | (exact absurd rfl a) | (subst b; rcases hj72 with ⟨c, d⟩ | ⟨c, d⟩ <;> first | exact d | exact absurd (by decide) c)
theorem leaf_2 (p1 : Int32) (z1 : Int32) (r73 : Int64) (z76 : Int32) (hz1 : p1 &&& (2147483647 : Int32) = z1) (hz2 : z1 % (19 : Int32) = (2 : Int32)) (hr73 : Rel1 (2 : Int32) r73) (hj77 : (r73 = (100 : Int64) ∧ z76 = (1 : Int32)) ∨ (¬ (r73 = (100 : Int64)) ∧ z76 = (0 : Int32))) : z76 = 1 := by
  have q := hr73
  unfold Rel1 at q
  rcases q with ⟨a, b⟩ | ⟨a, b⟩
  · first | (exact absurd a (by decide)) | (subst b; rcases hj77 with ⟨c, d⟩ | ⟨c, d⟩ <;> first | exact d | exact absurd rfl c)
  · first | (exact absurd rfl a) | (subst b; rcases hj77 with ⟨c, d⟩ | ⟨c, d⟩ <;> first | exact d | exact absurd (by decide) c)
theorem leaf_3 (p1 : Int32) (z1 : Int32) (r78 : Int64) (z81 : Int32) (hz1 : p1 &&& (2147483647 : Int32) = z1) (hz2 : z1 % (19 : Int32) = (3 : Int32)) (hr78 : Rel1 (3 : Int32) r78) (hj82 : (r78 = (1000 : Int64) ∧ z81 = (1 : Int32)) ∨ (¬ (r78 = (1000 : Int64)) ∧ z81 = (0 : Int32))) : z81 = 1 := by
  have q := hr78
  unfold Rel1 at q
  rcases q with ⟨a, b⟩ | ⟨a, b⟩
  · first | (exact absurd a (by decide)) | (subst b; rcases hj82 with ⟨c, d⟩ | ⟨c, d⟩ <;> first | exact d | exact absurd rfl c)
  · first | (exact absurd rfl a) | (subst b; rcases hj82 with ⟨c, d⟩ | ⟨c, d⟩ <;> first | exact d | exact absurd (by decide) c)
theorem leaf_4 (p1 : Int32) (z1 : Int32) (r83 : Int64) (z86 : Int32) (hz1 : p1 &&& (2147483647 : Int32) = z1) (hz2 : z1 % (19 : Int32) = (4 : Int32)) (hr83 : Rel1 (4 : Int32) r83) (hj87 : (r83 = (10000 : Int64) ∧ z86 = (1 : Int32)) ∨ (¬ (r83 = (10000 : Int64)) ∧ z86 = (0 : Int32))) : z86 = 1 := by
  have q := hr83
  unfold Rel1 at q
  rcases q with ⟨a, b⟩ | ⟨a, b⟩
  · first | (exact absurd a (by decide)) | (subst b; rcases hj87 with ⟨c, d⟩ | ⟨c, d⟩ <;> first | exact d | exact absurd rfl c)
  · first | (exact absurd rfl a) | (subst b; rcases hj87 with ⟨c, d⟩ | ⟨c, d⟩ <;> first | exact d | exact absurd (by decide) c)
theorem leaf_5 (p1 : Int32) (z1 : Int32) (r88 : Int64) (z91 : Int32) (hz1 : p1 &&& (2147483647 : Int32) = z1) (hz2 : z1 % (19 : Int32) = (5 : Int32)) (hr88 : Rel1 (5 : Int32) r88) (hj92 : (r88 = (100000 : Int64) ∧ z91 = (1 : Int32)) ∨ (¬ (r88 = (100000 : Int64)) ∧ z91 = (0 : Int32))) : z91 = 1 := by
  have q := hr88
  unfold Rel1 at q
  rcases q with ⟨a, b⟩ | ⟨a, b⟩
  · first | (exact absurd a (by decide)) | (subst b; rcases hj92 with ⟨c, d⟩ | ⟨c, d⟩ <;> first | exact d | exact absurd rfl c)
  · first | (exact absurd rfl a) | (subst b; rcases hj92 with ⟨c, d⟩ | ⟨c, d⟩ <;> first | exact d | exact absurd (by decide) c)
theorem leaf_6 (p1 : Int32) (z1 : Int32) (r93 : Int64) (z96 : Int32) (hz1 : p1 &&& (2147483647 : Int32) = z1) (hz2 : z1 % (19 : Int32) = (6 : Int32)) (hr93 : Rel1 (6 : Int32) r93) (hj97 : (r93 = (1000000 : Int64) ∧ z96 = (1 : Int32)) ∨ (¬ (r93 = (1000000 : Int64)) ∧ z96 = (0 : Int32))) : z96 = 1 := by
  have q := hr93
  unfold Rel1 at q
  rcases q with ⟨a, b⟩ | ⟨a, b⟩
  · first | (exact absurd a (by decide)) | (subst b; rcases hj97 with ⟨c, d⟩ | ⟨c, d⟩ <;> first | exact d | exact absurd rfl c)
  · first | (exact absurd rfl a) | (subst b; rcases hj97 with ⟨c, d⟩ | ⟨c, d⟩ <;> first | exact d | exact absurd (by decide) c)
theorem leaf_7 (p1 : Int32) (z1 : Int32) (r98 : Int64) (z101 : Int32) (hz1 : p1 &&& (2147483647 : Int32) = z1) (hz2 : z1 % (19 : Int32) = (7 : Int32)) (hr98 : Rel1 (7 : Int32) r98) (hj102 : (r98 = (10000000 : Int64) ∧ z101 = (1 : Int32)) ∨ (¬ (r98 = (10000000 : Int64)) ∧ z101 = (0 : Int32))) : z101 = 1 := by
  have q := hr98
  unfold Rel1 at q
  rcases q with ⟨a, b⟩ | ⟨a, b⟩
  · first | (exact absurd a (by decide)) | (subst b; rcases hj102 with ⟨c, d⟩ | ⟨c, d⟩ <;> first | exact d | exact absurd rfl c)
  · first | (exact absurd rfl a) | (subst b; rcases hj102 with ⟨c, d⟩ | ⟨c, d⟩ <;> first | exact d | exact absurd (by decide) c)
theorem leaf_8 (p1 : Int32) (z1 : Int32) (r103 : Int64) (z106 : Int32) (hz1 : p1 &&& (2147483647 : Int32) = z1) (hz2 : z1 % (19 : Int32) = (8 : Int32)) (hr103 : Rel1 (8 : Int32) r103) (hj107 : (r103 = (100000000 : Int64) ∧ z106 = (1 : Int32)) ∨ (¬ (r103 = (100000000 : Int64)) ∧ z106 = (0 : Int32))) : z106 = 1 := by
  have q := hr103
  unfold Rel1 at q
  rcases q with ⟨a, b⟩ | ⟨a, b⟩
  · first | (exact absurd a (by decide)) | (subst b; rcases hj107 with ⟨c, d⟩ | ⟨c, d⟩ <;> first | exact d | exact absurd rfl c)
  · first | (exact absurd rfl a) | (subst b; rcases hj107 with ⟨c, d⟩ | ⟨c, d⟩ <;> first | exact d | exact absurd (by decide) c)
theorem leaf_9 (p1 : Int32) (z1 : Int32) (r108 : Int64) (z111 : Int32) (hz1 : p1 &&& (2147483647 : Int32) = z1) (hz2 : z1 % (19 : Int32) = (9 : Int32)) (hr108 : Rel1 (9 : Int32) r108) (hj112 : (r108 = (1000000000 : Int64) ∧ z111 = (1 : Int32)) ∨ (¬ (r108 = (1000000000 : Int64)) ∧ z111 = (0 : Int32))) : z111 = 1 := by
  have q := hr108
  unfold Rel1 at q
  rcases q with ⟨a, b⟩ | ⟨a, b⟩
  · first | (exact absurd a (by decide)) | (subst b; rcases hj112 with ⟨c, d⟩ | ⟨c, d⟩ <;> first | exact d | exact absurd rfl c)
  · first | (exact absurd rfl a) | (subst b; rcases hj112 with ⟨c, d⟩ | ⟨c, d⟩ <;> first | exact d | exact absurd (by decide) c)
theorem leaf_10 (p1 : Int32) (z1 : Int32) (r113 : Int64) (z116 : Int32) (hz1 : p1 &&& (2147483647 : Int32) = z1) (hz2 : z1 % (19 : Int32) = (10 : Int32)) (hr113 : Rel1 (10 : Int32) r113) (hj117 : (r113 = (10000000000 : Int64) ∧ z116 = (1 : Int32)) ∨ (¬ (r113 = (10000000000 : Int64)) ∧ z116 = (0 : Int32))) : z116 = 1 := by
  have q := hr113
  unfold Rel1 at q
  rcases q with ⟨a, b⟩ | ⟨a, b⟩
  · first | (exact absurd a (by decide)) | (subst b; rcases hj117 with ⟨c, d⟩ | ⟨c, d⟩ <;> first | exact d | exact absurd rfl c)
  · first | (exact absurd rfl a) | (subst b; rcases hj117 with ⟨c, d⟩ | ⟨c, d⟩ <;> first | exact d | exact absurd (by decide) c)
theorem leaf_11 (p1 : Int32) (z1 : Int32) (r118 : Int64) (z121 : Int32) (hz1 : p1 &&& (2147483647 : Int32) = z1) (hz2 : z1 % (19 : Int32) = (11 : Int32)) (hr118 : Rel1 (11 : Int32) r118) (hj122 : (r118 = (100000000000 : Int64) ∧ z121 = (1 : Int32)) ∨ (¬ (r118 = (100000000000 : Int64)) ∧ z121 = (0 : Int32))) : z121 = 1 := by
  have q := hr118
  unfold Rel1 at q
  rcases q with ⟨a, b⟩ | ⟨a, b⟩
  · first | (exact absurd a (by decide)) | (subst b; rcases hj122 with ⟨c, d⟩ | ⟨c, d⟩ <;> first | exact d | exact absurd rfl c)
  · first | (exact absurd rfl a) | (subst b; rcases hj122 with ⟨c, d⟩ | ⟨c, d⟩ <;> first | exact d | exact absurd (by decide) c)
theorem leaf_12 (p1 : Int32) (z1 : Int32) (r123 : Int64) (z126 : Int32) (hz1 : p1 &&& (2147483647 : Int32) = z1) (hz2 : z1 % (19 : Int32) = (12 : Int32)) (hr123 : Rel1 (12 : Int32) r123) (hj127 : (r123 = (1000000000000 : Int64) ∧ z126 = (1 : Int32)) ∨ (¬ (r123 = (1000000000000 : Int64)) ∧ z126 = (0 : Int32))) : z126 = 1 := by
  have q := hr123
  unfold Rel1 at q
  rcases q with ⟨a, b⟩ | ⟨a, b⟩
  · first | (exact absurd a (by decide)) | (subst b; rcases hj127 with ⟨c, d⟩ | ⟨c, d⟩ <;> first | exact d | exact absurd rfl c)
  · first | (exact absurd rfl a) | (subst b; rcases hj127 with ⟨c, d⟩ | ⟨c, d⟩ <;> first | exact d | exact absurd (by decide) c)
theorem leaf_13 (p1 : Int32) (z1 : Int32) (r128 : Int64) (z131 : Int32) (hz1 : p1 &&& (2147483647 : Int32) = z1) (hz2 : z1 % (19 : Int32) = (13 : Int32)) (hr128 : Rel1 (13 : Int32) r128) (hj132 : (r128 = (10000000000000 : Int64) ∧ z131 = (1 : Int32)) ∨ (¬ (r128 = (10000000000000 : Int64)) ∧ z131 = (0 : Int32))) : z131 = 1 := by
  have q := hr128
  unfold Rel1 at q
  rcases q with ⟨a, b⟩ | ⟨a, b⟩
  · first | (exact absurd a (by decide)) | (subst b; rcases hj132 with ⟨c, d⟩ | ⟨c, d⟩ <;> first | exact d | exact absurd rfl c)
  · first | (exact absurd rfl a) | (subst b; rcases hj132 with ⟨c, d⟩ | ⟨c, d⟩ <;> first | exact d | exact absurd (by decide) c)
theorem leaf_14 (p1 : Int32) (z1 : Int32) (r133 : Int64) (z136 : Int32) (hz1 : p1 &&& (2147483647 : Int32) = z1) (hz2 : z1 % (19 : Int32) = (14 : Int32)) (hr133 : Rel1 (14 : Int32) r133) (hj137 : (r133 = (100000000000000 : Int64) ∧ z136 = (1 : Int32)) ∨ (¬ (r133 = (100000000000000 : Int64)) ∧ z136 = (0 : Int32))) : z136 = 1 := by
  have q := hr133
  unfold Rel1 at q
  rcases q with ⟨a, b⟩ | ⟨a, b⟩
  · first | (exact absurd a (by decide)) | (subst b; rcases hj137 with ⟨c, d⟩ | ⟨c, d⟩ <;> first | exact d | exact absurd rfl c)
  · first | (exact absurd rfl a) | (subst b; rcases hj137 with ⟨c, d⟩ | ⟨c, d⟩ <;> first | exact d | exact absurd (by decide) c)
theorem leaf_15 (p1 : Int32) (z1 : Int32) (r138 : Int64) (z141 : Int32) (hz1 : p1 &&& (2147483647 : Int32) = z1) (hz2 : z1 % (19 : Int32) = (15 : Int32)) (hr138 : Rel1 (15 : Int32) r138) (hj142 : (r138 = (1000000000000000 : Int64) ∧ z141 = (1 : Int32)) ∨ (¬ (r138 = (1000000000000000 : Int64)) ∧ z141 = (0 : Int32))) : z141 = 1 := by
  have q := hr138
  unfold Rel1 at q
  rcases q with ⟨a, b⟩ | ⟨a, b⟩
  · first | (exact absurd a (by decide)) | (subst b; rcases hj142 with ⟨c, d⟩ | ⟨c, d⟩ <;> first | exact d | exact absurd rfl c)
  · first | (exact absurd rfl a) | (subst b; rcases hj142 with ⟨c, d⟩ | ⟨c, d⟩ <;> first | exact d | exact absurd (by decide) c)
theorem leaf_16 (p1 : Int32) (z1 : Int32) (r143 : Int64) (z146 : Int32) (hz1 : p1 &&& (2147483647 : Int32) = z1) (hz2 : z1 % (19 : Int32) = (16 : Int32)) (hr143 : Rel1 (16 : Int32) r143) (hj147 : (r143 = (10000000000000000 : Int64) ∧ z146 = (1 : Int32)) ∨ (¬ (r143 = (10000000000000000 : Int64)) ∧ z146 = (0 : Int32))) : z146 = 1 := by
  have q := hr143
  unfold Rel1 at q
  rcases q with ⟨a, b⟩ | ⟨a, b⟩
  · first | (exact absurd a (by decide)) | (subst b; rcases hj147 with ⟨c, d⟩ | ⟨c, d⟩ <;> first | exact d | exact absurd rfl c)
  · first | (exact absurd rfl a) | (subst b; rcases hj147 with ⟨c, d⟩ | ⟨c, d⟩ <;> first | exact d | exact absurd (by decide) c)
theorem leaf_17 (p1 : Int32) (z1 : Int32) (r148 : Int64) (z151 : Int32) (hz1 : p1 &&& (2147483647 : Int32) = z1) (hz2 : z1 % (19 : Int32) = (17 : Int32)) (hr148 : Rel1 (17 : Int32) r148) (hj152 : (r148 = (100000000000000000 : Int64) ∧ z151 = (1 : Int32)) ∨ (¬ (r148 = (100000000000000000 : Int64)) ∧ z151 = (0 : Int32))) : z151 = 1 := by
  have q := hr148
  unfold Rel1 at q
  rcases q with ⟨a, b⟩ | ⟨a, b⟩
  · first | (exact absurd a (by decide)) | (subst b; rcases hj152 with ⟨c, d⟩ | ⟨c, d⟩ <;> first | exact d | exact absurd rfl c)
  · first | (exact absurd rfl a) | (subst b; rcases hj152 with ⟨c, d⟩ | ⟨c, d⟩ <;> first | exact d | exact absurd (by decide) c)
theorem leaf_18 (p1 : Int32) (z1 : Int32) (r153 : Int64) (z156 : Int32) (hz1 : p1 &&& (2147483647 : Int32) = z1) (hz2 : z1 % (19 : Int32) = (18 : Int32)) (hr153 : Rel1 (18 : Int32) r153) (hj157 : (r153 = (1000000000000000000 : Int64) ∧ z156 = (1 : Int32)) ∨ (¬ (r153 = (1000000000000000000 : Int64)) ∧ z156 = (0 : Int32))) : z156 = 1 := by
  have q := hr153
  unfold Rel1 at q
  rcases q with ⟨a, b⟩ | ⟨a, b⟩
  · first | (exact absurd a (by decide)) | (subst b; rcases hj157 with ⟨c, d⟩ | ⟨c, d⟩ <;> first | exact d | exact absurd rfl c)
  · first | (exact absurd rfl a) | (subst b; rcases hj157 with ⟨c, d⟩ | ⟨c, d⟩ <;> first | exact d | exact absurd (by decide) c)
def Q0 (Z : State) (p1 : Int32) (h0 : Heap) (n0 : Nat) (v : Option Value) (h : Heap) (L : List Loc) : Prop := v = some (.int (1 : Int32)) ∧ Fr n0 L
theorem pn_1 : plainName "com/example/utility_meter_billing/utilitymeterbilling/model/PremiseCapacityOfPinLaw" = true := by first | (simp [plainName, overriddenIn]; done) | decide +kernel
theorem ef_rm0 (m : MethodId) (p1 : Int32) : entryFrame m #[(.int p1)] maxLocals = mkF m 0 #[.val (.int p1), .unset, .unset, .unset, .unset, .unset, .unset, .unset, .unset] [] := by first | (simp [entryFrame, mkF, argsToLocals, Value.category, maxLocals]; done) | rfl
set_option maxRecDepth 65536 in
set_option maxHeartbeats 40000000 in
theorem rm0 (l : Launch) (Z : State) (a0 : Array Value) (hw : ∀ d ∈ tables_1, d.before a0 Z = true) (ws : List Jvm.Cond) (p1 : Int32) (h0 : Heap) (n0 : Nat) (Z0 : n0 ≤ h0.size)  :
    MetFree l x (head1 (Jvm.Cond.code x code maxLocals ret :: ws) room_1) (fun a U => a = #[(.int p1)] ∧ Z.Warmed39 U.vm ∧ U.heap = h0) (fun _ _ _ _ _ => True) (fun _ U o U' => ∃ v L, o = .returned v ∧ (Q0 Z p1 h0 n0) v U'.heap L ∧ FrameEnd U o U' L 16 128) := by
  refine MetFree.of_bodySF (plainFor_of_name pn_1) hisR ?_
  intro p e s m args below meth c s₁ Bd hml0 hP hK
  obtain ⟨rfl, hZ, hh⟩ := hP
  have hx := Bd.exec
  have hby := Bd.bytes
  have hml : c.maxLocals = 9 := hml0
  have hown : s.vm.findClass "com/example/utility_meter_billing/utilitymeterbilling/model/PremiseCapacityOfPinLaw" = some m.cls := findClass_of_methodNamed Bd.named
  have hnm := (name_of_methodNamed Bd.named Bd.method).1
  have hlk : meth.locks = false := BodyLoose.notSynchronized Bd
  have X0 : Stand p l e room_1 s m #[(.int p1)] below meth c s₁ [] 0 0 := Stand.of_body Bd
  have e0 : s₁.heap = h0 := by rw [← hh, Bd.state]; rfl
  have N0 := Fr.nil n0
  show Go p e below s 16 128 (Q0 Z p1 h0 n0) s₁ (entryFrame m #[(.int p1)] maxLocals)
  rw [ef_rm0 m p1]
  refine g_iloadN 1 X0 hx (hb hby at_0) rfl (v := p1) rfl ?_
  refine g_ldc 3 X0 hx hZ hown (hw _ (List.mem_of_getElem? (i := 0) rfl)) (hb hby at_1) rfl ?_
  obtain ⟨z1, hz1⟩ : ∃ z : Int32, p1 &&& (2147483647 : Int32) = z := ⟨_, rfl⟩
  refine g_iand 4 X0 hx (hb hby at_3) rfl (z := z1) hz1 ?_
  refine g_bipush 6 X0 hx (hb hby at_4) rfl (z := (19 : Int32)) rfl ?_
  obtain ⟨z2, hz2⟩ : ∃ z : Int32, z1 % (19 : Int32) = z := ⟨_, rfl⟩
  refine g_irem 7 X0 hx (hb hby at_6) rfl (by decide) (z := z2) hz2 ?_
  refine g_istoreN 8 X0 hx (hb hby at_7) rfl (Ls' := #[.val (.int p1), .val (.int z2), .unset, .unset, .unset, .unset, .unset, .unset, .unset]) rfl ?_
  refine g_ldc2 11 X0 hx hZ hown (hw _ (List.mem_of_getElem? (i := 1) rfl)) (hb hby at_8) rfl ?_
  refine g_lstoreN 12 X0 hx (hb hby at_11) rfl (Ls' := #[.val (.int p1), .val (.int z2), .val (.long (1000 : Int64)), .second, .unset, .unset, .unset, .unset, .unset]) rfl ?_
  refine g_lloadN 13 X0 hx (hb hby at_12) rfl (v := (1000 : Int64)) rfl ?_
  refine g_lloadN 14 X0 hx (hb hby at_13) rfl (v := (1000 : Int64)) rfl ?_
  refine g_lmul 15 X0 hx (hb hby at_14) rfl (z := (1000000 : Int64)) (by decide) ?_
  refine g_lstore 17 X0 hx (hb hby at_15) rfl (Ls' := #[.val (.int p1), .val (.int z2), .val (.long (1000 : Int64)), .second, .val (.long (1000000 : Int64)), .second, .unset, .unset, .unset]) rfl ?_
  refine g_lload 19 X0 hx (hb hby at_17) rfl (v := (1000000 : Int64)) rfl ?_
  refine g_lloadN 20 X0 hx (hb hby at_19) rfl (v := (1000 : Int64)) rfl ?_
  refine g_lmul 21 X0 hx (hb hby at_20) rfl (z := (1000000000 : Int64)) (by decide) ?_
  refine g_lstore 23 X0 hx (hb hby at_21) rfl (Ls' := #[.val (.int p1), .val (.int z2), .val (.long (1000 : Int64)), .second, .val (.long (1000000 : Int64)), .second, .val (.long (1000000000 : Int64)), .second, .unset]) rfl ?_
  refine g_bipush 25 X0 hx (hb hby at_23) rfl (z := (19 : Int32)) rfl ?_
  refine g_new_long 27 X0 hx hZ (hw _ (List.mem_of_getElem? (i := 2) rfl)) e0 19 19 (by decide) rfl (by decide) (by decide) (by decide) (by decide) (hb hby at_25) rfl ?_
  intro T3 h3 b3 X3 e3 E3 g3 A3
  have Zs4 : n0 ≤ h3.size := (Nat.le_trans Z0 E3.1)
  have g_b3 : n0 ≤ b3 := Nat.le_trans Z0 (Nat.le_of_eq g3.symm)
  have A3' : AJ Z h3 b3 [(0 : Int64), (0 : Int64), (0 : Int64), (0 : Int64), (0 : Int64), (0 : Int64), (0 : Int64), (0 : Int64), (0 : Int64), (0 : Int64), (0 : Int64), (0 : Int64), (0 : Int64), (0 : Int64), (0 : Int64), (0 : Int64), (0 : Int64), (0 : Int64), (0 : Int64)] := A3
  refine g_dup 28 X3 hx (hb hby at_27) rfl rfl ?_
  refine g_iconst 29 X3 hx (hb hby at_28) rfl (z := (0 : Int32)) rfl ?_
  refine g_lconst 30 X3 hx (hb hby at_29) rfl (z := (0 : Int64)) rfl ?_
  refine g_lastore 31 X3 hx hZ e3 A3' 0 (by decide) rfl (Nat.le_of_ble_eq_true rfl) (hb hby at_30) rfl ?_
  intro T5 h5 X5 e5 W5 A5
  have Zs6 : n0 ≤ h5.size := (Nat.le_trans Zs4 (Keep.of_wr W5).1)
  have A5' : AJ Z h5 b3 [(0 : Int64), (0 : Int64), (0 : Int64), (0 : Int64), (0 : Int64), (0 : Int64), (0 : Int64), (0 : Int64), (0 : Int64), (0 : Int64), (0 : Int64), (0 : Int64), (0 : Int64), (0 : Int64), (0 : Int64), (0 : Int64), (0 : Int64), (0 : Int64), (0 : Int64)] := A5
  have N7 := Fr.snoc X5 N0 g_b3
  refine g_dup 32 X5 hx (hb hby at_31) rfl rfl ?_
  refine g_iconst 33 X5 hx (hb hby at_32) rfl (z := (1 : Int32)) rfl ?_
  refine g_ldc2 36 X5 hx hZ hown (hw _ (List.mem_of_getElem? (i := 3) rfl)) (hb hby at_33) rfl ?_
  refine g_lastore 37 X5 hx hZ e5 A5' 1 (by decide) rfl (Nat.le_of_ble_eq_true rfl) (hb hby at_36) rfl ?_
  intro T8 h8 X8 e8 W8 A8
  have Zs9 : n0 ≤ h8.size := (Nat.le_trans Zs6 (Keep.of_wr W8).1)
  have A8' : AJ Z h8 b3 [(0 : Int64), (10 : Int64), (0 : Int64), (0 : Int64), (0 : Int64), (0 : Int64), (0 : Int64), (0 : Int64), (0 : Int64), (0 : Int64), (0 : Int64), (0 : Int64), (0 : Int64), (0 : Int64), (0 : Int64), (0 : Int64), (0 : Int64), (0 : Int64), (0 : Int64)] := A8
  have N10 := Fr.snoc X8 N7 g_b3
  refine g_dup 38 X8 hx (hb hby at_37) rfl rfl ?_
  refine g_iconst 39 X8 hx (hb hby at_38) rfl (z := (2 : Int32)) rfl ?_
  refine g_ldc2 42 X8 hx hZ hown (hw _ (List.mem_of_getElem? (i := 4) rfl)) (hb hby at_39) rfl ?_
  refine g_lastore 43 X8 hx hZ e8 A8' 2 (by decide) rfl (Nat.le_of_ble_eq_true rfl) (hb hby at_42) rfl ?_
  intro T11 h11 X11 e11 W11 A11
  have Zs12 : n0 ≤ h11.size := (Nat.le_trans Zs9 (Keep.of_wr W11).1)
  have A11' : AJ Z h11 b3 [(0 : Int64), (10 : Int64), (100 : Int64), (0 : Int64), (0 : Int64), (0 : Int64), (0 : Int64), (0 : Int64), (0 : Int64), (0 : Int64), (0 : Int64), (0 : Int64), (0 : Int64), (0 : Int64), (0 : Int64), (0 : Int64), (0 : Int64), (0 : Int64), (0 : Int64)] := A11
  have N13 := Fr.snoc X11 N10 g_b3
  refine g_dup 44 X11 hx (hb hby at_43) rfl rfl ?_
  refine g_iconst 45 X11 hx (hb hby at_44) rfl (z := (3 : Int32)) rfl ?_
  refine g_lloadN 46 X11 hx (hb hby at_45) rfl (v := (1000 : Int64)) rfl ?_
  refine g_lastore 47 X11 hx hZ e11 A11' 3 (by decide) rfl (Nat.le_of_ble_eq_true rfl) (hb hby at_46) rfl ?_
  intro T14 h14 X14 e14 W14 A14
  have Zs15 : n0 ≤ h14.size := (Nat.le_trans Zs12 (Keep.of_wr W14).1)
  have A14' : AJ Z h14 b3 [(0 : Int64), (10 : Int64), (100 : Int64), (1000 : Int64), (0 : Int64), (0 : Int64), (0 : Int64), (0 : Int64), (0 : Int64), (0 : Int64), (0 : Int64), (0 : Int64), (0 : Int64), (0 : Int64), (0 : Int64), (0 : Int64), (0 : Int64), (0 : Int64), (0 : Int64)] := A14
  have N16 := Fr.snoc X14 N13 g_b3
  refine g_dup 48 X14 hx (hb hby at_47) rfl rfl ?_
  refine g_iconst 49 X14 hx (hb hby at_48) rfl (z := (4 : Int32)) rfl ?_
  refine g_ldc2 52 X14 hx hZ hown (hw _ (List.mem_of_getElem? (i := 3) rfl)) (hb hby at_49) rfl ?_
  refine g_lloadN 53 X14 hx (hb hby at_52) rfl (v := (1000 : Int64)) rfl ?_
  refine g_lmul 54 X14 hx (hb hby at_53) rfl (z := (10000 : Int64)) (by decide) ?_
  refine g_lastore 55 X14 hx hZ e14 A14' 4 (by decide) rfl (Nat.le_of_ble_eq_true rfl) (hb hby at_54) rfl ?_
  intro T17 h17 X17 e17 W17 A17
  have Zs18 : n0 ≤ h17.size := (Nat.le_trans Zs15 (Keep.of_wr W17).1)
  have A17' : AJ Z h17 b3 [(0 : Int64), (10 : Int64), (100 : Int64), (1000 : Int64), (10000 : Int64), (0 : Int64), (0 : Int64), (0 : Int64), (0 : Int64), (0 : Int64), (0 : Int64), (0 : Int64), (0 : Int64), (0 : Int64), (0 : Int64), (0 : Int64), (0 : Int64), (0 : Int64), (0 : Int64)] := A17
  have N19 := Fr.snoc X17 N16 g_b3
  refine g_dup 56 X17 hx (hb hby at_55) rfl rfl ?_
  refine g_iconst 57 X17 hx (hb hby at_56) rfl (z := (5 : Int32)) rfl ?_
  refine g_ldc2 60 X17 hx hZ hown (hw _ (List.mem_of_getElem? (i := 4) rfl)) (hb hby at_57) rfl ?_
  refine g_lloadN 61 X17 hx (hb hby at_60) rfl (v := (1000 : Int64)) rfl ?_
  refine g_lmul 62 X17 hx (hb hby at_61) rfl (z := (100000 : Int64)) (by decide) ?_
  refine g_lastore 63 X17 hx hZ e17 A17' 5 (by decide) rfl (Nat.le_of_ble_eq_true rfl) (hb hby at_62) rfl ?_
  intro T20 h20 X20 e20 W20 A20
  have Zs21 : n0 ≤ h20.size := (Nat.le_trans Zs18 (Keep.of_wr W20).1)
  have A20' : AJ Z h20 b3 [(0 : Int64), (10 : Int64), (100 : Int64), (1000 : Int64), (10000 : Int64), (100000 : Int64), (0 : Int64), (0 : Int64), (0 : Int64), (0 : Int64), (0 : Int64), (0 : Int64), (0 : Int64), (0 : Int64), (0 : Int64), (0 : Int64), (0 : Int64), (0 : Int64), (0 : Int64)] := A20
  have N22 := Fr.snoc X20 N19 g_b3
  refine g_dup 64 X20 hx (hb hby at_63) rfl rfl ?_
  refine g_bipush 66 X20 hx (hb hby at_64) rfl (z := (6 : Int32)) rfl ?_
  refine g_lload 68 X20 hx (hb hby at_66) rfl (v := (1000000 : Int64)) rfl ?_
  refine g_lastore 69 X20 hx hZ e20 A20' 6 (by decide) rfl (Nat.le_of_ble_eq_true rfl) (hb hby at_68) rfl ?_
  intro T23 h23 X23 e23 W23 A23
  have Zs24 : n0 ≤ h23.size := (Nat.le_trans Zs21 (Keep.of_wr W23).1)
  have A23' : AJ Z h23 b3 [(0 : Int64), (10 : Int64), (100 : Int64), (1000 : Int64), (10000 : Int64), (100000 : Int64), (1000000 : Int64), (0 : Int64), (0 : Int64), (0 : Int64), (0 : Int64), (0 : Int64), (0 : Int64), (0 : Int64), (0 : Int64), (0 : Int64), (0 : Int64), (0 : Int64), (0 : Int64)] := A23
  have N25 := Fr.snoc X23 N22 g_b3
  refine g_dup 70 X23 hx (hb hby at_69) rfl rfl ?_
  refine g_bipush 72 X23 hx (hb hby at_70) rfl (z := (7 : Int32)) rfl ?_
  refine g_ldc2 75 X23 hx hZ hown (hw _ (List.mem_of_getElem? (i := 3) rfl)) (hb hby at_72) rfl ?_
  refine g_lload 77 X23 hx (hb hby at_75) rfl (v := (1000000 : Int64)) rfl ?_
  refine g_lmul 78 X23 hx (hb hby at_77) rfl (z := (10000000 : Int64)) (by decide) ?_
  refine g_lastore 79 X23 hx hZ e23 A23' 7 (by decide) rfl (Nat.le_of_ble_eq_true rfl) (hb hby at_78) rfl ?_
  intro T26 h26 X26 e26 W26 A26
  have Zs27 : n0 ≤ h26.size := (Nat.le_trans Zs24 (Keep.of_wr W26).1)
  have A26' : AJ Z h26 b3 [(0 : Int64), (10 : Int64), (100 : Int64), (1000 : Int64), (10000 : Int64), (100000 : Int64), (1000000 : Int64), (10000000 : Int64), (0 : Int64), (0 : Int64), (0 : Int64), (0 : Int64), (0 : Int64), (0 : Int64), (0 : Int64), (0 : Int64), (0 : Int64), (0 : Int64), (0 : Int64)] := A26
  have N28 := Fr.snoc X26 N25 g_b3
  refine g_dup 80 X26 hx (hb hby at_79) rfl rfl ?_
  refine g_bipush 82 X26 hx (hb hby at_80) rfl (z := (8 : Int32)) rfl ?_
  refine g_ldc2 85 X26 hx hZ hown (hw _ (List.mem_of_getElem? (i := 4) rfl)) (hb hby at_82) rfl ?_
  refine g_lload 87 X26 hx (hb hby at_85) rfl (v := (1000000 : Int64)) rfl ?_
  refine g_lmul 88 X26 hx (hb hby at_87) rfl (z := (100000000 : Int64)) (by decide) ?_
  refine g_lastore 89 X26 hx hZ e26 A26' 8 (by decide) rfl (Nat.le_of_ble_eq_true rfl) (hb hby at_88) rfl ?_
  intro T29 h29 X29 e29 W29 A29
  have Zs30 : n0 ≤ h29.size := (Nat.le_trans Zs27 (Keep.of_wr W29).1)
  have A29' : AJ Z h29 b3 [(0 : Int64), (10 : Int64), (100 : Int64), (1000 : Int64), (10000 : Int64), (100000 : Int64), (1000000 : Int64), (10000000 : Int64), (100000000 : Int64), (0 : Int64), (0 : Int64), (0 : Int64), (0 : Int64), (0 : Int64), (0 : Int64), (0 : Int64), (0 : Int64), (0 : Int64), (0 : Int64)] := A29
  have N31 := Fr.snoc X29 N28 g_b3
  refine g_dup 90 X29 hx (hb hby at_89) rfl rfl ?_
  refine g_bipush 92 X29 hx (hb hby at_90) rfl (z := (9 : Int32)) rfl ?_
  refine g_lload 94 X29 hx (hb hby at_92) rfl (v := (1000000000 : Int64)) rfl ?_
  refine g_lastore 95 X29 hx hZ e29 A29' 9 (by decide) rfl (Nat.le_of_ble_eq_true rfl) (hb hby at_94) rfl ?_
  intro T32 h32 X32 e32 W32 A32
  have Zs33 : n0 ≤ h32.size := (Nat.le_trans Zs30 (Keep.of_wr W32).1)
  have A32' : AJ Z h32 b3 [(0 : Int64), (10 : Int64), (100 : Int64), (1000 : Int64), (10000 : Int64), (100000 : Int64), (1000000 : Int64), (10000000 : Int64), (100000000 : Int64), (1000000000 : Int64), (0 : Int64), (0 : Int64), (0 : Int64), (0 : Int64), (0 : Int64), (0 : Int64), (0 : Int64), (0 : Int64), (0 : Int64)] := A32
  have N34 := Fr.snoc X32 N31 g_b3
  refine g_dup 96 X32 hx (hb hby at_95) rfl rfl ?_
  refine g_bipush 98 X32 hx (hb hby at_96) rfl (z := (10 : Int32)) rfl ?_
  refine g_ldc2 101 X32 hx hZ hown (hw _ (List.mem_of_getElem? (i := 3) rfl)) (hb hby at_98) rfl ?_
  refine g_lload 103 X32 hx (hb hby at_101) rfl (v := (1000000000 : Int64)) rfl ?_
  refine g_lmul 104 X32 hx (hb hby at_103) rfl (z := (10000000000 : Int64)) (by decide) ?_
  refine g_lastore 105 X32 hx hZ e32 A32' 10 (by decide) rfl (Nat.le_of_ble_eq_true rfl) (hb hby at_104) rfl ?_
  intro T35 h35 X35 e35 W35 A35
  have Zs36 : n0 ≤ h35.size := (Nat.le_trans Zs33 (Keep.of_wr W35).1)
  have A35' : AJ Z h35 b3 [(0 : Int64), (10 : Int64), (100 : Int64), (1000 : Int64), (10000 : Int64), (100000 : Int64), (1000000 : Int64), (10000000 : Int64), (100000000 : Int64), (1000000000 : Int64), (10000000000 : Int64), (0 : Int64), (0 : Int64), (0 : Int64), (0 : Int64), (0 : Int64), (0 : Int64), (0 : Int64), (0 : Int64)] := A35
  have N37 := Fr.snoc X35 N34 g_b3
  refine g_dup 106 X35 hx (hb hby at_105) rfl rfl ?_
  refine g_bipush 108 X35 hx (hb hby at_106) rfl (z := (11 : Int32)) rfl ?_
  refine g_ldc2 111 X35 hx hZ hown (hw _ (List.mem_of_getElem? (i := 4) rfl)) (hb hby at_108) rfl ?_
  refine g_lload 113 X35 hx (hb hby at_111) rfl (v := (1000000000 : Int64)) rfl ?_
  refine g_lmul 114 X35 hx (hb hby at_113) rfl (z := (100000000000 : Int64)) (by decide) ?_
  refine g_lastore 115 X35 hx hZ e35 A35' 11 (by decide) rfl (Nat.le_of_ble_eq_true rfl) (hb hby at_114) rfl ?_
  intro T38 h38 X38 e38 W38 A38
  have Zs39 : n0 ≤ h38.size := (Nat.le_trans Zs36 (Keep.of_wr W38).1)
  have A38' : AJ Z h38 b3 [(0 : Int64), (10 : Int64), (100 : Int64), (1000 : Int64), (10000 : Int64), (100000 : Int64), (1000000 : Int64), (10000000 : Int64), (100000000 : Int64), (1000000000 : Int64), (10000000000 : Int64), (100000000000 : Int64), (0 : Int64), (0 : Int64), (0 : Int64), (0 : Int64), (0 : Int64), (0 : Int64), (0 : Int64)] := A38
  have N40 := Fr.snoc X38 N37 g_b3
  refine g_dup 116 X38 hx (hb hby at_115) rfl rfl ?_
  refine g_bipush 118 X38 hx (hb hby at_116) rfl (z := (12 : Int32)) rfl ?_
  refine g_lload 120 X38 hx (hb hby at_118) rfl (v := (1000000000 : Int64)) rfl ?_
  refine g_lloadN 121 X38 hx (hb hby at_120) rfl (v := (1000 : Int64)) rfl ?_
  refine g_lmul 122 X38 hx (hb hby at_121) rfl (z := (1000000000000 : Int64)) (by decide) ?_
  refine g_lastore 123 X38 hx hZ e38 A38' 12 (by decide) rfl (Nat.le_of_ble_eq_true rfl) (hb hby at_122) rfl ?_
  intro T41 h41 X41 e41 W41 A41
  have Zs42 : n0 ≤ h41.size := (Nat.le_trans Zs39 (Keep.of_wr W41).1)
  have A41' : AJ Z h41 b3 [(0 : Int64), (10 : Int64), (100 : Int64), (1000 : Int64), (10000 : Int64), (100000 : Int64), (1000000 : Int64), (10000000 : Int64), (100000000 : Int64), (1000000000 : Int64), (10000000000 : Int64), (100000000000 : Int64), (1000000000000 : Int64), (0 : Int64), (0 : Int64), (0 : Int64), (0 : Int64), (0 : Int64), (0 : Int64)] := A41
  have N43 := Fr.snoc X41 N40 g_b3
  refine g_dup 124 X41 hx (hb hby at_123) rfl rfl ?_
  refine g_bipush 126 X41 hx (hb hby at_124) rfl (z := (13 : Int32)) rfl ?_
  refine g_ldc2 129 X41 hx hZ hown (hw _ (List.mem_of_getElem? (i := 3) rfl)) (hb hby at_126) rfl ?_
  refine g_lload 131 X41 hx (hb hby at_129) rfl (v := (1000000000 : Int64)) rfl ?_
  refine g_lmul 132 X41 hx (hb hby at_131) rfl (z := (10000000000 : Int64)) (by decide) ?_
  refine g_lloadN 133 X41 hx (hb hby at_132) rfl (v := (1000 : Int64)) rfl ?_
  refine g_lmul 134 X41 hx (hb hby at_133) rfl (z := (10000000000000 : Int64)) (by decide) ?_
  refine g_lastore 135 X41 hx hZ e41 A41' 13 (by decide) rfl (Nat.le_of_ble_eq_true rfl) (hb hby at_134) rfl ?_
  intro T44 h44 X44 e44 W44 A44
  have Zs45 : n0 ≤ h44.size := (Nat.le_trans Zs42 (Keep.of_wr W44).1)
  have A44' : AJ Z h44 b3 [(0 : Int64), (10 : Int64), (100 : Int64), (1000 : Int64), (10000 : Int64), (100000 : Int64), (1000000 : Int64), (10000000 : Int64), (100000000 : Int64), (1000000000 : Int64), (10000000000 : Int64), (100000000000 : Int64), (1000000000000 : Int64), (10000000000000 : Int64), (0 : Int64), (0 : Int64), (0 : Int64), (0 : Int64), (0 : Int64)] := A44
  have N46 := Fr.snoc X44 N43 g_b3
  refine g_dup 136 X44 hx (hb hby at_135) rfl rfl ?_
  refine g_bipush 138 X44 hx (hb hby at_136) rfl (z := (14 : Int32)) rfl ?_
  refine g_ldc2 141 X44 hx hZ hown (hw _ (List.mem_of_getElem? (i := 4) rfl)) (hb hby at_138) rfl ?_
  refine g_lload 143 X44 hx (hb hby at_141) rfl (v := (1000000000 : Int64)) rfl ?_
  refine g_lmul 144 X44 hx (hb hby at_143) rfl (z := (100000000000 : Int64)) (by decide) ?_
  refine g_lloadN 145 X44 hx (hb hby at_144) rfl (v := (1000 : Int64)) rfl ?_
  refine g_lmul 146 X44 hx (hb hby at_145) rfl (z := (100000000000000 : Int64)) (by decide) ?_
  refine g_lastore 147 X44 hx hZ e44 A44' 14 (by decide) rfl (Nat.le_of_ble_eq_true rfl) (hb hby at_146) rfl ?_
  intro T47 h47 X47 e47 W47 A47
  have Zs48 : n0 ≤ h47.size := (Nat.le_trans Zs45 (Keep.of_wr W47).1)
  have A47' : AJ Z h47 b3 [(0 : Int64), (10 : Int64), (100 : Int64), (1000 : Int64), (10000 : Int64), (100000 : Int64), (1000000 : Int64), (10000000 : Int64), (100000000 : Int64), (1000000000 : Int64), (10000000000 : Int64), (100000000000 : Int64), (1000000000000 : Int64), (10000000000000 : Int64), (100000000000000 : Int64), (0 : Int64), (0 : Int64), (0 : Int64), (0 : Int64)] := A47
  have N49 := Fr.snoc X47 N46 g_b3
  refine g_dup 148 X47 hx (hb hby at_147) rfl rfl ?_
  refine g_bipush 150 X47 hx (hb hby at_148) rfl (z := (15 : Int32)) rfl ?_
  refine g_lload 152 X47 hx (hb hby at_150) rfl (v := (1000000000 : Int64)) rfl ?_
  refine g_lload 154 X47 hx (hb hby at_152) rfl (v := (1000000 : Int64)) rfl ?_
  refine g_lmul 155 X47 hx (hb hby at_154) rfl (z := (1000000000000000 : Int64)) (by decide) ?_
  refine g_lastore 156 X47 hx hZ e47 A47' 15 (by decide) rfl (Nat.le_of_ble_eq_true rfl) (hb hby at_155) rfl ?_
  intro T50 h50 X50 e50 W50 A50
  have Zs51 : n0 ≤ h50.size := (Nat.le_trans Zs48 (Keep.of_wr W50).1)
  have A50' : AJ Z h50 b3 [(0 : Int64), (10 : Int64), (100 : Int64), (1000 : Int64), (10000 : Int64), (100000 : Int64), (1000000 : Int64), (10000000 : Int64), (100000000 : Int64), (1000000000 : Int64), (10000000000 : Int64), (100000000000 : Int64), (1000000000000 : Int64), (10000000000000 : Int64), (100000000000000 : Int64), (1000000000000000 : Int64), (0 : Int64), (0 : Int64), (0 : Int64)] := A50
  have N52 := Fr.snoc X50 N49 g_b3
  refine g_dup 157 X50 hx (hb hby at_156) rfl rfl ?_
  refine g_bipush 159 X50 hx (hb hby at_157) rfl (z := (16 : Int32)) rfl ?_
  refine g_ldc2 162 X50 hx hZ hown (hw _ (List.mem_of_getElem? (i := 3) rfl)) (hb hby at_159) rfl ?_
  refine g_lload 164 X50 hx (hb hby at_162) rfl (v := (1000000000 : Int64)) rfl ?_
  refine g_lmul 165 X50 hx (hb hby at_164) rfl (z := (10000000000 : Int64)) (by decide) ?_
  refine g_lload 167 X50 hx (hb hby at_165) rfl (v := (1000000 : Int64)) rfl ?_
  refine g_lmul 168 X50 hx (hb hby at_167) rfl (z := (10000000000000000 : Int64)) (by decide) ?_
  refine g_lastore 169 X50 hx hZ e50 A50' 16 (by decide) rfl (Nat.le_of_ble_eq_true rfl) (hb hby at_168) rfl ?_
  intro T53 h53 X53 e53 W53 A53
  have Zs54 : n0 ≤ h53.size := (Nat.le_trans Zs51 (Keep.of_wr W53).1)
  have A53' : AJ Z h53 b3 [(0 : Int64), (10 : Int64), (100 : Int64), (1000 : Int64), (10000 : Int64), (100000 : Int64), (1000000 : Int64), (10000000 : Int64), (100000000 : Int64), (1000000000 : Int64), (10000000000 : Int64), (100000000000 : Int64), (1000000000000 : Int64), (10000000000000 : Int64), (100000000000000 : Int64), (1000000000000000 : Int64), (10000000000000000 : Int64), (0 : Int64), (0 : Int64)] := A53
  have N55 := Fr.snoc X53 N52 g_b3
  refine g_dup 170 X53 hx (hb hby at_169) rfl rfl ?_
  refine g_bipush 172 X53 hx (hb hby at_170) rfl (z := (17 : Int32)) rfl ?_
  refine g_ldc2 175 X53 hx hZ hown (hw _ (List.mem_of_getElem? (i := 4) rfl)) (hb hby at_172) rfl ?_
  refine g_lload 177 X53 hx (hb hby at_175) rfl (v := (1000000000 : Int64)) rfl ?_
  refine g_lmul 178 X53 hx (hb hby at_177) rfl (z := (100000000000 : Int64)) (by decide) ?_
  refine g_lload 180 X53 hx (hb hby at_178) rfl (v := (1000000 : Int64)) rfl ?_
  refine g_lmul 181 X53 hx (hb hby at_180) rfl (z := (100000000000000000 : Int64)) (by decide) ?_
  refine g_lastore 182 X53 hx hZ e53 A53' 17 (by decide) rfl (Nat.le_of_ble_eq_true rfl) (hb hby at_181) rfl ?_
  intro T56 h56 X56 e56 W56 A56
  have Zs57 : n0 ≤ h56.size := (Nat.le_trans Zs54 (Keep.of_wr W56).1)
  have A56' : AJ Z h56 b3 [(0 : Int64), (10 : Int64), (100 : Int64), (1000 : Int64), (10000 : Int64), (100000 : Int64), (1000000 : Int64), (10000000 : Int64), (100000000 : Int64), (1000000000 : Int64), (10000000000 : Int64), (100000000000 : Int64), (1000000000000 : Int64), (10000000000000 : Int64), (100000000000000 : Int64), (1000000000000000 : Int64), (10000000000000000 : Int64), (100000000000000000 : Int64), (0 : Int64)] := A56
  have N58 := Fr.snoc X56 N55 g_b3
  refine g_dup 183 X56 hx (hb hby at_182) rfl rfl ?_
  refine g_bipush 185 X56 hx (hb hby at_183) rfl (z := (18 : Int32)) rfl ?_
  refine g_lload 187 X56 hx (hb hby at_185) rfl (v := (1000000000 : Int64)) rfl ?_
  refine g_lload 189 X56 hx (hb hby at_187) rfl (v := (1000000000 : Int64)) rfl ?_
  refine g_lmul 190 X56 hx (hb hby at_189) rfl (z := (1000000000000000000 : Int64)) (by decide) ?_
  refine g_lastore 191 X56 hx hZ e56 A56' 18 (by decide) rfl (Nat.le_of_ble_eq_true rfl) (hb hby at_190) rfl ?_
  intro T59 h59 X59 e59 W59 A59
  have Zs60 : n0 ≤ h59.size := (Nat.le_trans Zs57 (Keep.of_wr W59).1)
  have A59' : AJ Z h59 b3 [(0 : Int64), (10 : Int64), (100 : Int64), (1000 : Int64), (10000 : Int64), (100000 : Int64), (1000000 : Int64), (10000000 : Int64), (100000000 : Int64), (1000000000 : Int64), (10000000000 : Int64), (100000000000 : Int64), (1000000000000 : Int64), (10000000000000 : Int64), (100000000000000 : Int64), (1000000000000000 : Int64), (10000000000000000 : Int64), (100000000000000000 : Int64), (1000000000000000000 : Int64)] := A59
  have N61 := Fr.snoc X59 N58 g_b3
  refine g_astore 193 X59 hx (hb hby at_191) rfl (Ls' := #[.val (.int p1), .val (.int z2), .val (.long (1000 : Int64)), .second, .val (.long (1000000 : Int64)), .second, .val (.long (1000000000 : Int64)), .second, .val (.ref b3)]) rfl rfl ?_
  refine g_iloadN 194 X59 hx (hb hby at_193) rfl (v := z2) rfl ?_
  have hv61 : z2 = (0 : Int32) ∨ z2 = (1 : Int32) ∨ z2 = (2 : Int32) ∨ z2 = (3 : Int32) ∨ z2 = (4 : Int32) ∨ z2 = (5 : Int32) ∨ z2 = (6 : Int32) ∨ z2 = (7 : Int32) ∨ z2 = (8 : Int32) ∨ z2 = (9 : Int32) ∨ z2 = (10 : Int32) ∨ z2 = (11 : Int32) ∨ z2 = (12 : Int32) ∨ z2 = (13 : Int32) ∨ z2 = (14 : Int32) ∨ z2 = (15 : Int32) ∨ z2 = (16 : Int32) ∨ z2 = (17 : Int32) ∨ z2 = (18 : Int32) := (ask0_0 p1 z1 z2 hz1 hz2)
  rcases hv61 with hv61 | hv61 | hv61 | hv61 | hv61 | hv61 | hv61 | hv61 | hv61 | hv61 | hv61 | hv61 | hv61 | hv61 | hv61 | hv61 | hv61 | hv61 | hv61
  ·
    subst hv61
    show Go p e below s 16 128 (Q0 Z p1 h0 n0) T59 (mkF m 194 #[.val (.int p1), .val (.int (0 : Int32)), .val (.long (1000 : Int64)), .second, .val (.long (1000000 : Int64)), .second, .val (.long (1000000000 : Int64)), .second, .val (.ref b3)] [(.int (0 : Int32))])
    have hq194_hp_63 : 0 ≤ (0 : Int32).toInt ∧ (0 : Int32).toInt ≤ 18 := (ask0_1 p1 z1 hz1 hz2)
    refine g_callS 197 X59 hx hZ (y := (⟨"com/example/utility_meter_billing/utilitymeterbilling/model/Premise", "capacityOf", "(I)J"⟩ : MethodName)) hown (hw _ (List.mem_of_getElem? (i := 5) rfl)) (hw _ (List.mem_of_getElem? (i := 6) rfl)) (hw _ (List.mem_of_getElem? (i := 7) rfl)) (hw _ (List.mem_of_getElem? (i := 8) rfl)) (by decide) e59 (rm1 l Z a0 hw [] (0 : Int32)  h59 n0 Zs60 hq194_hp_63) (by rw [hml]; rfl) [(.int (0 : Int32))] [] rfl rfl (lenOf pd_0 rfl) 0 (Nat.le_of_eq rfl) (hb hby at_194) (by decide) (by decide) (by decide) (by decide) rfl ?_
    intro v63 T63 L63 X63 hQ63
    obtain ⟨r63, rfl, hr63, N63q, e63⟩ := hQ63
    have N63 := Fr.app N61 N63q
    show Go p e below s 16 128 (Q0 Z p1 h0 n0) T63 (mkF m 197 #[.val (.int p1), .val (.int (0 : Int32)), .val (.long (1000 : Int64)), .second, .val (.long (1000000 : Int64)), .second, .val (.long (1000000000 : Int64)), .second, .val (.ref b3)] [(.long r63)])
    refine g_aload 199 X63 hx (hb hby at_197) rfl (v := (.ref b3)) rfl rfl ?_
    refine g_iloadN 200 X63 hx (hb hby at_199) rfl (v := (0 : Int32)) rfl ?_
    refine g_laload 201 X63 hx hZ e63 A59' 0 (by decide) rfl (z := (0 : Int64)) rfl (hb hby at_200) rfl ?_
    suffices Jhj67 : ∀ (z66 : Int32), ((r63 = (0 : Int64) ∧ z66 = (1 : Int32)) ∨ (¬ (r63 = (0 : Int64)) ∧ z66 = (0 : Int32))) → Go p e below s 16 128 (Q0 Z p1 h0 n0) T63 (mkF m 210 #[.val (.int p1), .val (.int (0 : Int32)), .val (.long (1000 : Int64)), .second, .val (.long (1000000 : Int64)), .second, .val (.long (1000000000 : Int64)), .second, .val (.ref b3)] [(.int z66)]) by
      by_cases hc201_64 : r63 = (0 : Int64)
      ·
        refine g_lcmpNo 205 X63 hx (hb hby at_201) rfl (hb hby at_202) (teqL hc201_64).2 rfl ?_
        refine g_iconst 206 X63 hx (hb hby at_205) rfl (z := (1 : Int32)) rfl ?_
        refine g_goto 210 X63 hx (hb hby at_206) (by decide) (by decide) ?_
        exact Jhj67 (1 : Int32) (Or.inl ⟨hc201_64, rfl⟩)
      ·
        refine g_lcmpYes 209 X63 hx (hb hby at_201) rfl (hb hby at_202) (feqL hc201_64).2 (by decide) (by decide) ?_
        refine g_iconst 210 X63 hx (hb hby at_209) rfl (z := (0 : Int32)) rfl ?_
        exact Jhj67 (0 : Int32) (Or.inr (⟨hc201_64, rfl⟩))
    intro z66 hj67
    have hl0 : z66 = 1 := leaf_0 p1 z1 r63 z66 hz1 hz2 hr63 hj67
    subst hl0
    exact g_retN X63 hx (t := .boolean) Bd.returns hlk (by simp) rfl (hb hby at_210) (by decide) (by decide) ⟨rfl, N63⟩
  ·
    subst hv61
    show Go p e below s 16 128 (Q0 Z p1 h0 n0) T59 (mkF m 194 #[.val (.int p1), .val (.int (1 : Int32)), .val (.long (1000 : Int64)), .second, .val (.long (1000000 : Int64)), .second, .val (.long (1000000000 : Int64)), .second, .val (.ref b3)] [(.int (1 : Int32))])
    have hq194_hp_68 : 0 ≤ (1 : Int32).toInt ∧ (1 : Int32).toInt ≤ 18 := (ask0_2 p1 z1 hz1 hz2)
    refine g_callS 197 X59 hx hZ (y := (⟨"com/example/utility_meter_billing/utilitymeterbilling/model/Premise", "capacityOf", "(I)J"⟩ : MethodName)) hown (hw _ (List.mem_of_getElem? (i := 5) rfl)) (hw _ (List.mem_of_getElem? (i := 6) rfl)) (hw _ (List.mem_of_getElem? (i := 7) rfl)) (hw _ (List.mem_of_getElem? (i := 8) rfl)) (by decide) e59 (rm1 l Z a0 hw [] (1 : Int32)  h59 n0 Zs60 hq194_hp_68) (by rw [hml]; rfl) [(.int (1 : Int32))] [] rfl rfl (lenOf pd_0 rfl) 0 (Nat.le_of_eq rfl) (hb hby at_194) (by decide) (by decide) (by decide) (by decide) rfl ?_
    intro v68 T68 L68 X68 hQ68
    obtain ⟨r68, rfl, hr68, N68q, e68⟩ := hQ68
    have N68 := Fr.app N61 N68q
    show Go p e below s 16 128 (Q0 Z p1 h0 n0) T68 (mkF m 197 #[.val (.int p1), .val (.int (1 : Int32)), .val (.long (1000 : Int64)), .second, .val (.long (1000000 : Int64)), .second, .val (.long (1000000000 : Int64)), .second, .val (.ref b3)] [(.long r68)])
    refine g_aload 199 X68 hx (hb hby at_197) rfl (v := (.ref b3)) rfl rfl ?_
    refine g_iloadN 200 X68 hx (hb hby at_199) rfl (v := (1 : Int32)) rfl ?_
    refine g_laload 201 X68 hx hZ e68 A59' 1 (by decide) rfl (z := (10 : Int64)) rfl (hb hby at_200) rfl ?_
    suffices Jhj72 : ∀ (z71 : Int32), ((r68 = (10 : Int64) ∧ z71 = (1 : Int32)) ∨ (¬ (r68 = (10 : Int64)) ∧ z71 = (0 : Int32))) → Go p e below s 16 128 (Q0 Z p1 h0 n0) T68 (mkF m 210 #[.val (.int p1), .val (.int (1 : Int32)), .val (.long (1000 : Int64)), .second, .val (.long (1000000 : Int64)), .second, .val (.long (1000000000 : Int64)), .second, .val (.ref b3)] [(.int z71)]) by
      by_cases hc201_69 : r68 = (10 : Int64)
      ·
        refine g_lcmpNo 205 X68 hx (hb hby at_201) rfl (hb hby at_202) (teqL hc201_69).2 rfl ?_
        refine g_iconst 206 X68 hx (hb hby at_205) rfl (z := (1 : Int32)) rfl ?_
        refine g_goto 210 X68 hx (hb hby at_206) (by decide) (by decide) ?_
        exact Jhj72 (1 : Int32) (Or.inl ⟨hc201_69, rfl⟩)
      ·
        refine g_lcmpYes 209 X68 hx (hb hby at_201) rfl (hb hby at_202) (feqL hc201_69).2 (by decide) (by decide) ?_
        refine g_iconst 210 X68 hx (hb hby at_209) rfl (z := (0 : Int32)) rfl ?_
        exact Jhj72 (0 : Int32) (Or.inr (⟨hc201_69, rfl⟩))
    intro z71 hj72
    have hl1 : z71 = 1 := leaf_1 p1 z1 r68 z71 hz1 hz2 hr68 hj72
    subst hl1
    exact g_retN X68 hx (t := .boolean) Bd.returns hlk (by simp) rfl (hb hby at_210) (by decide) (by decide) ⟨rfl, N68⟩
  ·
    subst hv61
    show Go p e below s 16 128 (Q0 Z p1 h0 n0) T59 (mkF m 194 #[.val (.int p1), .val (.int (2 : Int32)), .val (.long (1000 : Int64)), .second, .val (.long (1000000 : Int64)), .second, .val (.long (1000000000 : Int64)), .second, .val (.ref b3)] [(.int (2 : Int32))])
    have hq194_hp_73 : 0 ≤ (2 : Int32).toInt ∧ (2 : Int32).toInt ≤ 18 := (ask0_3 p1 z1 hz1 hz2)
    refine g_callS 197 X59 hx hZ (y := (⟨"com/example/utility_meter_billing/utilitymeterbilling/model/Premise", "capacityOf", "(I)J"⟩ : MethodName)) hown (hw _ (List.mem_of_getElem? (i := 5) rfl)) (hw _ (List.mem_of_getElem? (i := 6) rfl)) (hw _ (List.mem_of_getElem? (i := 7) rfl)) (hw _ (List.mem_of_getElem? (i := 8) rfl)) (by decide) e59 (rm1 l Z a0 hw [] (2 : Int32)  h59 n0 Zs60 hq194_hp_73) (by rw [hml]; rfl) [(.int (2 : Int32))] [] rfl rfl (lenOf pd_0 rfl) 0 (Nat.le_of_eq rfl) (hb hby at_194) (by decide) (by decide) (by decide) (by decide) rfl ?_
    intro v73 T73 L73 X73 hQ73
    obtain ⟨r73, rfl, hr73, N73q, e73⟩ := hQ73
    have N73 := Fr.app N61 N73q
    show Go p e below s 16 128 (Q0 Z p1 h0 n0) T73 (mkF m 197 #[.val (.int p1), .val (.int (2 : Int32)), .val (.long (1000 : Int64)), .second, .val (.long (1000000 : Int64)), .second, .val (.long (1000000000 : Int64)), .second, .val (.ref b3)] [(.long r73)])
    refine g_aload 199 X73 hx (hb hby at_197) rfl (v := (.ref b3)) rfl rfl ?_
    refine g_iloadN 200 X73 hx (hb hby at_199) rfl (v := (2 : Int32)) rfl ?_
    refine g_laload 201 X73 hx hZ e73 A59' 2 (by decide) rfl (z := (100 : Int64)) rfl (hb hby at_200) rfl ?_
    suffices Jhj77 : ∀ (z76 : Int32), ((r73 = (100 : Int64) ∧ z76 = (1 : Int32)) ∨ (¬ (r73 = (100 : Int64)) ∧ z76 = (0 : Int32))) → Go p e below s 16 128 (Q0 Z p1 h0 n0) T73 (mkF m 210 #[.val (.int p1), .val (.int (2 : Int32)), .val (.long (1000 : Int64)), .second, .val (.long (1000000 : Int64)), .second, .val (.long (1000000000 : Int64)), .second, .val (.ref b3)] [(.int z76)]) by
      by_cases hc201_74 : r73 = (100 : Int64)
      ·
        refine g_lcmpNo 205 X73 hx (hb hby at_201) rfl (hb hby at_202) (teqL hc201_74).2 rfl ?_
        refine g_iconst 206 X73 hx (hb hby at_205) rfl (z := (1 : Int32)) rfl ?_
        refine g_goto 210 X73 hx (hb hby at_206) (by decide) (by decide) ?_
        exact Jhj77 (1 : Int32) (Or.inl ⟨hc201_74, rfl⟩)
      ·
        refine g_lcmpYes 209 X73 hx (hb hby at_201) rfl (hb hby at_202) (feqL hc201_74).2 (by decide) (by decide) ?_
        refine g_iconst 210 X73 hx (hb hby at_209) rfl (z := (0 : Int32)) rfl ?_
        exact Jhj77 (0 : Int32) (Or.inr (⟨hc201_74, rfl⟩))
    intro z76 hj77
    have hl2 : z76 = 1 := leaf_2 p1 z1 r73 z76 hz1 hz2 hr73 hj77
    subst hl2
    exact g_retN X73 hx (t := .boolean) Bd.returns hlk (by simp) rfl (hb hby at_210) (by decide) (by decide) ⟨rfl, N73⟩
  ·
    subst hv61
    show Go p e below s 16 128 (Q0 Z p1 h0 n0) T59 (mkF m 194 #[.val (.int p1), .val (.int (3 : Int32)), .val (.long (1000 : Int64)), .second, .val (.long (1000000 : Int64)), .second, .val (.long (1000000000 : Int64)), .second, .val (.ref b3)] [(.int (3 : Int32))])
    have hq194_hp_78 : 0 ≤ (3 : Int32).toInt ∧ (3 : Int32).toInt ≤ 18 := (ask0_4 p1 z1 hz1 hz2)
    refine g_callS 197 X59 hx hZ (y := (⟨"com/example/utility_meter_billing/utilitymeterbilling/model/Premise", "capacityOf", "(I)J"⟩ : MethodName)) hown (hw _ (List.mem_of_getElem? (i := 5) rfl)) (hw _ (List.mem_of_getElem? (i := 6) rfl)) (hw _ (List.mem_of_getElem? (i := 7) rfl)) (hw _ (List.mem_of_getElem? (i := 8) rfl)) (by decide) e59 (rm1 l Z a0 hw [] (3 : Int32)  h59 n0 Zs60 hq194_hp_78) (by rw [hml]; rfl) [(.int (3 : Int32))] [] rfl rfl (lenOf pd_0 rfl) 0 (Nat.le_of_eq rfl) (hb hby at_194) (by decide) (by decide) (by decide) (by decide) rfl ?_
    intro v78 T78 L78 X78 hQ78
    obtain ⟨r78, rfl, hr78, N78q, e78⟩ := hQ78
    have N78 := Fr.app N61 N78q
    show Go p e below s 16 128 (Q0 Z p1 h0 n0) T78 (mkF m 197 #[.val (.int p1), .val (.int (3 : Int32)), .val (.long (1000 : Int64)), .second, .val (.long (1000000 : Int64)), .second, .val (.long (1000000000 : Int64)), .second, .val (.ref b3)] [(.long r78)])
    refine g_aload 199 X78 hx (hb hby at_197) rfl (v := (.ref b3)) rfl rfl ?_
    refine g_iloadN 200 X78 hx (hb hby at_199) rfl (v := (3 : Int32)) rfl ?_
    refine g_laload 201 X78 hx hZ e78 A59' 3 (by decide) rfl (z := (1000 : Int64)) rfl (hb hby at_200) rfl ?_
    suffices Jhj82 : ∀ (z81 : Int32), ((r78 = (1000 : Int64) ∧ z81 = (1 : Int32)) ∨ (¬ (r78 = (1000 : Int64)) ∧ z81 = (0 : Int32))) → Go p e below s 16 128 (Q0 Z p1 h0 n0) T78 (mkF m 210 #[.val (.int p1), .val (.int (3 : Int32)), .val (.long (1000 : Int64)), .second, .val (.long (1000000 : Int64)), .second, .val (.long (1000000000 : Int64)), .second, .val (.ref b3)] [(.int z81)]) by
      by_cases hc201_79 : r78 = (1000 : Int64)
      ·
        refine g_lcmpNo 205 X78 hx (hb hby at_201) rfl (hb hby at_202) (teqL hc201_79).2 rfl ?_
        refine g_iconst 206 X78 hx (hb hby at_205) rfl (z := (1 : Int32)) rfl ?_
        refine g_goto 210 X78 hx (hb hby at_206) (by decide) (by decide) ?_
        exact Jhj82 (1 : Int32) (Or.inl ⟨hc201_79, rfl⟩)
      ·
        refine g_lcmpYes 209 X78 hx (hb hby at_201) rfl (hb hby at_202) (feqL hc201_79).2 (by decide) (by decide) ?_
        refine g_iconst 210 X78 hx (hb hby at_209) rfl (z := (0 : Int32)) rfl ?_
        exact Jhj82 (0 : Int32) (Or.inr (⟨hc201_79, rfl⟩))
    intro z81 hj82
    have hl3 : z81 = 1 := leaf_3 p1 z1 r78 z81 hz1 hz2 hr78 hj82
    subst hl3
    exact g_retN X78 hx (t := .boolean) Bd.returns hlk (by simp) rfl (hb hby at_210) (by decide) (by decide) ⟨rfl, N78⟩
  ·
    subst hv61
    show Go p e below s 16 128 (Q0 Z p1 h0 n0) T59 (mkF m 194 #[.val (.int p1), .val (.int (4 : Int32)), .val (.long (1000 : Int64)), .second, .val (.long (1000000 : Int64)), .second, .val (.long (1000000000 : Int64)), .second, .val (.ref b3)] [(.int (4 : Int32))])
    have hq194_hp_83 : 0 ≤ (4 : Int32).toInt ∧ (4 : Int32).toInt ≤ 18 := (ask0_5 p1 z1 hz1 hz2)
    refine g_callS 197 X59 hx hZ (y := (⟨"com/example/utility_meter_billing/utilitymeterbilling/model/Premise", "capacityOf", "(I)J"⟩ : MethodName)) hown (hw _ (List.mem_of_getElem? (i := 5) rfl)) (hw _ (List.mem_of_getElem? (i := 6) rfl)) (hw _ (List.mem_of_getElem? (i := 7) rfl)) (hw _ (List.mem_of_getElem? (i := 8) rfl)) (by decide) e59 (rm1 l Z a0 hw [] (4 : Int32)  h59 n0 Zs60 hq194_hp_83) (by rw [hml]; rfl) [(.int (4 : Int32))] [] rfl rfl (lenOf pd_0 rfl) 0 (Nat.le_of_eq rfl) (hb hby at_194) (by decide) (by decide) (by decide) (by decide) rfl ?_
    intro v83 T83 L83 X83 hQ83
    obtain ⟨r83, rfl, hr83, N83q, e83⟩ := hQ83
    have N83 := Fr.app N61 N83q
    show Go p e below s 16 128 (Q0 Z p1 h0 n0) T83 (mkF m 197 #[.val (.int p1), .val (.int (4 : Int32)), .val (.long (1000 : Int64)), .second, .val (.long (1000000 : Int64)), .second, .val (.long (1000000000 : Int64)), .second, .val (.ref b3)] [(.long r83)])
    refine g_aload 199 X83 hx (hb hby at_197) rfl (v := (.ref b3)) rfl rfl ?_
    refine g_iloadN 200 X83 hx (hb hby at_199) rfl (v := (4 : Int32)) rfl ?_
    refine g_laload 201 X83 hx hZ e83 A59' 4 (by decide) rfl (z := (10000 : Int64)) rfl (hb hby at_200) rfl ?_
    suffices Jhj87 : ∀ (z86 : Int32), ((r83 = (10000 : Int64) ∧ z86 = (1 : Int32)) ∨ (¬ (r83 = (10000 : Int64)) ∧ z86 = (0 : Int32))) → Go p e below s 16 128 (Q0 Z p1 h0 n0) T83 (mkF m 210 #[.val (.int p1), .val (.int (4 : Int32)), .val (.long (1000 : Int64)), .second, .val (.long (1000000 : Int64)), .second, .val (.long (1000000000 : Int64)), .second, .val (.ref b3)] [(.int z86)]) by
      by_cases hc201_84 : r83 = (10000 : Int64)
      ·
        refine g_lcmpNo 205 X83 hx (hb hby at_201) rfl (hb hby at_202) (teqL hc201_84).2 rfl ?_
        refine g_iconst 206 X83 hx (hb hby at_205) rfl (z := (1 : Int32)) rfl ?_
        refine g_goto 210 X83 hx (hb hby at_206) (by decide) (by decide) ?_
        exact Jhj87 (1 : Int32) (Or.inl ⟨hc201_84, rfl⟩)
      ·
        refine g_lcmpYes 209 X83 hx (hb hby at_201) rfl (hb hby at_202) (feqL hc201_84).2 (by decide) (by decide) ?_
        refine g_iconst 210 X83 hx (hb hby at_209) rfl (z := (0 : Int32)) rfl ?_
        exact Jhj87 (0 : Int32) (Or.inr (⟨hc201_84, rfl⟩))
    intro z86 hj87
    have hl4 : z86 = 1 := leaf_4 p1 z1 r83 z86 hz1 hz2 hr83 hj87
    subst hl4
    exact g_retN X83 hx (t := .boolean) Bd.returns hlk (by simp) rfl (hb hby at_210) (by decide) (by decide) ⟨rfl, N83⟩
  ·
    subst hv61
    show Go p e below s 16 128 (Q0 Z p1 h0 n0) T59 (mkF m 194 #[.val (.int p1), .val (.int (5 : Int32)), .val (.long (1000 : Int64)), .second, .val (.long (1000000 : Int64)), .second, .val (.long (1000000000 : Int64)), .second, .val (.ref b3)] [(.int (5 : Int32))])
    have hq194_hp_88 : 0 ≤ (5 : Int32).toInt ∧ (5 : Int32).toInt ≤ 18 := (ask0_6 p1 z1 hz1 hz2)
    refine g_callS 197 X59 hx hZ (y := (⟨"com/example/utility_meter_billing/utilitymeterbilling/model/Premise", "capacityOf", "(I)J"⟩ : MethodName)) hown (hw _ (List.mem_of_getElem? (i := 5) rfl)) (hw _ (List.mem_of_getElem? (i := 6) rfl)) (hw _ (List.mem_of_getElem? (i := 7) rfl)) (hw _ (List.mem_of_getElem? (i := 8) rfl)) (by decide) e59 (rm1 l Z a0 hw [] (5 : Int32)  h59 n0 Zs60 hq194_hp_88) (by rw [hml]; rfl) [(.int (5 : Int32))] [] rfl rfl (lenOf pd_0 rfl) 0 (Nat.le_of_eq rfl) (hb hby at_194) (by decide) (by decide) (by decide) (by decide) rfl ?_
    intro v88 T88 L88 X88 hQ88
    obtain ⟨r88, rfl, hr88, N88q, e88⟩ := hQ88
    have N88 := Fr.app N61 N88q
    show Go p e below s 16 128 (Q0 Z p1 h0 n0) T88 (mkF m 197 #[.val (.int p1), .val (.int (5 : Int32)), .val (.long (1000 : Int64)), .second, .val (.long (1000000 : Int64)), .second, .val (.long (1000000000 : Int64)), .second, .val (.ref b3)] [(.long r88)])
    refine g_aload 199 X88 hx (hb hby at_197) rfl (v := (.ref b3)) rfl rfl ?_
    refine g_iloadN 200 X88 hx (hb hby at_199) rfl (v := (5 : Int32)) rfl ?_
    refine g_laload 201 X88 hx hZ e88 A59' 5 (by decide) rfl (z := (100000 : Int64)) rfl (hb hby at_200) rfl ?_
    suffices Jhj92 : ∀ (z91 : Int32), ((r88 = (100000 : Int64) ∧ z91 = (1 : Int32)) ∨ (¬ (r88 = (100000 : Int64)) ∧ z91 = (0 : Int32))) → Go p e below s 16 128 (Q0 Z p1 h0 n0) T88 (mkF m 210 #[.val (.int p1), .val (.int (5 : Int32)), .val (.long (1000 : Int64)), .second, .val (.long (1000000 : Int64)), .second, .val (.long (1000000000 : Int64)), .second, .val (.ref b3)] [(.int z91)]) by
      by_cases hc201_89 : r88 = (100000 : Int64)
      ·
        refine g_lcmpNo 205 X88 hx (hb hby at_201) rfl (hb hby at_202) (teqL hc201_89).2 rfl ?_
        refine g_iconst 206 X88 hx (hb hby at_205) rfl (z := (1 : Int32)) rfl ?_
        refine g_goto 210 X88 hx (hb hby at_206) (by decide) (by decide) ?_
        exact Jhj92 (1 : Int32) (Or.inl ⟨hc201_89, rfl⟩)
      ·
        refine g_lcmpYes 209 X88 hx (hb hby at_201) rfl (hb hby at_202) (feqL hc201_89).2 (by decide) (by decide) ?_
        refine g_iconst 210 X88 hx (hb hby at_209) rfl (z := (0 : Int32)) rfl ?_
        exact Jhj92 (0 : Int32) (Or.inr (⟨hc201_89, rfl⟩))
    intro z91 hj92
    have hl5 : z91 = 1 := leaf_5 p1 z1 r88 z91 hz1 hz2 hr88 hj92
    subst hl5
    exact g_retN X88 hx (t := .boolean) Bd.returns hlk (by simp) rfl (hb hby at_210) (by decide) (by decide) ⟨rfl, N88⟩
  ·
    subst hv61
    show Go p e below s 16 128 (Q0 Z p1 h0 n0) T59 (mkF m 194 #[.val (.int p1), .val (.int (6 : Int32)), .val (.long (1000 : Int64)), .second, .val (.long (1000000 : Int64)), .second, .val (.long (1000000000 : Int64)), .second, .val (.ref b3)] [(.int (6 : Int32))])
    have hq194_hp_93 : 0 ≤ (6 : Int32).toInt ∧ (6 : Int32).toInt ≤ 18 := (ask0_7 p1 z1 hz1 hz2)
    refine g_callS 197 X59 hx hZ (y := (⟨"com/example/utility_meter_billing/utilitymeterbilling/model/Premise", "capacityOf", "(I)J"⟩ : MethodName)) hown (hw _ (List.mem_of_getElem? (i := 5) rfl)) (hw _ (List.mem_of_getElem? (i := 6) rfl)) (hw _ (List.mem_of_getElem? (i := 7) rfl)) (hw _ (List.mem_of_getElem? (i := 8) rfl)) (by decide) e59 (rm1 l Z a0 hw [] (6 : Int32)  h59 n0 Zs60 hq194_hp_93) (by rw [hml]; rfl) [(.int (6 : Int32))] [] rfl rfl (lenOf pd_0 rfl) 0 (Nat.le_of_eq rfl) (hb hby at_194) (by decide) (by decide) (by decide) (by decide) rfl ?_
    intro v93 T93 L93 X93 hQ93
    obtain ⟨r93, rfl, hr93, N93q, e93⟩ := hQ93
    have N93 := Fr.app N61 N93q
    show Go p e below s 16 128 (Q0 Z p1 h0 n0) T93 (mkF m 197 #[.val (.int p1), .val (.int (6 : Int32)), .val (.long (1000 : Int64)), .second, .val (.long (1000000 : Int64)), .second, .val (.long (1000000000 : Int64)), .second, .val (.ref b3)] [(.long r93)])
    refine g_aload 199 X93 hx (hb hby at_197) rfl (v := (.ref b3)) rfl rfl ?_
    refine g_iloadN 200 X93 hx (hb hby at_199) rfl (v := (6 : Int32)) rfl ?_
    refine g_laload 201 X93 hx hZ e93 A59' 6 (by decide) rfl (z := (1000000 : Int64)) rfl (hb hby at_200) rfl ?_
    suffices Jhj97 : ∀ (z96 : Int32), ((r93 = (1000000 : Int64) ∧ z96 = (1 : Int32)) ∨ (¬ (r93 = (1000000 : Int64)) ∧ z96 = (0 : Int32))) → Go p e below s 16 128 (Q0 Z p1 h0 n0) T93 (mkF m 210 #[.val (.int p1), .val (.int (6 : Int32)), .val (.long (1000 : Int64)), .second, .val (.long (1000000 : Int64)), .second, .val (.long (1000000000 : Int64)), .second, .val (.ref b3)] [(.int z96)]) by
      by_cases hc201_94 : r93 = (1000000 : Int64)
      ·
        refine g_lcmpNo 205 X93 hx (hb hby at_201) rfl (hb hby at_202) (teqL hc201_94).2 rfl ?_
        refine g_iconst 206 X93 hx (hb hby at_205) rfl (z := (1 : Int32)) rfl ?_
        refine g_goto 210 X93 hx (hb hby at_206) (by decide) (by decide) ?_
        exact Jhj97 (1 : Int32) (Or.inl ⟨hc201_94, rfl⟩)
      ·
        refine g_lcmpYes 209 X93 hx (hb hby at_201) rfl (hb hby at_202) (feqL hc201_94).2 (by decide) (by decide) ?_
        refine g_iconst 210 X93 hx (hb hby at_209) rfl (z := (0 : Int32)) rfl ?_
        exact Jhj97 (0 : Int32) (Or.inr (⟨hc201_94, rfl⟩))
    intro z96 hj97
    have hl6 : z96 = 1 := leaf_6 p1 z1 r93 z96 hz1 hz2 hr93 hj97
    subst hl6
    exact g_retN X93 hx (t := .boolean) Bd.returns hlk (by simp) rfl (hb hby at_210) (by decide) (by decide) ⟨rfl, N93⟩
  ·
    subst hv61
    show Go p e below s 16 128 (Q0 Z p1 h0 n0) T59 (mkF m 194 #[.val (.int p1), .val (.int (7 : Int32)), .val (.long (1000 : Int64)), .second, .val (.long (1000000 : Int64)), .second, .val (.long (1000000000 : Int64)), .second, .val (.ref b3)] [(.int (7 : Int32))])
    have hq194_hp_98 : 0 ≤ (7 : Int32).toInt ∧ (7 : Int32).toInt ≤ 18 := (ask0_8 p1 z1 hz1 hz2)
    refine g_callS 197 X59 hx hZ (y := (⟨"com/example/utility_meter_billing/utilitymeterbilling/model/Premise", "capacityOf", "(I)J"⟩ : MethodName)) hown (hw _ (List.mem_of_getElem? (i := 5) rfl)) (hw _ (List.mem_of_getElem? (i := 6) rfl)) (hw _ (List.mem_of_getElem? (i := 7) rfl)) (hw _ (List.mem_of_getElem? (i := 8) rfl)) (by decide) e59 (rm1 l Z a0 hw [] (7 : Int32)  h59 n0 Zs60 hq194_hp_98) (by rw [hml]; rfl) [(.int (7 : Int32))] [] rfl rfl (lenOf pd_0 rfl) 0 (Nat.le_of_eq rfl) (hb hby at_194) (by decide) (by decide) (by decide) (by decide) rfl ?_
    intro v98 T98 L98 X98 hQ98
    obtain ⟨r98, rfl, hr98, N98q, e98⟩ := hQ98
    have N98 := Fr.app N61 N98q
    show Go p e below s 16 128 (Q0 Z p1 h0 n0) T98 (mkF m 197 #[.val (.int p1), .val (.int (7 : Int32)), .val (.long (1000 : Int64)), .second, .val (.long (1000000 : Int64)), .second, .val (.long (1000000000 : Int64)), .second, .val (.ref b3)] [(.long r98)])
    refine g_aload 199 X98 hx (hb hby at_197) rfl (v := (.ref b3)) rfl rfl ?_
    refine g_iloadN 200 X98 hx (hb hby at_199) rfl (v := (7 : Int32)) rfl ?_
    refine g_laload 201 X98 hx hZ e98 A59' 7 (by decide) rfl (z := (10000000 : Int64)) rfl (hb hby at_200) rfl ?_
    suffices Jhj102 : ∀ (z101 : Int32), ((r98 = (10000000 : Int64) ∧ z101 = (1 : Int32)) ∨ (¬ (r98 = (10000000 : Int64)) ∧ z101 = (0 : Int32))) → Go p e below s 16 128 (Q0 Z p1 h0 n0) T98 (mkF m 210 #[.val (.int p1), .val (.int (7 : Int32)), .val (.long (1000 : Int64)), .second, .val (.long (1000000 : Int64)), .second, .val (.long (1000000000 : Int64)), .second, .val (.ref b3)] [(.int z101)]) by
      by_cases hc201_99 : r98 = (10000000 : Int64)
      ·
        refine g_lcmpNo 205 X98 hx (hb hby at_201) rfl (hb hby at_202) (teqL hc201_99).2 rfl ?_
        refine g_iconst 206 X98 hx (hb hby at_205) rfl (z := (1 : Int32)) rfl ?_
        refine g_goto 210 X98 hx (hb hby at_206) (by decide) (by decide) ?_
        exact Jhj102 (1 : Int32) (Or.inl ⟨hc201_99, rfl⟩)
      ·
        refine g_lcmpYes 209 X98 hx (hb hby at_201) rfl (hb hby at_202) (feqL hc201_99).2 (by decide) (by decide) ?_
        refine g_iconst 210 X98 hx (hb hby at_209) rfl (z := (0 : Int32)) rfl ?_
        exact Jhj102 (0 : Int32) (Or.inr (⟨hc201_99, rfl⟩))
    intro z101 hj102
    have hl7 : z101 = 1 := leaf_7 p1 z1 r98 z101 hz1 hz2 hr98 hj102
    subst hl7
    exact g_retN X98 hx (t := .boolean) Bd.returns hlk (by simp) rfl (hb hby at_210) (by decide) (by decide) ⟨rfl, N98⟩
  ·
    subst hv61
    show Go p e below s 16 128 (Q0 Z p1 h0 n0) T59 (mkF m 194 #[.val (.int p1), .val (.int (8 : Int32)), .val (.long (1000 : Int64)), .second, .val (.long (1000000 : Int64)), .second, .val (.long (1000000000 : Int64)), .second, .val (.ref b3)] [(.int (8 : Int32))])
    have hq194_hp_103 : 0 ≤ (8 : Int32).toInt ∧ (8 : Int32).toInt ≤ 18 := (ask0_9 p1 z1 hz1 hz2)
    refine g_callS 197 X59 hx hZ (y := (⟨"com/example/utility_meter_billing/utilitymeterbilling/model/Premise", "capacityOf", "(I)J"⟩ : MethodName)) hown (hw _ (List.mem_of_getElem? (i := 5) rfl)) (hw _ (List.mem_of_getElem? (i := 6) rfl)) (hw _ (List.mem_of_getElem? (i := 7) rfl)) (hw _ (List.mem_of_getElem? (i := 8) rfl)) (by decide) e59 (rm1 l Z a0 hw [] (8 : Int32)  h59 n0 Zs60 hq194_hp_103) (by rw [hml]; rfl) [(.int (8 : Int32))] [] rfl rfl (lenOf pd_0 rfl) 0 (Nat.le_of_eq rfl) (hb hby at_194) (by decide) (by decide) (by decide) (by decide) rfl ?_
    intro v103 T103 L103 X103 hQ103
    obtain ⟨r103, rfl, hr103, N103q, e103⟩ := hQ103
    have N103 := Fr.app N61 N103q
    show Go p e below s 16 128 (Q0 Z p1 h0 n0) T103 (mkF m 197 #[.val (.int p1), .val (.int (8 : Int32)), .val (.long (1000 : Int64)), .second, .val (.long (1000000 : Int64)), .second, .val (.long (1000000000 : Int64)), .second, .val (.ref b3)] [(.long r103)])
    refine g_aload 199 X103 hx (hb hby at_197) rfl (v := (.ref b3)) rfl rfl ?_
    refine g_iloadN 200 X103 hx (hb hby at_199) rfl (v := (8 : Int32)) rfl ?_
    refine g_laload 201 X103 hx hZ e103 A59' 8 (by decide) rfl (z := (100000000 : Int64)) rfl (hb hby at_200) rfl ?_
    suffices Jhj107 : ∀ (z106 : Int32), ((r103 = (100000000 : Int64) ∧ z106 = (1 : Int32)) ∨ (¬ (r103 = (100000000 : Int64)) ∧ z106 = (0 : Int32))) → Go p e below s 16 128 (Q0 Z p1 h0 n0) T103 (mkF m 210 #[.val (.int p1), .val (.int (8 : Int32)), .val (.long (1000 : Int64)), .second, .val (.long (1000000 : Int64)), .second, .val (.long (1000000000 : Int64)), .second, .val (.ref b3)] [(.int z106)]) by
      by_cases hc201_104 : r103 = (100000000 : Int64)
      ·
        refine g_lcmpNo 205 X103 hx (hb hby at_201) rfl (hb hby at_202) (teqL hc201_104).2 rfl ?_
        refine g_iconst 206 X103 hx (hb hby at_205) rfl (z := (1 : Int32)) rfl ?_
        refine g_goto 210 X103 hx (hb hby at_206) (by decide) (by decide) ?_
        exact Jhj107 (1 : Int32) (Or.inl ⟨hc201_104, rfl⟩)
      ·
        refine g_lcmpYes 209 X103 hx (hb hby at_201) rfl (hb hby at_202) (feqL hc201_104).2 (by decide) (by decide) ?_
        refine g_iconst 210 X103 hx (hb hby at_209) rfl (z := (0 : Int32)) rfl ?_
        exact Jhj107 (0 : Int32) (Or.inr (⟨hc201_104, rfl⟩))
    intro z106 hj107
    have hl8 : z106 = 1 := leaf_8 p1 z1 r103 z106 hz1 hz2 hr103 hj107
    subst hl8
    exact g_retN X103 hx (t := .boolean) Bd.returns hlk (by simp) rfl (hb hby at_210) (by decide) (by decide) ⟨rfl, N103⟩
  ·
    subst hv61
    show Go p e below s 16 128 (Q0 Z p1 h0 n0) T59 (mkF m 194 #[.val (.int p1), .val (.int (9 : Int32)), .val (.long (1000 : Int64)), .second, .val (.long (1000000 : Int64)), .second, .val (.long (1000000000 : Int64)), .second, .val (.ref b3)] [(.int (9 : Int32))])
    have hq194_hp_108 : 0 ≤ (9 : Int32).toInt ∧ (9 : Int32).toInt ≤ 18 := (ask0_10 p1 z1 hz1 hz2)
    refine g_callS 197 X59 hx hZ (y := (⟨"com/example/utility_meter_billing/utilitymeterbilling/model/Premise", "capacityOf", "(I)J"⟩ : MethodName)) hown (hw _ (List.mem_of_getElem? (i := 5) rfl)) (hw _ (List.mem_of_getElem? (i := 6) rfl)) (hw _ (List.mem_of_getElem? (i := 7) rfl)) (hw _ (List.mem_of_getElem? (i := 8) rfl)) (by decide) e59 (rm1 l Z a0 hw [] (9 : Int32)  h59 n0 Zs60 hq194_hp_108) (by rw [hml]; rfl) [(.int (9 : Int32))] [] rfl rfl (lenOf pd_0 rfl) 0 (Nat.le_of_eq rfl) (hb hby at_194) (by decide) (by decide) (by decide) (by decide) rfl ?_
    intro v108 T108 L108 X108 hQ108
    obtain ⟨r108, rfl, hr108, N108q, e108⟩ := hQ108
    have N108 := Fr.app N61 N108q
    show Go p e below s 16 128 (Q0 Z p1 h0 n0) T108 (mkF m 197 #[.val (.int p1), .val (.int (9 : Int32)), .val (.long (1000 : Int64)), .second, .val (.long (1000000 : Int64)), .second, .val (.long (1000000000 : Int64)), .second, .val (.ref b3)] [(.long r108)])
    refine g_aload 199 X108 hx (hb hby at_197) rfl (v := (.ref b3)) rfl rfl ?_
    refine g_iloadN 200 X108 hx (hb hby at_199) rfl (v := (9 : Int32)) rfl ?_
    refine g_laload 201 X108 hx hZ e108 A59' 9 (by decide) rfl (z := (1000000000 : Int64)) rfl (hb hby at_200) rfl ?_
    suffices Jhj112 : ∀ (z111 : Int32), ((r108 = (1000000000 : Int64) ∧ z111 = (1 : Int32)) ∨ (¬ (r108 = (1000000000 : Int64)) ∧ z111 = (0 : Int32))) → Go p e below s 16 128 (Q0 Z p1 h0 n0) T108 (mkF m 210 #[.val (.int p1), .val (.int (9 : Int32)), .val (.long (1000 : Int64)), .second, .val (.long (1000000 : Int64)), .second, .val (.long (1000000000 : Int64)), .second, .val (.ref b3)] [(.int z111)]) by
      by_cases hc201_109 : r108 = (1000000000 : Int64)
      ·
        refine g_lcmpNo 205 X108 hx (hb hby at_201) rfl (hb hby at_202) (teqL hc201_109).2 rfl ?_
        refine g_iconst 206 X108 hx (hb hby at_205) rfl (z := (1 : Int32)) rfl ?_
        refine g_goto 210 X108 hx (hb hby at_206) (by decide) (by decide) ?_
        exact Jhj112 (1 : Int32) (Or.inl ⟨hc201_109, rfl⟩)
      ·
        refine g_lcmpYes 209 X108 hx (hb hby at_201) rfl (hb hby at_202) (feqL hc201_109).2 (by decide) (by decide) ?_
        refine g_iconst 210 X108 hx (hb hby at_209) rfl (z := (0 : Int32)) rfl ?_
        exact Jhj112 (0 : Int32) (Or.inr (⟨hc201_109, rfl⟩))
    intro z111 hj112
    have hl9 : z111 = 1 := leaf_9 p1 z1 r108 z111 hz1 hz2 hr108 hj112
    subst hl9
    exact g_retN X108 hx (t := .boolean) Bd.returns hlk (by simp) rfl (hb hby at_210) (by decide) (by decide) ⟨rfl, N108⟩
  ·
    subst hv61
    show Go p e below s 16 128 (Q0 Z p1 h0 n0) T59 (mkF m 194 #[.val (.int p1), .val (.int (10 : Int32)), .val (.long (1000 : Int64)), .second, .val (.long (1000000 : Int64)), .second, .val (.long (1000000000 : Int64)), .second, .val (.ref b3)] [(.int (10 : Int32))])
    have hq194_hp_113 : 0 ≤ (10 : Int32).toInt ∧ (10 : Int32).toInt ≤ 18 := (ask0_11 p1 z1 hz1 hz2)
    refine g_callS 197 X59 hx hZ (y := (⟨"com/example/utility_meter_billing/utilitymeterbilling/model/Premise", "capacityOf", "(I)J"⟩ : MethodName)) hown (hw _ (List.mem_of_getElem? (i := 5) rfl)) (hw _ (List.mem_of_getElem? (i := 6) rfl)) (hw _ (List.mem_of_getElem? (i := 7) rfl)) (hw _ (List.mem_of_getElem? (i := 8) rfl)) (by decide) e59 (rm1 l Z a0 hw [] (10 : Int32)  h59 n0 Zs60 hq194_hp_113) (by rw [hml]; rfl) [(.int (10 : Int32))] [] rfl rfl (lenOf pd_0 rfl) 0 (Nat.le_of_eq rfl) (hb hby at_194) (by decide) (by decide) (by decide) (by decide) rfl ?_
    intro v113 T113 L113 X113 hQ113
    obtain ⟨r113, rfl, hr113, N113q, e113⟩ := hQ113
    have N113 := Fr.app N61 N113q
    show Go p e below s 16 128 (Q0 Z p1 h0 n0) T113 (mkF m 197 #[.val (.int p1), .val (.int (10 : Int32)), .val (.long (1000 : Int64)), .second, .val (.long (1000000 : Int64)), .second, .val (.long (1000000000 : Int64)), .second, .val (.ref b3)] [(.long r113)])
    refine g_aload 199 X113 hx (hb hby at_197) rfl (v := (.ref b3)) rfl rfl ?_
    refine g_iloadN 200 X113 hx (hb hby at_199) rfl (v := (10 : Int32)) rfl ?_
    refine g_laload 201 X113 hx hZ e113 A59' 10 (by decide) rfl (z := (10000000000 : Int64)) rfl (hb hby at_200) rfl ?_
    suffices Jhj117 : ∀ (z116 : Int32), ((r113 = (10000000000 : Int64) ∧ z116 = (1 : Int32)) ∨ (¬ (r113 = (10000000000 : Int64)) ∧ z116 = (0 : Int32))) → Go p e below s 16 128 (Q0 Z p1 h0 n0) T113 (mkF m 210 #[.val (.int p1), .val (.int (10 : Int32)), .val (.long (1000 : Int64)), .second, .val (.long (1000000 : Int64)), .second, .val (.long (1000000000 : Int64)), .second, .val (.ref b3)] [(.int z116)]) by
      by_cases hc201_114 : r113 = (10000000000 : Int64)
      ·
        refine g_lcmpNo 205 X113 hx (hb hby at_201) rfl (hb hby at_202) (teqL hc201_114).2 rfl ?_
        refine g_iconst 206 X113 hx (hb hby at_205) rfl (z := (1 : Int32)) rfl ?_
        refine g_goto 210 X113 hx (hb hby at_206) (by decide) (by decide) ?_
        exact Jhj117 (1 : Int32) (Or.inl ⟨hc201_114, rfl⟩)
      ·
        refine g_lcmpYes 209 X113 hx (hb hby at_201) rfl (hb hby at_202) (feqL hc201_114).2 (by decide) (by decide) ?_
        refine g_iconst 210 X113 hx (hb hby at_209) rfl (z := (0 : Int32)) rfl ?_
        exact Jhj117 (0 : Int32) (Or.inr (⟨hc201_114, rfl⟩))
    intro z116 hj117
    have hl10 : z116 = 1 := leaf_10 p1 z1 r113 z116 hz1 hz2 hr113 hj117
    subst hl10
    exact g_retN X113 hx (t := .boolean) Bd.returns hlk (by simp) rfl (hb hby at_210) (by decide) (by decide) ⟨rfl, N113⟩
  ·
    subst hv61
    show Go p e below s 16 128 (Q0 Z p1 h0 n0) T59 (mkF m 194 #[.val (.int p1), .val (.int (11 : Int32)), .val (.long (1000 : Int64)), .second, .val (.long (1000000 : Int64)), .second, .val (.long (1000000000 : Int64)), .second, .val (.ref b3)] [(.int (11 : Int32))])
    have hq194_hp_118 : 0 ≤ (11 : Int32).toInt ∧ (11 : Int32).toInt ≤ 18 := (ask0_12 p1 z1 hz1 hz2)
    refine g_callS 197 X59 hx hZ (y := (⟨"com/example/utility_meter_billing/utilitymeterbilling/model/Premise", "capacityOf", "(I)J"⟩ : MethodName)) hown (hw _ (List.mem_of_getElem? (i := 5) rfl)) (hw _ (List.mem_of_getElem? (i := 6) rfl)) (hw _ (List.mem_of_getElem? (i := 7) rfl)) (hw _ (List.mem_of_getElem? (i := 8) rfl)) (by decide) e59 (rm1 l Z a0 hw [] (11 : Int32)  h59 n0 Zs60 hq194_hp_118) (by rw [hml]; rfl) [(.int (11 : Int32))] [] rfl rfl (lenOf pd_0 rfl) 0 (Nat.le_of_eq rfl) (hb hby at_194) (by decide) (by decide) (by decide) (by decide) rfl ?_
    intro v118 T118 L118 X118 hQ118
    obtain ⟨r118, rfl, hr118, N118q, e118⟩ := hQ118
    have N118 := Fr.app N61 N118q
    show Go p e below s 16 128 (Q0 Z p1 h0 n0) T118 (mkF m 197 #[.val (.int p1), .val (.int (11 : Int32)), .val (.long (1000 : Int64)), .second, .val (.long (1000000 : Int64)), .second, .val (.long (1000000000 : Int64)), .second, .val (.ref b3)] [(.long r118)])
    refine g_aload 199 X118 hx (hb hby at_197) rfl (v := (.ref b3)) rfl rfl ?_
    refine g_iloadN 200 X118 hx (hb hby at_199) rfl (v := (11 : Int32)) rfl ?_
    refine g_laload 201 X118 hx hZ e118 A59' 11 (by decide) rfl (z := (100000000000 : Int64)) rfl (hb hby at_200) rfl ?_
    suffices Jhj122 : ∀ (z121 : Int32), ((r118 = (100000000000 : Int64) ∧ z121 = (1 : Int32)) ∨ (¬ (r118 = (100000000000 : Int64)) ∧ z121 = (0 : Int32))) → Go p e below s 16 128 (Q0 Z p1 h0 n0) T118 (mkF m 210 #[.val (.int p1), .val (.int (11 : Int32)), .val (.long (1000 : Int64)), .second, .val (.long (1000000 : Int64)), .second, .val (.long (1000000000 : Int64)), .second, .val (.ref b3)] [(.int z121)]) by
      by_cases hc201_119 : r118 = (100000000000 : Int64)
      ·
        refine g_lcmpNo 205 X118 hx (hb hby at_201) rfl (hb hby at_202) (teqL hc201_119).2 rfl ?_
        refine g_iconst 206 X118 hx (hb hby at_205) rfl (z := (1 : Int32)) rfl ?_
        refine g_goto 210 X118 hx (hb hby at_206) (by decide) (by decide) ?_
        exact Jhj122 (1 : Int32) (Or.inl ⟨hc201_119, rfl⟩)
      ·
        refine g_lcmpYes 209 X118 hx (hb hby at_201) rfl (hb hby at_202) (feqL hc201_119).2 (by decide) (by decide) ?_
        refine g_iconst 210 X118 hx (hb hby at_209) rfl (z := (0 : Int32)) rfl ?_
        exact Jhj122 (0 : Int32) (Or.inr (⟨hc201_119, rfl⟩))
    intro z121 hj122
    have hl11 : z121 = 1 := leaf_11 p1 z1 r118 z121 hz1 hz2 hr118 hj122
    subst hl11
    exact g_retN X118 hx (t := .boolean) Bd.returns hlk (by simp) rfl (hb hby at_210) (by decide) (by decide) ⟨rfl, N118⟩
  ·
    subst hv61
    show Go p e below s 16 128 (Q0 Z p1 h0 n0) T59 (mkF m 194 #[.val (.int p1), .val (.int (12 : Int32)), .val (.long (1000 : Int64)), .second, .val (.long (1000000 : Int64)), .second, .val (.long (1000000000 : Int64)), .second, .val (.ref b3)] [(.int (12 : Int32))])
    have hq194_hp_123 : 0 ≤ (12 : Int32).toInt ∧ (12 : Int32).toInt ≤ 18 := (ask0_13 p1 z1 hz1 hz2)
    refine g_callS 197 X59 hx hZ (y := (⟨"com/example/utility_meter_billing/utilitymeterbilling/model/Premise", "capacityOf", "(I)J"⟩ : MethodName)) hown (hw _ (List.mem_of_getElem? (i := 5) rfl)) (hw _ (List.mem_of_getElem? (i := 6) rfl)) (hw _ (List.mem_of_getElem? (i := 7) rfl)) (hw _ (List.mem_of_getElem? (i := 8) rfl)) (by decide) e59 (rm1 l Z a0 hw [] (12 : Int32)  h59 n0 Zs60 hq194_hp_123) (by rw [hml]; rfl) [(.int (12 : Int32))] [] rfl rfl (lenOf pd_0 rfl) 0 (Nat.le_of_eq rfl) (hb hby at_194) (by decide) (by decide) (by decide) (by decide) rfl ?_
    intro v123 T123 L123 X123 hQ123
    obtain ⟨r123, rfl, hr123, N123q, e123⟩ := hQ123
    have N123 := Fr.app N61 N123q
    show Go p e below s 16 128 (Q0 Z p1 h0 n0) T123 (mkF m 197 #[.val (.int p1), .val (.int (12 : Int32)), .val (.long (1000 : Int64)), .second, .val (.long (1000000 : Int64)), .second, .val (.long (1000000000 : Int64)), .second, .val (.ref b3)] [(.long r123)])
    refine g_aload 199 X123 hx (hb hby at_197) rfl (v := (.ref b3)) rfl rfl ?_
    refine g_iloadN 200 X123 hx (hb hby at_199) rfl (v := (12 : Int32)) rfl ?_
    refine g_laload 201 X123 hx hZ e123 A59' 12 (by decide) rfl (z := (1000000000000 : Int64)) rfl (hb hby at_200) rfl ?_
    suffices Jhj127 : ∀ (z126 : Int32), ((r123 = (1000000000000 : Int64) ∧ z126 = (1 : Int32)) ∨ (¬ (r123 = (1000000000000 : Int64)) ∧ z126 = (0 : Int32))) → Go p e below s 16 128 (Q0 Z p1 h0 n0) T123 (mkF m 210 #[.val (.int p1), .val (.int (12 : Int32)), .val (.long (1000 : Int64)), .second, .val (.long (1000000 : Int64)), .second, .val (.long (1000000000 : Int64)), .second, .val (.ref b3)] [(.int z126)]) by
      by_cases hc201_124 : r123 = (1000000000000 : Int64)
      ·
        refine g_lcmpNo 205 X123 hx (hb hby at_201) rfl (hb hby at_202) (teqL hc201_124).2 rfl ?_
        refine g_iconst 206 X123 hx (hb hby at_205) rfl (z := (1 : Int32)) rfl ?_
        refine g_goto 210 X123 hx (hb hby at_206) (by decide) (by decide) ?_
        exact Jhj127 (1 : Int32) (Or.inl ⟨hc201_124, rfl⟩)
      ·
        refine g_lcmpYes 209 X123 hx (hb hby at_201) rfl (hb hby at_202) (feqL hc201_124).2 (by decide) (by decide) ?_
        refine g_iconst 210 X123 hx (hb hby at_209) rfl (z := (0 : Int32)) rfl ?_
        exact Jhj127 (0 : Int32) (Or.inr (⟨hc201_124, rfl⟩))
    intro z126 hj127
    have hl12 : z126 = 1 := leaf_12 p1 z1 r123 z126 hz1 hz2 hr123 hj127
    subst hl12
    exact g_retN X123 hx (t := .boolean) Bd.returns hlk (by simp) rfl (hb hby at_210) (by decide) (by decide) ⟨rfl, N123⟩
  ·
    subst hv61
    show Go p e below s 16 128 (Q0 Z p1 h0 n0) T59 (mkF m 194 #[.val (.int p1), .val (.int (13 : Int32)), .val (.long (1000 : Int64)), .second, .val (.long (1000000 : Int64)), .second, .val (.long (1000000000 : Int64)), .second, .val (.ref b3)] [(.int (13 : Int32))])
    have hq194_hp_128 : 0 ≤ (13 : Int32).toInt ∧ (13 : Int32).toInt ≤ 18 := (ask0_14 p1 z1 hz1 hz2)
    refine g_callS 197 X59 hx hZ (y := (⟨"com/example/utility_meter_billing/utilitymeterbilling/model/Premise", "capacityOf", "(I)J"⟩ : MethodName)) hown (hw _ (List.mem_of_getElem? (i := 5) rfl)) (hw _ (List.mem_of_getElem? (i := 6) rfl)) (hw _ (List.mem_of_getElem? (i := 7) rfl)) (hw _ (List.mem_of_getElem? (i := 8) rfl)) (by decide) e59 (rm1 l Z a0 hw [] (13 : Int32)  h59 n0 Zs60 hq194_hp_128) (by rw [hml]; rfl) [(.int (13 : Int32))] [] rfl rfl (lenOf pd_0 rfl) 0 (Nat.le_of_eq rfl) (hb hby at_194) (by decide) (by decide) (by decide) (by decide) rfl ?_
    intro v128 T128 L128 X128 hQ128
    obtain ⟨r128, rfl, hr128, N128q, e128⟩ := hQ128
    have N128 := Fr.app N61 N128q
    show Go p e below s 16 128 (Q0 Z p1 h0 n0) T128 (mkF m 197 #[.val (.int p1), .val (.int (13 : Int32)), .val (.long (1000 : Int64)), .second, .val (.long (1000000 : Int64)), .second, .val (.long (1000000000 : Int64)), .second, .val (.ref b3)] [(.long r128)])
    refine g_aload 199 X128 hx (hb hby at_197) rfl (v := (.ref b3)) rfl rfl ?_
    refine g_iloadN 200 X128 hx (hb hby at_199) rfl (v := (13 : Int32)) rfl ?_
    refine g_laload 201 X128 hx hZ e128 A59' 13 (by decide) rfl (z := (10000000000000 : Int64)) rfl (hb hby at_200) rfl ?_
    suffices Jhj132 : ∀ (z131 : Int32), ((r128 = (10000000000000 : Int64) ∧ z131 = (1 : Int32)) ∨ (¬ (r128 = (10000000000000 : Int64)) ∧ z131 = (0 : Int32))) → Go p e below s 16 128 (Q0 Z p1 h0 n0) T128 (mkF m 210 #[.val (.int p1), .val (.int (13 : Int32)), .val (.long (1000 : Int64)), .second, .val (.long (1000000 : Int64)), .second, .val (.long (1000000000 : Int64)), .second, .val (.ref b3)] [(.int z131)]) by
      by_cases hc201_129 : r128 = (10000000000000 : Int64)
      ·
        refine g_lcmpNo 205 X128 hx (hb hby at_201) rfl (hb hby at_202) (teqL hc201_129).2 rfl ?_
        refine g_iconst 206 X128 hx (hb hby at_205) rfl (z := (1 : Int32)) rfl ?_
        refine g_goto 210 X128 hx (hb hby at_206) (by decide) (by decide) ?_
        exact Jhj132 (1 : Int32) (Or.inl ⟨hc201_129, rfl⟩)
      ·
        refine g_lcmpYes 209 X128 hx (hb hby at_201) rfl (hb hby at_202) (feqL hc201_129).2 (by decide) (by decide) ?_
        refine g_iconst 210 X128 hx (hb hby at_209) rfl (z := (0 : Int32)) rfl ?_
        exact Jhj132 (0 : Int32) (Or.inr (⟨hc201_129, rfl⟩))
    intro z131 hj132
    have hl13 : z131 = 1 := leaf_13 p1 z1 r128 z131 hz1 hz2 hr128 hj132
    subst hl13
    exact g_retN X128 hx (t := .boolean) Bd.returns hlk (by simp) rfl (hb hby at_210) (by decide) (by decide) ⟨rfl, N128⟩
  ·
    subst hv61
    show Go p e below s 16 128 (Q0 Z p1 h0 n0) T59 (mkF m 194 #[.val (.int p1), .val (.int (14 : Int32)), .val (.long (1000 : Int64)), .second, .val (.long (1000000 : Int64)), .second, .val (.long (1000000000 : Int64)), .second, .val (.ref b3)] [(.int (14 : Int32))])
    have hq194_hp_133 : 0 ≤ (14 : Int32).toInt ∧ (14 : Int32).toInt ≤ 18 := (ask0_15 p1 z1 hz1 hz2)
    refine g_callS 197 X59 hx hZ (y := (⟨"com/example/utility_meter_billing/utilitymeterbilling/model/Premise", "capacityOf", "(I)J"⟩ : MethodName)) hown (hw _ (List.mem_of_getElem? (i := 5) rfl)) (hw _ (List.mem_of_getElem? (i := 6) rfl)) (hw _ (List.mem_of_getElem? (i := 7) rfl)) (hw _ (List.mem_of_getElem? (i := 8) rfl)) (by decide) e59 (rm1 l Z a0 hw [] (14 : Int32)  h59 n0 Zs60 hq194_hp_133) (by rw [hml]; rfl) [(.int (14 : Int32))] [] rfl rfl (lenOf pd_0 rfl) 0 (Nat.le_of_eq rfl) (hb hby at_194) (by decide) (by decide) (by decide) (by decide) rfl ?_
    intro v133 T133 L133 X133 hQ133
    obtain ⟨r133, rfl, hr133, N133q, e133⟩ := hQ133
    have N133 := Fr.app N61 N133q
    show Go p e below s 16 128 (Q0 Z p1 h0 n0) T133 (mkF m 197 #[.val (.int p1), .val (.int (14 : Int32)), .val (.long (1000 : Int64)), .second, .val (.long (1000000 : Int64)), .second, .val (.long (1000000000 : Int64)), .second, .val (.ref b3)] [(.long r133)])
    refine g_aload 199 X133 hx (hb hby at_197) rfl (v := (.ref b3)) rfl rfl ?_
    refine g_iloadN 200 X133 hx (hb hby at_199) rfl (v := (14 : Int32)) rfl ?_
    refine g_laload 201 X133 hx hZ e133 A59' 14 (by decide) rfl (z := (100000000000000 : Int64)) rfl (hb hby at_200) rfl ?_
    suffices Jhj137 : ∀ (z136 : Int32), ((r133 = (100000000000000 : Int64) ∧ z136 = (1 : Int32)) ∨ (¬ (r133 = (100000000000000 : Int64)) ∧ z136 = (0 : Int32))) → Go p e below s 16 128 (Q0 Z p1 h0 n0) T133 (mkF m 210 #[.val (.int p1), .val (.int (14 : Int32)), .val (.long (1000 : Int64)), .second, .val (.long (1000000 : Int64)), .second, .val (.long (1000000000 : Int64)), .second, .val (.ref b3)] [(.int z136)]) by
      by_cases hc201_134 : r133 = (100000000000000 : Int64)
      ·
        refine g_lcmpNo 205 X133 hx (hb hby at_201) rfl (hb hby at_202) (teqL hc201_134).2 rfl ?_
        refine g_iconst 206 X133 hx (hb hby at_205) rfl (z := (1 : Int32)) rfl ?_
        refine g_goto 210 X133 hx (hb hby at_206) (by decide) (by decide) ?_
        exact Jhj137 (1 : Int32) (Or.inl ⟨hc201_134, rfl⟩)
      ·
        refine g_lcmpYes 209 X133 hx (hb hby at_201) rfl (hb hby at_202) (feqL hc201_134).2 (by decide) (by decide) ?_
        refine g_iconst 210 X133 hx (hb hby at_209) rfl (z := (0 : Int32)) rfl ?_
        exact Jhj137 (0 : Int32) (Or.inr (⟨hc201_134, rfl⟩))
    intro z136 hj137
    have hl14 : z136 = 1 := leaf_14 p1 z1 r133 z136 hz1 hz2 hr133 hj137
    subst hl14
    exact g_retN X133 hx (t := .boolean) Bd.returns hlk (by simp) rfl (hb hby at_210) (by decide) (by decide) ⟨rfl, N133⟩
  ·
    subst hv61
    show Go p e below s 16 128 (Q0 Z p1 h0 n0) T59 (mkF m 194 #[.val (.int p1), .val (.int (15 : Int32)), .val (.long (1000 : Int64)), .second, .val (.long (1000000 : Int64)), .second, .val (.long (1000000000 : Int64)), .second, .val (.ref b3)] [(.int (15 : Int32))])
    have hq194_hp_138 : 0 ≤ (15 : Int32).toInt ∧ (15 : Int32).toInt ≤ 18 := (ask0_16 p1 z1 hz1 hz2)
    refine g_callS 197 X59 hx hZ (y := (⟨"com/example/utility_meter_billing/utilitymeterbilling/model/Premise", "capacityOf", "(I)J"⟩ : MethodName)) hown (hw _ (List.mem_of_getElem? (i := 5) rfl)) (hw _ (List.mem_of_getElem? (i := 6) rfl)) (hw _ (List.mem_of_getElem? (i := 7) rfl)) (hw _ (List.mem_of_getElem? (i := 8) rfl)) (by decide) e59 (rm1 l Z a0 hw [] (15 : Int32)  h59 n0 Zs60 hq194_hp_138) (by rw [hml]; rfl) [(.int (15 : Int32))] [] rfl rfl (lenOf pd_0 rfl) 0 (Nat.le_of_eq rfl) (hb hby at_194) (by decide) (by decide) (by decide) (by decide) rfl ?_
    intro v138 T138 L138 X138 hQ138
    obtain ⟨r138, rfl, hr138, N138q, e138⟩ := hQ138
    have N138 := Fr.app N61 N138q
    show Go p e below s 16 128 (Q0 Z p1 h0 n0) T138 (mkF m 197 #[.val (.int p1), .val (.int (15 : Int32)), .val (.long (1000 : Int64)), .second, .val (.long (1000000 : Int64)), .second, .val (.long (1000000000 : Int64)), .second, .val (.ref b3)] [(.long r138)])
    refine g_aload 199 X138 hx (hb hby at_197) rfl (v := (.ref b3)) rfl rfl ?_
    refine g_iloadN 200 X138 hx (hb hby at_199) rfl (v := (15 : Int32)) rfl ?_
    refine g_laload 201 X138 hx hZ e138 A59' 15 (by decide) rfl (z := (1000000000000000 : Int64)) rfl (hb hby at_200) rfl ?_
    suffices Jhj142 : ∀ (z141 : Int32), ((r138 = (1000000000000000 : Int64) ∧ z141 = (1 : Int32)) ∨ (¬ (r138 = (1000000000000000 : Int64)) ∧ z141 = (0 : Int32))) → Go p e below s 16 128 (Q0 Z p1 h0 n0) T138 (mkF m 210 #[.val (.int p1), .val (.int (15 : Int32)), .val (.long (1000 : Int64)), .second, .val (.long (1000000 : Int64)), .second, .val (.long (1000000000 : Int64)), .second, .val (.ref b3)] [(.int z141)]) by
      by_cases hc201_139 : r138 = (1000000000000000 : Int64)
      ·
        refine g_lcmpNo 205 X138 hx (hb hby at_201) rfl (hb hby at_202) (teqL hc201_139).2 rfl ?_
        refine g_iconst 206 X138 hx (hb hby at_205) rfl (z := (1 : Int32)) rfl ?_
        refine g_goto 210 X138 hx (hb hby at_206) (by decide) (by decide) ?_
        exact Jhj142 (1 : Int32) (Or.inl ⟨hc201_139, rfl⟩)
      ·
        refine g_lcmpYes 209 X138 hx (hb hby at_201) rfl (hb hby at_202) (feqL hc201_139).2 (by decide) (by decide) ?_
        refine g_iconst 210 X138 hx (hb hby at_209) rfl (z := (0 : Int32)) rfl ?_
        exact Jhj142 (0 : Int32) (Or.inr (⟨hc201_139, rfl⟩))
    intro z141 hj142
    have hl15 : z141 = 1 := leaf_15 p1 z1 r138 z141 hz1 hz2 hr138 hj142
    subst hl15
    exact g_retN X138 hx (t := .boolean) Bd.returns hlk (by simp) rfl (hb hby at_210) (by decide) (by decide) ⟨rfl, N138⟩
  ·
    subst hv61
    show Go p e below s 16 128 (Q0 Z p1 h0 n0) T59 (mkF m 194 #[.val (.int p1), .val (.int (16 : Int32)), .val (.long (1000 : Int64)), .second, .val (.long (1000000 : Int64)), .second, .val (.long (1000000000 : Int64)), .second, .val (.ref b3)] [(.int (16 : Int32))])
    have hq194_hp_143 : 0 ≤ (16 : Int32).toInt ∧ (16 : Int32).toInt ≤ 18 := (ask0_17 p1 z1 hz1 hz2)
    refine g_callS 197 X59 hx hZ (y := (⟨"com/example/utility_meter_billing/utilitymeterbilling/model/Premise", "capacityOf", "(I)J"⟩ : MethodName)) hown (hw _ (List.mem_of_getElem? (i := 5) rfl)) (hw _ (List.mem_of_getElem? (i := 6) rfl)) (hw _ (List.mem_of_getElem? (i := 7) rfl)) (hw _ (List.mem_of_getElem? (i := 8) rfl)) (by decide) e59 (rm1 l Z a0 hw [] (16 : Int32)  h59 n0 Zs60 hq194_hp_143) (by rw [hml]; rfl) [(.int (16 : Int32))] [] rfl rfl (lenOf pd_0 rfl) 0 (Nat.le_of_eq rfl) (hb hby at_194) (by decide) (by decide) (by decide) (by decide) rfl ?_
    intro v143 T143 L143 X143 hQ143
    obtain ⟨r143, rfl, hr143, N143q, e143⟩ := hQ143
    have N143 := Fr.app N61 N143q
    show Go p e below s 16 128 (Q0 Z p1 h0 n0) T143 (mkF m 197 #[.val (.int p1), .val (.int (16 : Int32)), .val (.long (1000 : Int64)), .second, .val (.long (1000000 : Int64)), .second, .val (.long (1000000000 : Int64)), .second, .val (.ref b3)] [(.long r143)])
    refine g_aload 199 X143 hx (hb hby at_197) rfl (v := (.ref b3)) rfl rfl ?_
    refine g_iloadN 200 X143 hx (hb hby at_199) rfl (v := (16 : Int32)) rfl ?_
    refine g_laload 201 X143 hx hZ e143 A59' 16 (by decide) rfl (z := (10000000000000000 : Int64)) rfl (hb hby at_200) rfl ?_
    suffices Jhj147 : ∀ (z146 : Int32), ((r143 = (10000000000000000 : Int64) ∧ z146 = (1 : Int32)) ∨ (¬ (r143 = (10000000000000000 : Int64)) ∧ z146 = (0 : Int32))) → Go p e below s 16 128 (Q0 Z p1 h0 n0) T143 (mkF m 210 #[.val (.int p1), .val (.int (16 : Int32)), .val (.long (1000 : Int64)), .second, .val (.long (1000000 : Int64)), .second, .val (.long (1000000000 : Int64)), .second, .val (.ref b3)] [(.int z146)]) by
      by_cases hc201_144 : r143 = (10000000000000000 : Int64)
      ·
        refine g_lcmpNo 205 X143 hx (hb hby at_201) rfl (hb hby at_202) (teqL hc201_144).2 rfl ?_
        refine g_iconst 206 X143 hx (hb hby at_205) rfl (z := (1 : Int32)) rfl ?_
        refine g_goto 210 X143 hx (hb hby at_206) (by decide) (by decide) ?_
        exact Jhj147 (1 : Int32) (Or.inl ⟨hc201_144, rfl⟩)
      ·
        refine g_lcmpYes 209 X143 hx (hb hby at_201) rfl (hb hby at_202) (feqL hc201_144).2 (by decide) (by decide) ?_
        refine g_iconst 210 X143 hx (hb hby at_209) rfl (z := (0 : Int32)) rfl ?_
        exact Jhj147 (0 : Int32) (Or.inr (⟨hc201_144, rfl⟩))
    intro z146 hj147
    have hl16 : z146 = 1 := leaf_16 p1 z1 r143 z146 hz1 hz2 hr143 hj147
    subst hl16
    exact g_retN X143 hx (t := .boolean) Bd.returns hlk (by simp) rfl (hb hby at_210) (by decide) (by decide) ⟨rfl, N143⟩
  ·
    subst hv61
    show Go p e below s 16 128 (Q0 Z p1 h0 n0) T59 (mkF m 194 #[.val (.int p1), .val (.int (17 : Int32)), .val (.long (1000 : Int64)), .second, .val (.long (1000000 : Int64)), .second, .val (.long (1000000000 : Int64)), .second, .val (.ref b3)] [(.int (17 : Int32))])
    have hq194_hp_148 : 0 ≤ (17 : Int32).toInt ∧ (17 : Int32).toInt ≤ 18 := (ask0_18 p1 z1 hz1 hz2)
    refine g_callS 197 X59 hx hZ (y := (⟨"com/example/utility_meter_billing/utilitymeterbilling/model/Premise", "capacityOf", "(I)J"⟩ : MethodName)) hown (hw _ (List.mem_of_getElem? (i := 5) rfl)) (hw _ (List.mem_of_getElem? (i := 6) rfl)) (hw _ (List.mem_of_getElem? (i := 7) rfl)) (hw _ (List.mem_of_getElem? (i := 8) rfl)) (by decide) e59 (rm1 l Z a0 hw [] (17 : Int32)  h59 n0 Zs60 hq194_hp_148) (by rw [hml]; rfl) [(.int (17 : Int32))] [] rfl rfl (lenOf pd_0 rfl) 0 (Nat.le_of_eq rfl) (hb hby at_194) (by decide) (by decide) (by decide) (by decide) rfl ?_
    intro v148 T148 L148 X148 hQ148
    obtain ⟨r148, rfl, hr148, N148q, e148⟩ := hQ148
    have N148 := Fr.app N61 N148q
    show Go p e below s 16 128 (Q0 Z p1 h0 n0) T148 (mkF m 197 #[.val (.int p1), .val (.int (17 : Int32)), .val (.long (1000 : Int64)), .second, .val (.long (1000000 : Int64)), .second, .val (.long (1000000000 : Int64)), .second, .val (.ref b3)] [(.long r148)])
    refine g_aload 199 X148 hx (hb hby at_197) rfl (v := (.ref b3)) rfl rfl ?_
    refine g_iloadN 200 X148 hx (hb hby at_199) rfl (v := (17 : Int32)) rfl ?_
    refine g_laload 201 X148 hx hZ e148 A59' 17 (by decide) rfl (z := (100000000000000000 : Int64)) rfl (hb hby at_200) rfl ?_
    suffices Jhj152 : ∀ (z151 : Int32), ((r148 = (100000000000000000 : Int64) ∧ z151 = (1 : Int32)) ∨ (¬ (r148 = (100000000000000000 : Int64)) ∧ z151 = (0 : Int32))) → Go p e below s 16 128 (Q0 Z p1 h0 n0) T148 (mkF m 210 #[.val (.int p1), .val (.int (17 : Int32)), .val (.long (1000 : Int64)), .second, .val (.long (1000000 : Int64)), .second, .val (.long (1000000000 : Int64)), .second, .val (.ref b3)] [(.int z151)]) by
      by_cases hc201_149 : r148 = (100000000000000000 : Int64)
      ·
        refine g_lcmpNo 205 X148 hx (hb hby at_201) rfl (hb hby at_202) (teqL hc201_149).2 rfl ?_
        refine g_iconst 206 X148 hx (hb hby at_205) rfl (z := (1 : Int32)) rfl ?_
        refine g_goto 210 X148 hx (hb hby at_206) (by decide) (by decide) ?_
        exact Jhj152 (1 : Int32) (Or.inl ⟨hc201_149, rfl⟩)
      ·
        refine g_lcmpYes 209 X148 hx (hb hby at_201) rfl (hb hby at_202) (feqL hc201_149).2 (by decide) (by decide) ?_
        refine g_iconst 210 X148 hx (hb hby at_209) rfl (z := (0 : Int32)) rfl ?_
        exact Jhj152 (0 : Int32) (Or.inr (⟨hc201_149, rfl⟩))
    intro z151 hj152
    have hl17 : z151 = 1 := leaf_17 p1 z1 r148 z151 hz1 hz2 hr148 hj152
    subst hl17
    exact g_retN X148 hx (t := .boolean) Bd.returns hlk (by simp) rfl (hb hby at_210) (by decide) (by decide) ⟨rfl, N148⟩
  ·
    subst hv61
    show Go p e below s 16 128 (Q0 Z p1 h0 n0) T59 (mkF m 194 #[.val (.int p1), .val (.int (18 : Int32)), .val (.long (1000 : Int64)), .second, .val (.long (1000000 : Int64)), .second, .val (.long (1000000000 : Int64)), .second, .val (.ref b3)] [(.int (18 : Int32))])
    have hq194_hp_153 : 0 ≤ (18 : Int32).toInt ∧ (18 : Int32).toInt ≤ 18 := (ask0_19 p1 z1 hz1 hz2)
    refine g_callS 197 X59 hx hZ (y := (⟨"com/example/utility_meter_billing/utilitymeterbilling/model/Premise", "capacityOf", "(I)J"⟩ : MethodName)) hown (hw _ (List.mem_of_getElem? (i := 5) rfl)) (hw _ (List.mem_of_getElem? (i := 6) rfl)) (hw _ (List.mem_of_getElem? (i := 7) rfl)) (hw _ (List.mem_of_getElem? (i := 8) rfl)) (by decide) e59 (rm1 l Z a0 hw [] (18 : Int32)  h59 n0 Zs60 hq194_hp_153) (by rw [hml]; rfl) [(.int (18 : Int32))] [] rfl rfl (lenOf pd_0 rfl) 0 (Nat.le_of_eq rfl) (hb hby at_194) (by decide) (by decide) (by decide) (by decide) rfl ?_
    intro v153 T153 L153 X153 hQ153
    obtain ⟨r153, rfl, hr153, N153q, e153⟩ := hQ153
    have N153 := Fr.app N61 N153q
    show Go p e below s 16 128 (Q0 Z p1 h0 n0) T153 (mkF m 197 #[.val (.int p1), .val (.int (18 : Int32)), .val (.long (1000 : Int64)), .second, .val (.long (1000000 : Int64)), .second, .val (.long (1000000000 : Int64)), .second, .val (.ref b3)] [(.long r153)])
    refine g_aload 199 X153 hx (hb hby at_197) rfl (v := (.ref b3)) rfl rfl ?_
    refine g_iloadN 200 X153 hx (hb hby at_199) rfl (v := (18 : Int32)) rfl ?_
    refine g_laload 201 X153 hx hZ e153 A59' 18 (by decide) rfl (z := (1000000000000000000 : Int64)) rfl (hb hby at_200) rfl ?_
    suffices Jhj157 : ∀ (z156 : Int32), ((r153 = (1000000000000000000 : Int64) ∧ z156 = (1 : Int32)) ∨ (¬ (r153 = (1000000000000000000 : Int64)) ∧ z156 = (0 : Int32))) → Go p e below s 16 128 (Q0 Z p1 h0 n0) T153 (mkF m 210 #[.val (.int p1), .val (.int (18 : Int32)), .val (.long (1000 : Int64)), .second, .val (.long (1000000 : Int64)), .second, .val (.long (1000000000 : Int64)), .second, .val (.ref b3)] [(.int z156)]) by
      by_cases hc201_154 : r153 = (1000000000000000000 : Int64)
      ·
        refine g_lcmpNo 205 X153 hx (hb hby at_201) rfl (hb hby at_202) (teqL hc201_154).2 rfl ?_
        refine g_iconst 206 X153 hx (hb hby at_205) rfl (z := (1 : Int32)) rfl ?_
        refine g_goto 210 X153 hx (hb hby at_206) (by decide) (by decide) ?_
        exact Jhj157 (1 : Int32) (Or.inl ⟨hc201_154, rfl⟩)
      ·
        refine g_lcmpYes 209 X153 hx (hb hby at_201) rfl (hb hby at_202) (feqL hc201_154).2 (by decide) (by decide) ?_
        refine g_iconst 210 X153 hx (hb hby at_209) rfl (z := (0 : Int32)) rfl ?_
        exact Jhj157 (0 : Int32) (Or.inr (⟨hc201_154, rfl⟩))
    intro z156 hj157
    have hl18 : z156 = 1 := leaf_18 p1 z1 r153 z156 hz1 hz2 hr153 hj157
    subst hl18
    exact g_retN X153 hx (t := .boolean) Bd.returns hlk (by simp) rfl (hb hby at_210) (by decide) (by decide) ⟨rfl, N153⟩
set_option maxRecDepth 65536 in
set_option maxHeartbeats 40000000 in
theorem comes_1 {Post : Tables → Env → Array Value → State → Outcome → State → Prop} (hpost : ∀ tb e args s v u, (limb_1_1.after args s (.returned v) u = true ∧ limb_1_2.after args s (.returned v) u = true ∧ True) → FrameEnd s (.returned v) u (Jvm.fieldLocs frame_1_writes args s ++ Jvm.arrayLocs frame_1_arrays args s ++ Jvm.staticLocs frame_1_statics s) 16 128 → Post tb e args s (.returned v) u) :
    ArmFor flags0 classFile x code maxLocals ret World_1 tables_1 room_1 Calls_1 rest_1 Pre_1 Post := by
  intro l hfl _ _ p e ha hc hk s m args below hf hA hF happ hP
  obtain ⟨hcalls, hrest, hpre⟩ := hP
  obtain ⟨-, -, -, hnamed, -, -, -, hat⟩ := (Spec.applies_iff hf).mp happ
  obtain ⟨hg, hn⟩ := and_e (Cond.before_iff.mp (show (Jvm.Cond.and given_1 narrow_1).before args s = true from hpre))
  obtain ⟨hcount, r0⟩ := and_e hg
  obtain ⟨w0, rfl⟩ : ∃ w0 : Value, args = #[w0] := by
    have hs : args.size = 1 := by simpa [Cond.value, given_1] using hcount
    obtain ⟨L⟩ := args
    match L, hs with
    | [w0], _ => exact ⟨w0, rfl⟩
  have hw := fun d (hd : d ∈ tables_1) => atoms_spec (ws := Jvm.Cond.code x code maxLocals ret :: tables_1) hat d (List.mem_cons_of_mem _ hd)
  obtain ⟨i0, ei0⟩ := is_v r0
  obtain rfl : w0 = (.int i0) := Option.some.inj ei0
  obtain ⟨n, o, h1, h2, h3, _, L, rfl, ⟨rfl, N⟩, hq⟩ := rm0 l s _ hw tables_1 i0 s.heap s.heap.size (Nat.le_refl _)  p e ha hc hk s m _ below hf ((Spec.applies_iff_loose hf).mp happ).1 ⟨rfl, State.Warmed39.refl s, rfl⟩ trivial
  exact ⟨n, _, h1, h2, h3, hpost _ _ _ _ _ _ ⟨Cond.after_iff.mpr rfl, Cond.after_iff.mpr (eq_i res_at (Term.int_eval (1)) rfl), trivial⟩ ⟨hq.1, hq.2.1, (hq.2.2.sift fun y hy => Or.inr (N y hy)).mono (by decide) (by decide)⟩⟩
theorem main_1_1 : Claimed_1_1 := comes_1 fun _ _ _ _ _ _ h hF => ⟨h.1, hF⟩
theorem main_1_2 : Claimed_1_2 := comes_1 fun _ _ _ _ _ _ h hF => ⟨h.2.1, hF⟩
end Jvm.Pilot.@@N@@
namespace Jvm.Pilot.@@N@@
open Jvm Jvm.ClassFile Sem Op Lib Jvm.Free Jvm.Stand Jvm.Pilot.@@N@@.Jvm.D
/-! MADE BY PROGRAM (witnessworld.py) out of the Statement's table words and the real class files: 11 classes; the members and pool entries that the words name. The judged class is class 1, her method 1. -/
namespace start1
open Jvm.ClassFile
def u (s : String) : CpInfo := .utf8 (stringToUtf16 s)
/-- a pool by its gaps: so many unusable entries, then the entry; so many at the end -/
def gap : Nat → List CpInfo → List CpInfo
  | 0, r => r
  | n + 1, r => .unusable :: gap n r
def poolList (es : List (Nat × CpInfo)) (last : Nat) : List CpInfo := es.foldr (fun e r => gap e.1 (e.2 :: r)) (gap last [])
def pool (es : List (Nat × CpInfo)) (last : Nat) : Array CpInfo := ⟨poolList es last⟩
def fileOf (pool : Array CpInfo) (this : Nat) (attrs : Array Attribute := #[]) (ms : Array MethodInfo := #[]) (fl : Nat := 33) (sup : Nat := 0) (ifs : Array Nat := #[]) (fds : Array FieldInfo := #[]) : ClassFile where
  minorVersion := 0
  majorVersion := 65
  constantPool := pool
  accessFlags := fl
  thisClass := this
  superClass := sup
  interfaces := ifs
  fields := fds
  methods := ms
  attributes := attrs
def plain (name : String) (sup : Option ClassId) : Class where
  name := name
  kind := .ordinary
  loader := none
  accessFlags := 33
  super := sup
  interfaces := #[]
  cf := none
  fields := #[]
  methods := #[]
  instanceTypes := #[]
  staticTypes := #[]
  resolved := #[]
  callSites := []
  init := .initialized
  statics := none
  mirror := none

def pool0 : Array CpInfo := pool [(5, u "<init>"), (0, u "()V"), (1, .class_ 10), (1, u "java/lang/Object")] 113

def k0m0 : Method := { name := "<init>", desc := "()V", sig := { parameters := [], returnType := none }, accessFlags := 1, code := none }
/-- java/lang/Object -/
def k0 : Class := { plain "java/lang/Object" none with
  accessFlags := 33
  interfaces := #[]
  cf := some (fileOf pool0 8 #[] #[{ accessFlags := 1, nameIndex := 5, descriptorIndex := 6, attributes := #[] }] 33 0 #[] #[])
  fields := #[]
  methods := #[k0m0]
  instanceTypes := #[]
  staticTypes := #[]
  resolved := Array.replicate 124 none
  statics := none }

def pool1 : Array CpInfo := pool [(2, .class_ 4), (1, u "java/lang/Object"), (0, u "<init>"), (0, u "()V"), (0, .integer 2147483647), (0, .long 1000), (1, .long 10), (1, .long 100), (1, .methodref 15 16), (0, .class_ 17), (0, .nameAndType 18 19), (0, u "com/example/utility_meter_billing/utilitymeterbilling/model/Premise"), (0, u "capacityOf"), (0, u "(I)J"), (0, .class_ 21), (0, u "com/example/utility_meter_billing/utilitymeterbilling/model/PremiseCapacityOfPinLaw"), (2, u "law"), (0, u "(I)Z")] 5

def k1m0 : Method := { name := "<init>", desc := "()V", sig := { parameters := [], returnType := none }, accessFlags := 2, code := none }
def k1c1 : Code := { maxStack := 7, maxLocals := 9, code := code, exceptionTable := #[], attributes := #[] }
def k1m1 : Method := { name := "law", desc := "(I)Z", sig := { parameters := [.int], returnType := some .boolean }, accessFlags := 9, code := some k1c1 }
/-- com/example/utility_meter_billing/utilitymeterbilling/model/PremiseCapacityOfPinLaw -/
def k1 : Class := { plain "com/example/utility_meter_billing/utilitymeterbilling/model/PremiseCapacityOfPinLaw" (some 0) with
  accessFlags := 49
  interfaces := #[]
  cf := some (fileOf pool1 20 #[] #[{ accessFlags := 2, nameIndex := 5, descriptorIndex := 6, attributes := #[] }, { accessFlags := 9, nameIndex := 24, descriptorIndex := 25, attributes := #[] }] 49 2 #[] #[])
  fields := #[]
  methods := #[k1m0, k1m1]
  instanceTypes := #[]
  staticTypes := #[]
  resolved := Array.replicate 31 none
  statics := none }

def pool2 : Array CpInfo := pool [(2, .class_ 4), (1, u "java/lang/Object"), (3, .class_ 10), (1, u "com/example/utility_meter_billing/utilitymeterbilling/model/Premise"), (35, u "capacityOf"), (0, u "(I)J"), (35, .long 10)] 45

def k2c0 : Code := { maxStack := 4, maxLocals := 4, code := prog_69_method_9_code, exceptionTable := #[], attributes := #[] }
def k2m0 : Method := { name := "capacityOf", desc := "(I)J", sig := { parameters := [.int], returnType := some .long }, accessFlags := 8, code := some k2c0 }
/-- com/example/utility_meter_billing/utilitymeterbilling/model/Premise -/
def k2 : Class := { plain "com/example/utility_meter_billing/utilitymeterbilling/model/Premise" (some 0) with
  accessFlags := 49
  interfaces := #[]
  cf := some (fileOf pool2 8 #[] #[{ accessFlags := 8, nameIndex := 46, descriptorIndex := 47, attributes := #[] }] 49 2 #[] #[])
  fields := #[]
  methods := #[k2m0]
  instanceTypes := #[]
  staticTypes := #[]
  resolved := Array.replicate 129 none
  statics := none }

def pool3 : Array CpInfo := pool [(1, u "java/lang/Cloneable"), (0, .class_ 1), (0, u "java/lang/Object"), (0, .class_ 3)] 3

/-- java/lang/Cloneable -/
def k3 : Class := { plain "java/lang/Cloneable" (some 0) with
  accessFlags := 1537
  interfaces := #[]
  cf := some (fileOf pool3 2 #[] #[] 1537 4 #[] #[])
  fields := #[]
  methods := #[]
  instanceTypes := #[]
  staticTypes := #[]
  resolved := Array.replicate 8 none
  statics := none }

def pool4 : Array CpInfo := pool [(1, u "java/io/Serializable"), (0, .class_ 1), (0, u "java/lang/Object"), (0, .class_ 3)] 3

/-- java/io/Serializable -/
def k4 : Class := { plain "java/io/Serializable" (some 0) with
  accessFlags := 1537
  interfaces := #[]
  cf := some (fileOf pool4 2 #[] #[] 1537 4 #[] #[])
  fields := #[]
  methods := #[]
  instanceTypes := #[]
  staticTypes := #[]
  resolved := Array.replicate 8 none
  statics := none }

/-- the primitive byte -/
def k5 : Class := { plain "byte" none with kind := .primitive 'B', accessFlags := 0x411 }
/-- [B -/
def k6 : Class := { plain "[B" (some 0) with kind := .array 5 .byte, interfaces := #[3, 4], accessFlags := 1041 }

/-- the primitive int -/
def k7 : Class := { plain "int" none with kind := .primitive 'I', accessFlags := 0x411 }
/-- [I -/
def k8 : Class := { plain "[I" (some 0) with kind := .array 7 .int, interfaces := #[3, 4], accessFlags := 1041 }

/-- the primitive long -/
def k9 : Class := { plain "long" none with kind := .primitive 'J', accessFlags := 0x411 }
/-- [J -/
def k10 : Class := { plain "[J" (some 0) with kind := .array 9 .long, interfaces := #[3, 4], accessFlags := 1041 }

def heap : Heap := #[]
def classes : Array Class := #[k0, k1, k2, k3, k4, k5, k6, k7, k8, k9, k10]
def interned : List (Array UInt16 × Addr) := []
def slotsUsed : Nat := 0
def theMethod : MethodId := ⟨1, 1⟩
def args0 : Array Value := #[.int 7]
def aboutOver (below : List Frame) : State where
  vm := { classes := classes, interned := interned.toArray }
  heap := heap
  slotsUsed := slotsUsed
  threads := #[{ frames := .invoking theMethod args0 :: below }]
def below0 : List Frame := [.native { method := ⟨0, 0⟩, args := #[] }]
def about1 : State := aboutOver below0
def p0 : Program := .bare "" "" ""
def e0 : Env := launch0.env 0 0 0
theorem w_frames : about1.frames = Frame.invoking theMethod args0 :: below0 := rfl
set_option maxRecDepth 65536 in
theorem w_args : argsFit about1.vm theMethod args0 = true := by decide +kernel
set_option maxRecDepth 65536 in
theorem w_heap : heapFits about1 = true := by decide +kernel
set_option maxRecDepth 65536 in
theorem w_runnable : about1.curStatus? = some .runnable := by decide +kernel
set_option maxRecDepth 65536 in
theorem w_alone : about1.alone = true := by decide +kernel
set_option maxRecDepth 65536 in
theorem w_named : about1.methodNamed? x = some theMethod := by decide +kernel
set_option maxRecDepth 65536 in
theorem w_hears : about1.hears theMethod below0 = true := by decide +kernel
set_option maxRecDepth 65536 in
theorem w_ripe : about1.ripe theMethod args0 below0 = true := by decide +kernel
theorem w_running : about1.status = .running := rfl
set_option maxRecDepth 65536 in
theorem w_room : about1.hasRoom e0.platform room_1 = true :=
  launch0.hasRoom_least _ room_1 (by decide +kernel) (by decide +kernel) (by decide +kernel) (by decide +kernel) (by decide +kernel) (by decide +kernel)
theorem allAtoms_all (ts : List Jvm.Cond) (a : Array Jvm.Value) (st : Jvm.State) : (allAtoms ts).before a st = ts.all (fun c => c.before a st) := by
  induction ts with
  | nil => rfl
  | cons c t ih =>
    show (Jvm.Cond.and c (allAtoms t)).before a st = _
    rw [Jvm.Cond.before_and, ih, List.all_cons]
def words1 : List Jvm.Cond := Jvm.Cond.code x code maxLocals ret :: tables_1
/-- a 'code' word, met by the world's own term for the bytes: nothing is compared byte by byte -/
theorem code_word {y : MethodName} {bytes : ByteArray} {mx : Nat} {rt : Option FieldType} {a : Array Value} {s : State} {m : MethodId} {meth : Method} {c : Code} (h1 : s.methodNamed? y = some m) (h2 : s.vm.method? m = some meth) (h3 : meth.code = some c) (h4 : c.code = bytes)
    (h5 : (c.maxLocals == mx && c.exceptionTable.isEmpty && decide (c.maxStack ≤ mostOperands) && decide (meth.sig.returnType = rt) && !meth.locks && decide (parseMethodDescriptor y.desc = some meth.sig)) = true) : (Jvm.Cond.code y bytes mx rt).before a s = true := by
  simp only [Bool.and_eq_true, beq_iff_eq, Bool.not_eq_true', decide_eq_true_eq] at h5
  obtain ⟨⟨⟨⟨⟨g1, g2⟩, g3⟩, g4⟩, g5⟩, g6⟩ := h5
  simp [Cond.before, Cond.holds, Cond.value, h1, h2, h3, h4, g1, g2, g3, g4, g5, g6]
def isCode : Jvm.Cond → Bool
  | .code _ _ _ _ => true
  | _ => false
theorem all_split {L : List Jvm.Cond} {P : Jvm.Cond → Bool} (h1 : L.all (fun c => isCode c || P c) = true) (h2 : ∀ c ∈ L.filter isCode, P c = true) : L.all P = true := by
  refine List.all_eq_true.mpr fun c hc => ?_
  have h := List.all_eq_true.mp h1 c hc
  rcases Bool.eq_false_or_eq_true (isCode c) with hi | hi
  · exact h2 c (List.mem_filter.mpr ⟨hc, hi⟩)
  · simpa [hi] using h
set_option maxRecDepth 65536 in
theorem w_c0 : (Jvm.Cond.code x code maxLocals ret).before args0 about1 = true := code_word (m := ⟨1, 1⟩) (meth := k1m1) (c := k1c1) (by decide +kernel) rfl rfl rfl (by decide +kernel)
set_option maxRecDepth 65536 in
theorem w_c1 : (Jvm.Cond.code ({ cls := "com/example/utility_meter_billing/utilitymeterbilling/model/Premise", name := "capacityOf", desc := "(I)J" } : Jvm.MethodName) prog_69_method_9_code (4 : Nat) (Option.some Jvm.ClassFile.FieldType.long)).before args0 about1 = true := code_word (m := ⟨2, 0⟩) (meth := k2m0) (c := k2c0) (by decide +kernel) rfl rfl rfl (by decide +kernel)
def codes1 : List Jvm.Cond := [Jvm.Cond.code x code maxLocals ret, Jvm.Cond.code ({ cls := "com/example/utility_meter_billing/utilitymeterbilling/model/Premise", name := "capacityOf", desc := "(I)J" } : Jvm.MethodName) prog_69_method_9_code (4 : Nat) (Option.some Jvm.ClassFile.FieldType.long)]
set_option maxRecDepth 65536 in
theorem codes_eq : words1.filter isCode = codes1 := rfl
theorem w_codes : ∀ c ∈ words1.filter isCode, c.before args0 about1 = true := by
  rw [codes_eq]
  intro c hc
  simp only [codes1, List.mem_cons, List.not_mem_nil, or_false] at hc
  rcases hc with rfl | rfl
  · exact w_c0
  · exact w_c1
set_option maxRecDepth 65536 in
theorem w_t1 : words1.all (fun c => isCode c || c.before args0 about1) = true := by decide +kernel
theorem w_tables : (allAtoms (Jvm.Cond.code x code maxLocals ret :: tables_1)).before args0 about1 = true := by
  rw [allAtoms_all]
  show words1.all (fun c => c.before args0 about1) = true
  refine all_split ?_ w_codes
  rw [w_t1]
set_option maxRecDepth 65536 in
theorem w_case : (Jvm.Cond.and given_1 narrow_1).before args0 about1 = true := by decide +kernel
theorem w_applies : (headSpec (Jvm.Cond.code x code maxLocals ret :: tables_1) room_1).applies x e0.platform about1 = true :=
  (Spec.applies_iff w_frames).mpr ⟨w_running, w_runnable, w_alone, w_named, w_hears, w_ripe, w_room, w_tables⟩
theorem atStart : AtStart classFile x code maxLocals ret World_1 tables_1 room_1 Calls_1 rest_1 Pre_1 launch0 p0 e0 about1 theMethod args0 below0 :=
  ⟨lists_1, trivial, launch0.admits_env _ _ _, launch0.least_env, fairChoices_fair.cas, fairChoices_fair.clock, w_frames, w_args, w_heap, w_applies, trivial, trivial, w_case⟩
end start1
theorem witness_1 : WitnessClaimed_1 := ⟨start1.p0, start1.e0, start1.about1, start1.theMethod, start1.args0, start1.below0, start1.atStart⟩
end Jvm.Pilot.@@N@@
