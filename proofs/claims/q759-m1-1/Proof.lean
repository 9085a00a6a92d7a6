import JvmDerived
import JvmDerived.Pilot.@@N@@Statement
import JvmDerived.Pilot.@@N@@Code
set_option linter.unusedVariables false
set_option linter.unusedSimpArgs false
namespace Jvm.Pilot.@@N@@
open Jvm Jvm.ClassFile Sem Op Lib Jvm.Free Jvm.Stand Jvm.LawKit Jvm.RoadKit Bundle Jvm.Pilot.@@N@@.Jvm.D
section OwnKit
/-- the run goes on from here to the method's end; what it leaves is Q -/
def Go (p : Program) (e : Env) (below : List Frame) (s : State) (k n : Nat) (Q : Option Value → Heap → List Loc → Prop) (T : State) (g : JFrame) : Prop :=
  ∃ s₂ o, Steps p.tables e below (T.setTop g) s₂ ∧ s₂.status = .running ∧ Ended s₂ below o ∧ ∃ v L, o = .returned v ∧ Q v s₂.heap L ∧ FrameEnd s o s₂ L k n
variable {p : Program} {l : Launch} {e : Env} {R : Room} {s : State} {m : MethodId} {args : Array Value} {below : List Frame} {meth : Method} {c : Code} {T : State} {locs : List Loc} {cells slots : Nat} {k n : Nat} {Q : Option Value → Heap → List Loc → Prop} {pc : Nat} {Ls : Array Slot} {st : List Value} {Z : State} {a0 : Array Value} {h h' : Heap}
theorem Go.via {T' : State} {g g' : JFrame} (q : ∀ t, Steps p.tables e below (T'.setTop g') t → Steps p.tables e below (T.setTop g) t) (H : Go p e below s k n Q T' g') : Go p e below s k n Q T g := by
  obtain ⟨s₂, o, h1, r⟩ := H
  exact ⟨s₂, o, q _ h1, r⟩
theorem tltL {x y : Int64} (q : x < y) : ifCond.holds .lt (lcmpW x y) = true ∧ ifCond.holds .ge (lcmpW x y) = false ∧ ifCond.holds .gt (lcmpW y x) = true ∧ ifCond.holds .le (lcmpW y x) = false := by
  simp only [if0]
  exact ⟨(tlt ((lw_lt x y).mpr q)).1, (tlt ((lw_lt x y).mpr q)).2.1, (tlt ((lw_gt y x).mpr q)).2.2.1, (tlt ((lw_gt y x).mpr q)).2.2.2⟩
theorem fltL {x y : Int64} (q : ¬ x < y) : ifCond.holds .lt (lcmpW x y) = false ∧ ifCond.holds .ge (lcmpW x y) = true ∧ ifCond.holds .gt (lcmpW y x) = false ∧ ifCond.holds .le (lcmpW y x) = true := by
  simp only [if0]
  exact ⟨(flt (mt (lw_lt x y).mp q)).1, (flt (mt (lw_lt x y).mp q)).2.1, (flt (mt (lw_gt y x).mp q)).2.2.1, (flt (mt (lw_gt y x).mp q)).2.2.2⟩
theorem teqL {x y : Int64} (q : x = y) : ifCond.holds .eq (lcmpW x y) = true ∧ ifCond.holds .ne (lcmpW x y) = false := by
  simp only [if0]
  exact ⟨(teq ((lw_eq x y).mpr q)).1, (teq ((lw_eq x y).mpr q)).2⟩
theorem feqL {x y : Int64} (q : ¬ x = y) : ifCond.holds .eq (lcmpW x y) = false ∧ ifCond.holds .ne (lcmpW x y) = true := by
  simp only [if0]
  exact ⟨(feq (mt (lw_eq x y).mp q)).1, (feq (mt (lw_eq x y).mp q)).2⟩
theorem tlt0 {x y : Int32} (q : x < y) : (y = 0 → ifCond.holds .lt x = true ∧ ifCond.holds .ge x = false) ∧ (x = 0 → ifCond.holds .gt y = true ∧ ifCond.holds .le y = false) := by
  refine ⟨fun r => ?_, fun r => ?_⟩ <;> subst r <;> simp only [if0]
  · exact ⟨(tlt q).1, (tlt q).2.1⟩
  · exact ⟨(tlt q).2.2.1, (tlt q).2.2.2⟩
theorem g_iloadN (pc' : Nat) (X : Stand p l e R s m args below meth c T locs cells slots) (hx : p.tables.exec = Jvm.exec) {i : Fin 4} {v : Int32} (hd : decode c.code pc = .ok (.iload_n i, 1)) (hp : pc + 1 = pc') (hl : Ls[i.val]? = some (.val (.int v))) (H : Go p e below s k n Q T (mkF m pc' Ls (.int v :: st))) : Go p e below s k n Q T (mkF m pc Ls st) := by
  subst hp
  exact H.via fun t q => XS.iloadN X.here hx rfl hd hl q
theorem g_iload (pc' : Nat) (X : Stand p l e R s m args below meth c T locs cells slots) (hx : p.tables.exec = Jvm.exec) {i : Nat} {v : Int32} (hd : decode c.code pc = .ok (.iload i, 2)) (hp : pc + 2 = pc') (hl : Ls[i]? = some (.val (.int v))) (H : Go p e below s k n Q T (mkF m pc' Ls (.int v :: st))) : Go p e below s k n Q T (mkF m pc Ls st) := by
  subst hp
  exact H.via fun t q => XS.iload X.here hx rfl hd hl q
theorem g_istoreN (pc' : Nat) (X : Stand p l e R s m args below meth c T locs cells slots) (hx : p.tables.exec = Jvm.exec) {i : Fin 4} {v : Int32} {Ls' : Array Slot} (hd : decode c.code pc = .ok (.istore_n i, 1)) (hp : pc + 1 = pc') (hl : storeLocals Ls i.val (.int v) = some Ls') (H : Go p e below s k n Q T (mkF m pc' Ls' st)) : Go p e below s k n Q T (mkF m pc Ls (.int v :: st)) := by
  subst hp
  exact H.via fun t q => XS.istoreN X.here hx rfl hd rfl hl q
theorem g_istore (pc' : Nat) (X : Stand p l e R s m args below meth c T locs cells slots) (hx : p.tables.exec = Jvm.exec) {i : Nat} {v : Int32} {Ls' : Array Slot} (hd : decode c.code pc = .ok (.istore i, 2)) (hp : pc + 2 = pc') (hl : storeLocals Ls i (.int v) = some Ls') (H : Go p e below s k n Q T (mkF m pc' Ls' st)) : Go p e below s k n Q T (mkF m pc Ls (.int v :: st)) := by
  subst hp
  exact H.via fun t q => XS.istore X.here hx rfl hd rfl hl q
theorem g_lloadN (pc' : Nat) (X : Stand p l e R s m args below meth c T locs cells slots) (hx : p.tables.exec = Jvm.exec) {i : Fin 4} {v : Int64} (hd : decode c.code pc = .ok (.lload_n i, 1)) (hp : pc + 1 = pc') (hl : Ls[i.val]? = some (.val (.long v))) (H : Go p e below s k n Q T (mkF m pc' Ls (.long v :: st))) : Go p e below s k n Q T (mkF m pc Ls st) := by
  subst hp
  exact H.via fun t q => XS.lloadN X.here hx rfl hd hl q
theorem g_lload (pc' : Nat) (X : Stand p l e R s m args below meth c T locs cells slots) (hx : p.tables.exec = Jvm.exec) {i : Nat} {v : Int64} (hd : decode c.code pc = .ok (.lload i, 2)) (hp : pc + 2 = pc') (hl : Ls[i]? = some (.val (.long v))) (H : Go p e below s k n Q T (mkF m pc' Ls (.long v :: st))) : Go p e below s k n Q T (mkF m pc Ls st) := by
  subst hp
  exact H.via fun t q => XS.lload X.here hx rfl hd hl q
theorem g_lstoreN (pc' : Nat) (X : Stand p l e R s m args below meth c T locs cells slots) (hx : p.tables.exec = Jvm.exec) {i : Fin 4} {v : Int64} {Ls' : Array Slot} (hd : decode c.code pc = .ok (.lstore_n i, 1)) (hp : pc + 1 = pc') (hl : storeLocals Ls i.val (.long v) = some Ls') (H : Go p e below s k n Q T (mkF m pc' Ls' st)) : Go p e below s k n Q T (mkF m pc Ls (.long v :: st)) := by
  subst hp
  exact H.via fun t q => XS.lstoreN X.here hx rfl hd rfl hl q
theorem g_lstore (pc' : Nat) (X : Stand p l e R s m args below meth c T locs cells slots) (hx : p.tables.exec = Jvm.exec) {i : Nat} {v : Int64} {Ls' : Array Slot} (hd : decode c.code pc = .ok (.lstore i, 2)) (hp : pc + 2 = pc') (hl : storeLocals Ls i (.long v) = some Ls') (H : Go p e below s k n Q T (mkF m pc' Ls' st)) : Go p e below s k n Q T (mkF m pc Ls (.long v :: st)) := by
  subst hp
  exact H.via fun t q => XS.lstore X.here hx rfl hd rfl hl q
theorem g_aloadN (pc' : Nat) (X : Stand p l e R s m args below meth c T locs cells slots) (hx : p.tables.exec = Jvm.exec) {i : Fin 4} {v : Value} (hd : decode c.code pc = .ok (.aload_n i, 1)) (hp : pc + 1 = pc') (hl : Ls[i.val]? = some (.val v)) (hv : v.isRef = true) (H : Go p e below s k n Q T (mkF m pc' Ls (v :: st))) : Go p e below s k n Q T (mkF m pc Ls st) := by
  subst hp
  exact H.via fun t q => XS.aloadN X.here hx rfl hd hl hv q
theorem g_aload (pc' : Nat) (X : Stand p l e R s m args below meth c T locs cells slots) (hx : p.tables.exec = Jvm.exec) {i : Nat} {v : Value} (hd : decode c.code pc = .ok (.aload i, 2)) (hp : pc + 2 = pc') (hl : Ls[i]? = some (.val v)) (hv : v.isRef = true) (H : Go p e below s k n Q T (mkF m pc' Ls (v :: st))) : Go p e below s k n Q T (mkF m pc Ls st) := by
  subst hp
  exact H.via fun t q => XS.aload X.here hx rfl hd hl hv q
theorem g_astoreN (pc' : Nat) (X : Stand p l e R s m args below meth c T locs cells slots) (hx : p.tables.exec = Jvm.exec) {i : Fin 4} {v : Value} {Ls' : Array Slot} (hd : decode c.code pc = .ok (.astore_n i, 1)) (hp : pc + 1 = pc') (hv : v.isRef = true) (hl : storeLocals Ls i.val v = some Ls') (H : Go p e below s k n Q T (mkF m pc' Ls' st)) : Go p e below s k n Q T (mkF m pc Ls (v :: st)) := by
  subst hp
  exact H.via fun t q => XS.astoreN X.here hx rfl hd rfl hv hl q
theorem g_astore (pc' : Nat) (X : Stand p l e R s m args below meth c T locs cells slots) (hx : p.tables.exec = Jvm.exec) {i : Nat} {v : Value} {Ls' : Array Slot} (hd : decode c.code pc = .ok (.astore i, 2)) (hp : pc + 2 = pc') (hv : v.isRef = true) (hl : storeLocals Ls i v = some Ls') (H : Go p e below s k n Q T (mkF m pc' Ls' st)) : Go p e below s k n Q T (mkF m pc Ls (v :: st)) := by
  subst hp
  exact H.via fun t q => XS.astore X.here hx rfl hd rfl hv hl q
theorem g_iconst (pc' : Nat) (X : Stand p l e R s m args below meth c T locs cells slots) (hx : p.tables.exec = Jvm.exec) {i : Int} {z : Int32} (hd : decode c.code pc = .ok (.iconst i, 1)) (hp : pc + 1 = pc') (hz : Int32.ofInt i = z) (H : Go p e below s k n Q T (mkF m pc' Ls (.int z :: st))) : Go p e below s k n Q T (mkF m pc Ls st) := by
  subst hp hz
  exact H.via fun t q => XS.iconst X.here hx rfl hd q
theorem g_bipush (pc' : Nat) (X : Stand p l e R s m args below meth c T locs cells slots) (hx : p.tables.exec = Jvm.exec) {i : Int} {z : Int32} (hd : decode c.code pc = .ok (.bipush i, 2)) (hp : pc + 2 = pc') (hz : (Int8.ofInt i).toInt32 = z) (H : Go p e below s k n Q T (mkF m pc' Ls (.int z :: st))) : Go p e below s k n Q T (mkF m pc Ls st) := by
  subst hp hz
  exact H.via fun t q => XS.bipush X.here hx rfl hd q
theorem g_sipush (pc' : Nat) (X : Stand p l e R s m args below meth c T locs cells slots) (hx : p.tables.exec = Jvm.exec) {i : Int} {z : Int32} (hd : decode c.code pc = .ok (.sipush i, 3)) (hp : pc + 3 = pc') (hz : (Int16.ofInt i).toInt32 = z) (H : Go p e below s k n Q T (mkF m pc' Ls (.int z :: st))) : Go p e below s k n Q T (mkF m pc Ls st) := by
  subst hp hz
  exact H.via fun t q => XS.sipush X.here hx rfl hd q
theorem g_lconst (pc' : Nat) (X : Stand p l e R s m args below meth c T locs cells slots) (hx : p.tables.exec = Jvm.exec) {i : Fin 2} {z : Int64} (hd : decode c.code pc = .ok (.lconst i, 1)) (hp : pc + 1 = pc') (hz : Int64.ofNat i.val = z) (H : Go p e below s k n Q T (mkF m pc' Ls (.long z :: st))) : Go p e below s k n Q T (mkF m pc Ls st) := by
  subst hp hz
  exact H.via fun t q => XS.lconst X.here hx rfl hd q
theorem g_aconst_null (pc' : Nat) (X : Stand p l e R s m args below meth c T locs cells slots) (hx : p.tables.exec = Jvm.exec) (hd : decode c.code pc = .ok (.aconst_null, 1)) (hp : pc + 1 = pc')  (H : Go p e below s k n Q T (mkF m pc' Ls (.null :: st))) : Go p e below s k n Q T (mkF m pc Ls st) := by
  subst hp
  exact H.via fun t q => XS.aconstNull X.here hx rfl hd q
theorem g_iadd (pc' : Nat) (X : Stand p l e R s m args below meth c T locs cells slots) (hx : p.tables.exec = Jvm.exec) {x y z : Int32} (hd : decode c.code pc = .ok (.iadd, 1)) (hp : pc + 1 = pc') (hz : x + y = z) (H : Go p e below s k n Q T (mkF m pc' Ls (.int z :: st))) : Go p e below s k n Q T (mkF m pc Ls (.int y :: .int x :: st)) := by
  subst hp hz
  exact H.via fun t q => XS.iadd X.here hx rfl hd rfl q
theorem g_isub (pc' : Nat) (X : Stand p l e R s m args below meth c T locs cells slots) (hx : p.tables.exec = Jvm.exec) {x y z : Int32} (hd : decode c.code pc = .ok (.isub, 1)) (hp : pc + 1 = pc') (hz : x - y = z) (H : Go p e below s k n Q T (mkF m pc' Ls (.int z :: st))) : Go p e below s k n Q T (mkF m pc Ls (.int y :: .int x :: st)) := by
  subst hp hz
  exact H.via fun t q => XS.isub X.here hx rfl hd rfl q
theorem g_imul (pc' : Nat) (X : Stand p l e R s m args below meth c T locs cells slots) (hx : p.tables.exec = Jvm.exec) {x y z : Int32} (hd : decode c.code pc = .ok (.imul, 1)) (hp : pc + 1 = pc') (hz : x * y = z) (H : Go p e below s k n Q T (mkF m pc' Ls (.int z :: st))) : Go p e below s k n Q T (mkF m pc Ls (.int y :: .int x :: st)) := by
  subst hp hz
  exact H.via fun t q => XS.imul X.here hx rfl hd rfl q
theorem g_iand (pc' : Nat) (X : Stand p l e R s m args below meth c T locs cells slots) (hx : p.tables.exec = Jvm.exec) {x y z : Int32} (hd : decode c.code pc = .ok (.iand, 1)) (hp : pc + 1 = pc') (hz : x &&& y = z) (H : Go p e below s k n Q T (mkF m pc' Ls (.int z :: st))) : Go p e below s k n Q T (mkF m pc Ls (.int y :: .int x :: st)) := by
  subst hp hz
  exact H.via fun t q => XS.iand X.here hx rfl hd rfl q
theorem g_ior (pc' : Nat) (X : Stand p l e R s m args below meth c T locs cells slots) (hx : p.tables.exec = Jvm.exec) {x y z : Int32} (hd : decode c.code pc = .ok (.ior, 1)) (hp : pc + 1 = pc') (hz : x ||| y = z) (H : Go p e below s k n Q T (mkF m pc' Ls (.int z :: st))) : Go p e below s k n Q T (mkF m pc Ls (.int y :: .int x :: st)) := by
  subst hp hz
  exact H.via fun t q => XS.ior X.here hx rfl hd rfl q
theorem g_ixor (pc' : Nat) (X : Stand p l e R s m args below meth c T locs cells slots) (hx : p.tables.exec = Jvm.exec) {x y z : Int32} (hd : decode c.code pc = .ok (.ixor, 1)) (hp : pc + 1 = pc') (hz : x ^^^ y = z) (H : Go p e below s k n Q T (mkF m pc' Ls (.int z :: st))) : Go p e below s k n Q T (mkF m pc Ls (.int y :: .int x :: st)) := by
  subst hp hz
  exact H.via fun t q => XS.ixor X.here hx rfl hd rfl q
theorem g_ladd (pc' : Nat) (X : Stand p l e R s m args below meth c T locs cells slots) (hx : p.tables.exec = Jvm.exec) {x y z : Int64} (hd : decode c.code pc = .ok (.ladd, 1)) (hp : pc + 1 = pc') (hz : x + y = z) (H : Go p e below s k n Q T (mkF m pc' Ls (.long z :: st))) : Go p e below s k n Q T (mkF m pc Ls (.long y :: .long x :: st)) := by
  subst hp hz
  exact H.via fun t q => XS.ladd X.here hx rfl hd rfl q
theorem g_lsub (pc' : Nat) (X : Stand p l e R s m args below meth c T locs cells slots) (hx : p.tables.exec = Jvm.exec) {x y z : Int64} (hd : decode c.code pc = .ok (.lsub, 1)) (hp : pc + 1 = pc') (hz : x - y = z) (H : Go p e below s k n Q T (mkF m pc' Ls (.long z :: st))) : Go p e below s k n Q T (mkF m pc Ls (.long y :: .long x :: st)) := by
  subst hp hz
  exact H.via fun t q => XS.lsub X.here hx rfl hd rfl q
theorem g_lmul (pc' : Nat) (X : Stand p l e R s m args below meth c T locs cells slots) (hx : p.tables.exec = Jvm.exec) {x y z : Int64} (hd : decode c.code pc = .ok (.lmul, 1)) (hp : pc + 1 = pc') (hz : x * y = z) (H : Go p e below s k n Q T (mkF m pc' Ls (.long z :: st))) : Go p e below s k n Q T (mkF m pc Ls (.long y :: .long x :: st)) := by
  subst hp hz
  exact H.via fun t q => XS.lmul X.here hx rfl hd rfl q
theorem g_land (pc' : Nat) (X : Stand p l e R s m args below meth c T locs cells slots) (hx : p.tables.exec = Jvm.exec) {x y z : Int64} (hd : decode c.code pc = .ok (.land, 1)) (hp : pc + 1 = pc') (hz : x &&& y = z) (H : Go p e below s k n Q T (mkF m pc' Ls (.long z :: st))) : Go p e below s k n Q T (mkF m pc Ls (.long y :: .long x :: st)) := by
  subst hp hz
  exact H.via fun t q => XS.land X.here hx rfl hd rfl q
theorem g_lor (pc' : Nat) (X : Stand p l e R s m args below meth c T locs cells slots) (hx : p.tables.exec = Jvm.exec) {x y z : Int64} (hd : decode c.code pc = .ok (.lor, 1)) (hp : pc + 1 = pc') (hz : x ||| y = z) (H : Go p e below s k n Q T (mkF m pc' Ls (.long z :: st))) : Go p e below s k n Q T (mkF m pc Ls (.long y :: .long x :: st)) := by
  subst hp hz
  exact H.via fun t q => XS.lor X.here hx rfl hd rfl q
theorem g_lxor (pc' : Nat) (X : Stand p l e R s m args below meth c T locs cells slots) (hx : p.tables.exec = Jvm.exec) {x y z : Int64} (hd : decode c.code pc = .ok (.lxor, 1)) (hp : pc + 1 = pc') (hz : x ^^^ y = z) (H : Go p e below s k n Q T (mkF m pc' Ls (.long z :: st))) : Go p e below s k n Q T (mkF m pc Ls (.long y :: .long x :: st)) := by
  subst hp hz
  exact H.via fun t q => XS.lxor X.here hx rfl hd rfl q
theorem g_ishl (pc' : Nat) (X : Stand p l e R s m args below meth c T locs cells slots) (hx : p.tables.exec = Jvm.exec) {x y z : Int32} (hd : decode c.code pc = .ok (.ishl, 1)) (hp : pc + 1 = pc') (hz : x <<< (y &&& 31) = z) (H : Go p e below s k n Q T (mkF m pc' Ls (.int z :: st))) : Go p e below s k n Q T (mkF m pc Ls (.int y :: .int x :: st)) := by
  subst hp hz
  exact H.via fun t q => XS.ishl X.here hx rfl hd rfl q
theorem g_ishr (pc' : Nat) (X : Stand p l e R s m args below meth c T locs cells slots) (hx : p.tables.exec = Jvm.exec) {x y z : Int32} (hd : decode c.code pc = .ok (.ishr, 1)) (hp : pc + 1 = pc') (hz : x >>> (y &&& 31) = z) (H : Go p e below s k n Q T (mkF m pc' Ls (.int z :: st))) : Go p e below s k n Q T (mkF m pc Ls (.int y :: .int x :: st)) := by
  subst hp hz
  exact H.via fun t q => XS.ishr X.here hx rfl hd rfl q
theorem g_iushr (pc' : Nat) (X : Stand p l e R s m args below meth c T locs cells slots) (hx : p.tables.exec = Jvm.exec) {x y z : Int32} (hd : decode c.code pc = .ok (.iushr, 1)) (hp : pc + 1 = pc') (hz : (x.toUInt32 >>> (y &&& 31).toUInt32).toInt32 = z) (H : Go p e below s k n Q T (mkF m pc' Ls (.int z :: st))) : Go p e below s k n Q T (mkF m pc Ls (.int y :: .int x :: st)) := by
  subst hp hz
  exact H.via fun t q => XS.iushr X.here hx rfl hd rfl q
theorem g_lshl (pc' : Nat) (X : Stand p l e R s m args below meth c T locs cells slots) (hx : p.tables.exec = Jvm.exec) {x z : Int64} {y : Int32} (hd : decode c.code pc = .ok (.lshl, 1)) (hp : pc + 1 = pc') (hz : x <<< (y &&& 0x3f).toInt64 = z) (H : Go p e below s k n Q T (mkF m pc' Ls (.long z :: st))) : Go p e below s k n Q T (mkF m pc Ls (.int y :: .long x :: st)) := by
  subst hp hz
  exact H.via fun t q => XS.lshl X.here hx rfl hd rfl q
theorem g_lshr (pc' : Nat) (X : Stand p l e R s m args below meth c T locs cells slots) (hx : p.tables.exec = Jvm.exec) {x z : Int64} {y : Int32} (hd : decode c.code pc = .ok (.lshr, 1)) (hp : pc + 1 = pc') (hz : x >>> (y &&& 0x3f).toInt64 = z) (H : Go p e below s k n Q T (mkF m pc' Ls (.long z :: st))) : Go p e below s k n Q T (mkF m pc Ls (.int y :: .long x :: st)) := by
  subst hp hz
  exact H.via fun t q => XS.lshr X.here hx rfl hd rfl q
theorem g_lushr (pc' : Nat) (X : Stand p l e R s m args below meth c T locs cells slots) (hx : p.tables.exec = Jvm.exec) {x z : Int64} {y : Int32} (hd : decode c.code pc = .ok (.lushr, 1)) (hp : pc + 1 = pc') (hz : (x.toUInt64 >>> (y &&& 0x3f).toInt64.toUInt64).toInt64 = z) (H : Go p e below s k n Q T (mkF m pc' Ls (.long z :: st))) : Go p e below s k n Q T (mkF m pc Ls (.int y :: .long x :: st)) := by
  subst hp hz
  exact H.via fun t q => XS.lushr X.here hx rfl hd rfl q
theorem g_idiv (pc' : Nat) (X : Stand p l e R s m args below meth c T locs cells slots) (hx : p.tables.exec = Jvm.exec) {x y z : Int32} (hd : decode c.code pc = .ok (.idiv, 1)) (hp : pc + 1 = pc') (hy : y ≠ 0) (hz : x / y = z) (H : Go p e below s k n Q T (mkF m pc' Ls (.int z :: st))) : Go p e below s k n Q T (mkF m pc Ls (.int y :: .int x :: st)) := by
  subst hp hz
  exact H.via fun t q => XS.idiv X.here hx rfl hd rfl hy q
theorem g_irem (pc' : Nat) (X : Stand p l e R s m args below meth c T locs cells slots) (hx : p.tables.exec = Jvm.exec) {x y z : Int32} (hd : decode c.code pc = .ok (.irem, 1)) (hp : pc + 1 = pc') (hy : y ≠ 0) (hz : x % y = z) (H : Go p e below s k n Q T (mkF m pc' Ls (.int z :: st))) : Go p e below s k n Q T (mkF m pc Ls (.int y :: .int x :: st)) := by
  subst hp hz
  exact H.via fun t q => iremM X hx rfl hd rfl hy q
theorem g_ldiv (pc' : Nat) (X : Stand p l e R s m args below meth c T locs cells slots) (hx : p.tables.exec = Jvm.exec) {x y z : Int64} (hd : decode c.code pc = .ok (.ldiv, 1)) (hp : pc + 1 = pc') (hy : y ≠ 0) (hz : x / y = z) (H : Go p e below s k n Q T (mkF m pc' Ls (.long z :: st))) : Go p e below s k n Q T (mkF m pc Ls (.long y :: .long x :: st)) := by
  subst hp hz
  exact H.via fun t q => XS.ldiv X.here hx rfl hd rfl hy q
theorem g_lrem (pc' : Nat) (X : Stand p l e R s m args below meth c T locs cells slots) (hx : p.tables.exec = Jvm.exec) {x y z : Int64} (hd : decode c.code pc = .ok (.lrem, 1)) (hp : pc + 1 = pc') (hy : y ≠ 0) (hz : x % y = z) (H : Go p e below s k n Q T (mkF m pc' Ls (.long z :: st))) : Go p e below s k n Q T (mkF m pc Ls (.long y :: .long x :: st)) := by
  subst hp hz
  exact H.via fun t q => XS.lrem X.here hx rfl hd rfl hy (by rw [lrem_mod]; exact q)
theorem g_ineg (pc' : Nat) (X : Stand p l e R s m args below meth c T locs cells slots) (hx : p.tables.exec = Jvm.exec) {x : Int32} {z : Int32} (hd : decode c.code pc = .ok (.ineg, 1)) (hp : pc + 1 = pc') (hz : -x = z) (H : Go p e below s k n Q T (mkF m pc' Ls (.int z :: st))) : Go p e below s k n Q T (mkF m pc Ls (.int x :: st)) := by
  subst hp hz
  exact H.via fun t q => XS.ineg X.here hx rfl hd rfl q
theorem g_lneg (pc' : Nat) (X : Stand p l e R s m args below meth c T locs cells slots) (hx : p.tables.exec = Jvm.exec) {x : Int64} {z : Int64} (hd : decode c.code pc = .ok (.lneg, 1)) (hp : pc + 1 = pc') (hz : -x = z) (H : Go p e below s k n Q T (mkF m pc' Ls (.long z :: st))) : Go p e below s k n Q T (mkF m pc Ls (.long x :: st)) := by
  subst hp hz
  exact H.via fun t q => XS.lneg X.here hx rfl hd rfl q
theorem g_i2l (pc' : Nat) (X : Stand p l e R s m args below meth c T locs cells slots) (hx : p.tables.exec = Jvm.exec) {x : Int32} {z : Int64} (hd : decode c.code pc = .ok (.i2l, 1)) (hp : pc + 1 = pc') (hz : x.toInt64 = z) (H : Go p e below s k n Q T (mkF m pc' Ls (.long z :: st))) : Go p e below s k n Q T (mkF m pc Ls (.int x :: st)) := by
  subst hp hz
  exact H.via fun t q => XS.i2l X.here hx rfl hd rfl q
theorem g_l2i (pc' : Nat) (X : Stand p l e R s m args below meth c T locs cells slots) (hx : p.tables.exec = Jvm.exec) {x : Int64} {z : Int32} (hd : decode c.code pc = .ok (.l2i, 1)) (hp : pc + 1 = pc') (hz : x.toInt32 = z) (H : Go p e below s k n Q T (mkF m pc' Ls (.int z :: st))) : Go p e below s k n Q T (mkF m pc Ls (.long x :: st)) := by
  subst hp hz
  exact H.via fun t q => XS.l2i X.here hx rfl hd rfl q
theorem g_i2b (pc' : Nat) (X : Stand p l e R s m args below meth c T locs cells slots) (hx : p.tables.exec = Jvm.exec) {x : Int32} {z : Int32} (hd : decode c.code pc = .ok (.i2b, 1)) (hp : pc + 1 = pc') (hz : x.toInt8.toInt32 = z) (H : Go p e below s k n Q T (mkF m pc' Ls (.int z :: st))) : Go p e below s k n Q T (mkF m pc Ls (.int x :: st)) := by
  subst hp hz
  exact H.via fun t q => XS.i2b X.here hx rfl hd rfl q
theorem g_i2s (pc' : Nat) (X : Stand p l e R s m args below meth c T locs cells slots) (hx : p.tables.exec = Jvm.exec) {x : Int32} {z : Int32} (hd : decode c.code pc = .ok (.i2s, 1)) (hp : pc + 1 = pc') (hz : x.toInt16.toInt32 = z) (H : Go p e below s k n Q T (mkF m pc' Ls (.int z :: st))) : Go p e below s k n Q T (mkF m pc Ls (.int x :: st)) := by
  subst hp hz
  exact H.via fun t q => XS.i2s X.here hx rfl hd rfl q
theorem g_i2c (pc' : Nat) (X : Stand p l e R s m args below meth c T locs cells slots) (hx : p.tables.exec = Jvm.exec) {x : Int32} {z : Int32} (hd : decode c.code pc = .ok (.i2c, 1)) (hp : pc + 1 = pc') (hz : x.toUInt32.toUInt16.toUInt32.toInt32 = z) (H : Go p e below s k n Q T (mkF m pc' Ls (.int z :: st))) : Go p e below s k n Q T (mkF m pc Ls (.int x :: st)) := by
  subst hp hz
  exact H.via fun t q => XS.i2c X.here hx rfl hd rfl q
theorem g_dup (pc' : Nat) (X : Stand p l e R s m args below meth c T locs cells slots) (hx : p.tables.exec = Jvm.exec) {v : Value} (hd : decode c.code pc = .ok (.dup, 1)) (hp : pc + 1 = pc') (hv : v.category = 1) (H : Go p e below s k n Q T (mkF m pc' Ls (v :: v :: st))) : Go p e below s k n Q T (mkF m pc Ls (v :: st)) := by
  subst hp
  exact H.via fun t q => XS.dup X.here hx rfl hd rfl hv q
theorem g_pop (pc' : Nat) (X : Stand p l e R s m args below meth c T locs cells slots) (hx : p.tables.exec = Jvm.exec) {v : Value} (hd : decode c.code pc = .ok (.pop, 1)) (hp : pc + 1 = pc') (hv : v.category = 1) (H : Go p e below s k n Q T (mkF m pc' Ls st)) : Go p e below s k n Q T (mkF m pc Ls (v :: st)) := by
  subst hp
  exact H.via fun t q => XS.pop X.here hx rfl hd rfl hv q
theorem g_dup_x1 (pc' : Nat) (X : Stand p l e R s m args below meth c T locs cells slots) (hx : p.tables.exec = Jvm.exec) {v w : Value} (hd : decode c.code pc = .ok (.dup_x1, 1)) (hp : pc + 1 = pc') (hv : v.category = 1) (hw : w.category = 1) (H : Go p e below s k n Q T (mkF m pc' Ls (v :: w :: v :: st))) : Go p e below s k n Q T (mkF m pc Ls (v :: w :: st)) := by
  subst hp
  exact H.via fun t q => XS.dupX1 X.here hx rfl hd rfl hv hw q
theorem g_dup2 (pc' : Nat) (X : Stand p l e R s m args below meth c T locs cells slots) (hx : p.tables.exec = Jvm.exec) {v w : Value} (hd : decode c.code pc = .ok (.dup2, 1)) (hp : pc + 1 = pc') (hv : v.category = 1) (hw : w.category = 1) (H : Go p e below s k n Q T (mkF m pc' Ls (v :: w :: v :: w :: st))) : Go p e below s k n Q T (mkF m pc Ls (v :: w :: st)) := by
  subst hp
  exact H.via fun t q => XT.dup2 X.here hx rfl hd rfl hv hw q
theorem g_iinc (pc' : Nat) (X : Stand p l e R s m args below meth c T locs cells slots) (hx : p.tables.exec = Jvm.exec) {i : Nat} {cst : Int} {x z : Int32} {Ls' : Array Slot} (hd : decode c.code pc = .ok (.iinc i cst, 3)) (hp : pc + 3 = pc') (hl : Ls[i]? = some (.val (.int x))) (hz : x + Int32.ofInt cst = z) (hl' : storeLocals Ls i (.int z) = some Ls') (H : Go p e below s k n Q T (mkF m pc' Ls' st)) : Go p e below s k n Q T (mkF m pc Ls st) := by
  subst hp hz
  exact H.via fun t q => XS.iinc X.here hx rfl hd hl hl' q
theorem g_goto (pc' : Nat) (X : Stand p l e R s m args below meth c T locs cells slots) (hx : p.tables.exec = Jvm.exec) {o : Int} (hd : decode c.code pc = .ok (.goto o, 3)) (ho : 0 ≤ (pc : Int) + o) (hp : ((pc : Int) + o).toNat = pc') (H : Go p e below s k n Q T (mkF m pc' Ls st)) : Go p e below s k n Q T (mkF m pc Ls st) :=
  H.via fun t q => XS.goto X.here hx rfl rfl hd ho hp q
theorem g_ifYes (pc' : Nat) (X : Stand p l e R s m args below meth c T locs cells slots) (hx : p.tables.exec = Jvm.exec) {cd : ClassFile.Cond} {x : Int32} {o : Int} (hd : decode c.code pc = .ok (.ifCond cd o, 3)) (hc : ifCond.holds cd x = true) (ho : 0 ≤ (pc : Int) + o) (hp : ((pc : Int) + o).toNat = pc') (H : Go p e below s k n Q T (mkF m pc' Ls st)) : Go p e below s k n Q T (mkF m pc Ls (.int x :: st)) :=
  H.via fun t q => XS.ifYes X.here hx rfl rfl hd rfl hc ho hp q
theorem g_ifNo (pc' : Nat) (X : Stand p l e R s m args below meth c T locs cells slots) (hx : p.tables.exec = Jvm.exec) {cd : ClassFile.Cond} {x : Int32} {o : Int} (hd : decode c.code pc = .ok (.ifCond cd o, 3)) (hc : ifCond.holds cd x = false) (hp : pc + 3 = pc') (H : Go p e below s k n Q T (mkF m pc' Ls st)) : Go p e below s k n Q T (mkF m pc Ls (.int x :: st)) := by
  subst hp
  exact H.via fun t q => XS.ifNo X.here hx rfl hd rfl hc q
theorem g_icmpYes (pc' : Nat) (X : Stand p l e R s m args below meth c T locs cells slots) (hx : p.tables.exec = Jvm.exec) {cd : ClassFile.Cond} {x y : Int32} {o : Int} (hd : decode c.code pc = .ok (.if_icmp cd o, 3)) (hc : if_icmp.holds cd x y = true) (ho : 0 ≤ (pc : Int) + o) (hp : ((pc : Int) + o).toNat = pc') (H : Go p e below s k n Q T (mkF m pc' Ls st)) : Go p e below s k n Q T (mkF m pc Ls (.int y :: .int x :: st)) :=
  H.via fun t q => XS.icmpYes X.here hx rfl rfl hd rfl hc ho hp q
theorem g_icmpNo (pc' : Nat) (X : Stand p l e R s m args below meth c T locs cells slots) (hx : p.tables.exec = Jvm.exec) {cd : ClassFile.Cond} {x y : Int32} {o : Int} (hd : decode c.code pc = .ok (.if_icmp cd o, 3)) (hc : if_icmp.holds cd x y = false) (hp : pc + 3 = pc') (H : Go p e below s k n Q T (mkF m pc' Ls st)) : Go p e below s k n Q T (mkF m pc Ls (.int y :: .int x :: st)) := by
  subst hp
  exact H.via fun t q => XS.icmpNo X.here hx rfl hd rfl hc q
theorem g_lcmpYes (pc' : Nat) (X : Stand p l e R s m args below meth c T locs cells slots) (hx : p.tables.exec = Jvm.exec) {cd : ClassFile.Cond} {x y : Int64} {o : Int} {pc1 : Nat} (hd : decode c.code pc = .ok (.lcmp, 1)) (hp1 : pc + 1 = pc1) (hd' : decode c.code pc1 = .ok (.ifCond cd o, 3)) (hc : ifCond.holds cd (lcmpW x y) = true) (ho : 0 ≤ (pc1 : Int) + o) (hp : ((pc1 : Int) + o).toNat = pc') (H : Go p e below s k n Q T (mkF m pc' Ls st)) : Go p e below s k n Q T (mkF m pc Ls (.long y :: .long x :: st)) := by
  subst hp1
  exact H.via fun t q => XS.lcmp X.here hx rfl hd rfl (XS.ifYes X.here hx rfl rfl hd' rfl hc ho hp q)
theorem g_lcmpNo (pc' : Nat) (X : Stand p l e R s m args below meth c T locs cells slots) (hx : p.tables.exec = Jvm.exec) {cd : ClassFile.Cond} {x y : Int64} {o : Int} {pc1 : Nat} (hd : decode c.code pc = .ok (.lcmp, 1)) (hp1 : pc + 1 = pc1) (hd' : decode c.code pc1 = .ok (.ifCond cd o, 3)) (hc : ifCond.holds cd (lcmpW x y) = false) (hp : pc1 + 3 = pc') (H : Go p e below s k n Q T (mkF m pc' Ls st)) : Go p e below s k n Q T (mkF m pc Ls (.long y :: .long x :: st)) := by
  subst hp1; subst hp
  exact H.via fun t q => XS.lcmp X.here hx rfl hd rfl (XS.ifNo X.here hx rfl hd' rfl hc q)
theorem g_ifnullYes (pc' : Nat) (X : Stand p l e R s m args below meth c T locs cells slots) (hx : p.tables.exec = Jvm.exec) {b : Addr} {o : Int} (hd : decode c.code pc = .ok (.ifnull o, 3)) (ho : 0 ≤ (pc : Int) + o) (hp : ((pc : Int) + o).toNat = pc') (H : Go p e below s k n Q T (mkF m pc' Ls st)) : Go p e below s k n Q T (mkF m pc Ls (.null :: st)) :=
  H.via fun t q => XS.ifnullYes X.here hx rfl rfl hd rfl ho hp q
theorem g_ifnullNo (pc' : Nat) (X : Stand p l e R s m args below meth c T locs cells slots) (hx : p.tables.exec = Jvm.exec) {b : Addr} {o : Int} (hd : decode c.code pc = .ok (.ifnull o, 3)) (hp : pc + 3 = pc') (H : Go p e below s k n Q T (mkF m pc' Ls st)) : Go p e below s k n Q T (mkF m pc Ls (.ref b :: st)) := by
  subst hp
  exact H.via fun t q => XS.ifnullNo X.here hx rfl hd rfl q
theorem g_ifnonnullYes (pc' : Nat) (X : Stand p l e R s m args below meth c T locs cells slots) (hx : p.tables.exec = Jvm.exec) {b : Addr} {o : Int} (hd : decode c.code pc = .ok (.ifnonnull o, 3)) (ho : 0 ≤ (pc : Int) + o) (hp : ((pc : Int) + o).toNat = pc') (H : Go p e below s k n Q T (mkF m pc' Ls st)) : Go p e below s k n Q T (mkF m pc Ls (.ref b :: st)) :=
  H.via fun t q => XS.ifnonnullYes X.here hx rfl rfl hd rfl ho hp q
theorem g_ifnonnullNo (pc' : Nat) (X : Stand p l e R s m args below meth c T locs cells slots) (hx : p.tables.exec = Jvm.exec) {b : Addr} {o : Int} (hd : decode c.code pc = .ok (.ifnonnull o, 3)) (hp : pc + 3 = pc') (H : Go p e below s k n Q T (mkF m pc' Ls st)) : Go p e below s k n Q T (mkF m pc Ls (.null :: st)) := by
  subst hp
  exact H.via fun t q => XS.ifnonnullNo X.here hx rfl hd rfl q
theorem g_ldc (pc' : Nat) (X : Stand p l e R s m args below meth c T locs cells slots) (hx : p.tables.exec = Jvm.exec) (hZ : Z.Warmed39 s.vm) {own : String} {index : Nat} {z : Int32} (hown : s.vm.findClass own = some m.cls) (w : (Cond.constant own index z).before a0 Z = true) (hd : decode c.code pc = .ok (.ldc index, 2)) (hp : pc + 2 = pc') (H : Go p e below s k n Q T (mkF m pc' Ls (.int z :: st))) : Go p e below s k n Q T (mkF m pc Ls st) := by
  subst hp
  exact H.via fun t q => X.ldcInt hx hown (mvT hZ w) (g := mkF m pc Ls st) rfl hd t q
theorem g_ldc2 (pc' : Nat) (X : Stand p l e R s m args below meth c T locs cells slots) (hx : p.tables.exec = Jvm.exec) (hZ : Z.Warmed39 s.vm) {own : String} {index : Nat} {z : Int64} (hown : s.vm.findClass own = some m.cls) (w : (Cond.constantLong own index z).before a0 Z = true) (hd : decode c.code pc = .ok (.ldc2_w index, 3)) (hp : pc + 3 = pc') (H : Go p e below s k n Q T (mkF m pc' Ls (.long z :: st))) : Go p e below s k n Q T (mkF m pc Ls st) := by
  subst hp
  exact H.via fun t q => X.ldc2Long hx hown (mvT hZ w) (g := mkF m pc Ls st) rfl hd t q
theorem g_retI (X : Stand p l e R s m args below meth c T locs cells slots) (hx : p.tables.exec = Jvm.exec) (hret : meth.sig.returnType = some .int) (hlk : meth.locks = false) {z : Int32} (hd : decode c.code pc = .ok (.ireturn, 1)) (hk : cells ≤ k) (hn : slots ≤ n) (hQ : Q (some (.int z)) T.heap locs) : Go p e below s k n Q T (mkF m pc Ls (.int z :: st)) := by
  obtain ⟨fs, hr, hrun, hended, hW, hsame⟩ := X.leave (v := some (.int z)) (fun q => by rw [hret] at q; cases q) hlk
  exact ⟨_, _, retOut X hx hret rfl (Or.inl ⟨rfl, Or.inl rfl, z, rfl⟩) hd hr, hrun, hended, _, _, rfl, hQ, ⟨_, rfl⟩, hW, hsame.mono hk hn⟩
theorem g_retJ (X : Stand p l e R s m args below meth c T locs cells slots) (hx : p.tables.exec = Jvm.exec) (hret : meth.sig.returnType = some .long) (hlk : meth.locks = false) {z : Int64} (hd : decode c.code pc = .ok (.lreturn, 1)) (hk : cells ≤ k) (hn : slots ≤ n) (hQ : Q (some (.long z)) T.heap locs) : Go p e below s k n Q T (mkF m pc Ls (.long z :: st)) := by
  obtain ⟨fs, hr, hrun, hended, hW, hsame⟩ := X.leave (v := some (.long z)) (fun q => by rw [hret] at q; cases q) hlk
  exact ⟨_, _, retOut X hx hret rfl (Or.inr (Or.inl ⟨rfl, rfl, z, rfl⟩)) hd hr, hrun, hended, _, _, rfl, hQ, ⟨_, rfl⟩, hW, hsame.mono hk hn⟩
theorem g_retA {ty : FieldType} (X : Stand p l e R s m args below meth c T locs cells slots) (hx : p.tables.exec = Jvm.exec) (hret : meth.sig.returnType = some ty) (hlk : meth.locks = false) {v : Value} (hty : ty.isReference = true) (hv : v.isRef = true) (hnv : narrow ty v = v) (hd : decode c.code pc = .ok (.areturn, 1)) (hk : cells ≤ k) (hn : slots ≤ n) (hQ : Q (some v) T.heap locs) : Go p e below s k n Q T (mkF m pc Ls (v :: st)) := by
  obtain ⟨fs, hr, hrun, hended, hW, hsame⟩ := X.leave (v := some v) (fun q => by rw [hret] at q; cases q) hlk
  exact ⟨_, _, retOut X hx hret hnv (Or.inr (Or.inr (Or.inr (Or.inr ⟨rfl, hty, hv⟩)))) hd hr, hrun, hended, _, _, rfl, hQ, ⟨_, rfl⟩, hW, hsame.mono hk hn⟩
theorem g_ret0 (X : Stand p l e R s m args below meth c T locs cells slots) (hx : p.tables.exec = Jvm.exec) (hret : meth.sig.returnType = none) (hlk : meth.locks = false) (hd : decode c.code pc = .ok (.return_, 1)) (hk : cells ≤ k) (hn : slots ≤ n) (hQ : Q (none) T.heap locs) : Go p e below s k n Q T (mkF m pc Ls []) := by
  obtain ⟨fs, hr, hrun, hended, hW, hsame⟩ := X.leave (v := none) (fun _ => rfl) hlk
  exact ⟨_, _, X.returnOut hx hret hd hr, hrun, hended, _, _, rfl, hQ, ⟨_, rfl⟩, hW, hsame.mono hk hn⟩
theorem g_retN (X : Stand p l e R s m args below meth c T locs cells slots) (hx : p.tables.exec = Jvm.exec) {t : FieldType} (hret : meth.sig.returnType = some t) (hlk : meth.locks = false) {z z' : Int32} (ht : t = .boolean ∨ t = .byte ∨ t = .char ∨ t = .short) (hz : nar t z = z') (hd : decode c.code pc = .ok (.ireturn, 1)) (hk : cells ≤ k) (hn : slots ≤ n) (hQ : Q (some (.int z')) T.heap locs) : Go p e below s k n Q T (mkF m pc Ls (.int z :: st)) := by
  subst hz
  obtain ⟨fs, hr, hrun, hended, hW, hsame⟩ := X.leave (v := some (.int (nar t z))) (fun q => by rw [hret] at q; cases q) hlk
  exact ⟨_, _, retN X hx hret ht hd hr, hrun, hended, _, _, rfl, hQ, ⟨_, rfl⟩, hW, hsame.mono hk hn⟩
theorem g_getF (pc' : Nat) (X : Stand p l e R s m args below meth c T locs cells slots) (hx : p.tables.exec = Jvm.exec) (hZ : Z.Warmed39 s.vm) {own R0 O nm d : String} {index : Nat} (hown : s.vm.findClass own = some m.cls) (w : (Cond.fieldLink own index R0 nm d).before a0 Z = true) (via : Via Z R0 O nm d) (eT : T.heap = h) {a : Addr} {v : Value} (F : Fld Z h a O nm d v) (hd : decode c.code pc = .ok (.getfield index, 3)) (hp : pc + 3 = pc') (H : ∀ T', Stand p l e R s m args below meth c T' locs cells slots → T'.heap = h → Go p e below s k n Q T' (mkF m pc' Ls (v :: st))) : Go p e below s k n Q T (mkF m pc Ls (.ref a :: st)) := by
  subst hp
  obtain ⟨T', X', e', q⟩ := getF X hx hZ hown (host := "") (Or.inl w) via eT F (g := mkF m pc Ls (.ref a :: st)) rfl rfl hd
  exact (H T' X' e').via q
theorem g_putF (pc' : Nat) (X : Stand p l e R s m args below meth c T locs cells slots) (hx : p.tables.exec = Jvm.exec) (hZ : Z.Warmed39 s.vm) {own R0 O nm d C : String} {index kk : Nat} {ty : FieldType} (hown : s.vm.findClass own = some m.cls) (w : (Cond.fieldLink own index R0 nm d).before a0 Z = true) (via : Via Z R0 O nm d) (eT : T.heap = h) {a : Addr} {v old : Value} (F : Fld Z h a O nm d old) (E : Exa Z h a C) (L : (Cond.lays C O nm d).before a0 Z = true ∨ ((Cond.laysFinal C O nm d).before a0 Z = true ∧ own = O ∧ meth.name = "<init>")) (wi : (Cond.instantiable C kk).before a0 Z = true) (hty : parseFieldDescriptor d = some ty) (hn : narrow ty v = v) (hf : fits ty v = true) (hd : decode c.code pc = .ok (.putfield index, 3)) (hp : pc + 3 = pc') (H : ∀ T' h', Stand p l e R s m args below meth c T' (locs ++ [⟨a, Jvm.RoadKit.slotOf Z O nm d⟩]) cells slots → T'.heap = h' → Wr h h' a (Jvm.RoadKit.slotOf Z O nm d) v → Go p e below s k n Q T' (mkF m pc' Ls st)) : Go p e below s k n Q T (mkF m pc Ls (v :: .ref a :: st)) := by
  subst hp
  obtain ⟨T', h', X', e', W, q⟩ := putF X hx hZ hown (host := "") (Or.inl w) via eT F E L wi hty hn hf (g := mkF m pc Ls (v :: .ref a :: st)) rfl rfl hd
  exact (H T' h' X' e' W).via q
theorem g_newO (pc' : Nat) (X : Stand p l e R s m args below meth c T locs cells slots) (hx : p.tables.exec = Jvm.exec) (hZ : Z.Warmed39 s.vm) {own C : String} {index nn : Nat} (hown : s.vm.findClass own = some m.cls) (w : (Cond.classLink own index C).before a0 Z = true) (wi : (Cond.instantiable C nn).before a0 Z = true) (wz : (Cond.initialized C).before a0 Z = true) (eT : T.heap = h) (hd : decode c.code pc = .ok (.new index, 3)) (hc : cells + 1 ≤ R.cells) (hl : slots + nn ≤ R.slots) (hp : pc + 3 = pc') (H : ∀ T' h' b, Stand p l e R s m args below meth c T' locs (cells + 1) (slots + nn) → T'.heap = h' → Ext h h' → b = h.size → Exa Z h' b C → (∀ {O nm d : String} {ty : FieldType}, Laid Z a0 C O nm d → parseFieldDescriptor d = some ty → Fld Z h' b O nm d (defaultValue ty)) → Go p e below s k n Q T' (mkF m pc' Ls (.ref b :: st))) : Go p e below s k n Q T (mkF m pc Ls st) := by
  subst hp
  obtain ⟨T', h', X', e', E, A, D, -, q⟩ := newO X hx hZ hown w wi wz eT (g := mkF m pc Ls st) rfl hd hc hl
  exact (H T' h' _ X' e' E rfl A D).via q
theorem g_initO (pc' : Nat) (X : Stand p l e R s m args below meth c T locs cells slots) (hx : p.tables.exec = Jvm.exec) (hZ : Z.Warmed39 s.vm) {own : String} {idx : Nat} (hown : s.vm.findClass own = some m.cls) (w1 : (Cond.methodLink own idx Lib.objectInit).before a0 Z = true) (w2 : (Cond.instanceMethod Lib.objectInit).before a0 Z = true) (w3 : (Cond.code Lib.objectInit ⟨#[0xb1]⟩ 1 none).before a0 Z = true) (eT : T.heap = h) (hsize : Ls.size = c.maxLocals) {a : Addr} (hd : decode c.code pc = .ok (.invokespecial idx, 3)) (hf : 1 ≤ R.frames) (W : Nat) (hW : (st.map fun v => v.category).sum ≤ W) (hl : W + 12 ≤ R.locals) (hp : pc + 3 = pc') (H : ∀ T', Stand p l e R s m args below meth c T' locs cells slots → T'.heap = h → Go p e below s k n Q T' (mkF m pc' Ls st)) : Go p e below s k n Q T (mkF m pc Ls (.ref a :: st)) := by
  subst hp
  obtain ⟨T', X', e', q⟩ := initO X hx hZ hown w1 w2 w3 eT (g := mkF m pc Ls (.ref a :: st)) rfl hsize rfl hd hf (W := W) (by show 2 * 0 + _ ≤ _; omega) hl
  exact (H T' X' e').via q
theorem g_callS (pc' : Nat) (X : Stand p l e R s m args below meth c T locs cells slots) (hx : p.tables.exec = Jvm.exec) (hZ : Z.Warmed39 s.vm) {own : String} {index : Nat} {y : MethodName} {bytes : ByteArray} {maxL : Nat} {ret : Option FieldType} {rm : Room} {as' : Array Value} {Qc : Option Value → Heap → List Loc → Prop} (hown : s.vm.findClass own = some m.cls) (w1 : (Cond.methodLink own index y).before a0 Z = true) (w2 : (Cond.static y).before a0 Z = true) (w3 : (Cond.initialized y.cls).before a0 Z = true) (w4 : (Cond.code y bytes maxL ret).before a0 Z = true) (hy : y.cls ≠ "java/lang/invoke/MethodHandle" ∧ y.cls ≠ "java/lang/invoke/VarHandle") (eT : T.heap = h) (hM : MetFree l y (head1 [Cond.code y bytes maxL ret] rm) (fun a U => a = as' ∧ Z.Warmed39 U.vm ∧ U.heap = h) (fun _ _ _ _ _ => True) (fun _ U o U' => ∃ v L, o = .returned v ∧ Qc v U'.heap L ∧ FrameEnd U o U' L rm.cells rm.slots)) (hsize : Ls.size = c.maxLocals) (argsL rest : List Value) (ha : argsL.toArray = as') (hst : st = argsL.reverse ++ rest) (hlen : ∀ sig, parseMethodDescriptor y.desc = some sig → argsL.length = sig.parameters.length) (W : Nat) (hW : (rest.map fun v => v.category).sum ≤ W) (hd : decode c.code pc = .ok (.invokestatic index, 3)) (hfr : rm.frames + 1 ≤ R.frames) (hlo : W + (maxL + 11) + rm.locals ≤ R.locals) (hce : cells + rm.cells ≤ R.cells) (hsl : slots + rm.slots ≤ R.slots) (hp : pc + 3 = pc') (H : ∀ v T' L, Stand p l e R s m args below meth c T' (locs ++ L) (cells + rm.cells) (slots + rm.slots) → Qc v T'.heap L → Go p e below s k n Q T' (mkF m pc' Ls (v.toList ++ rest))) : Go p e below s k n Q T (mkF m pc Ls st) := by
  subst hp hst
  obtain ⟨v, _, ⟨T', L, k', n'⟩, -, X', ⟨Lc, hQ, l1, l2, l3⟩, q⟩ := Jvm.LawKit.callS X hx (y := y) hown (mvT hZ w1) (mvT hZ w2) (mvT hZ w3) (mvT hZ w4) hy (backOf (W := W) hM hZ w4 w3 hfr hlo) (g := mkF m pc Ls (argsL.reverse ++ rest)) rfl hsize (argsL := argsL) (rest := rest) hlen rfl (by show 2 * 0 + _ ≤ _; omega) hd (fun _ _ => ⟨ha, eT, hce, hsl⟩)
  dsimp only [Pt.U, Pt.locs, Pt.cells, Pt.slots] at X' l1 l2 l3 q hQ
  subst l1 l2 l3
  exact (H v T' Lc X' hQ).via q
theorem g_callI (pc' : Nat) (X : Stand p l e R s m args below meth c T locs cells slots) (hx : p.tables.exec = Jvm.exec) (hZ : Z.Warmed39 s.vm) {own : String} {index : Nat} {y : MethodName} {bytes : ByteArray} {maxL : Nat} {rm : Room} {as' : Array Value} {Qc : Option Value → Heap → List Loc → Prop} (hy1 : y.name = "<init>") (hown : s.vm.findClass own = some m.cls) (w1 : (Cond.methodLink own index y).before a0 Z = true) (w2 : (Cond.instanceMethod y).before a0 Z = true) (w3 : (Cond.initialized y.cls).before a0 Z = true) (w4 : (Cond.code y bytes maxL none).before a0 Z = true) (hy : y.cls ≠ "java/lang/invoke/MethodHandle" ∧ y.cls ≠ "java/lang/invoke/VarHandle") (eT : T.heap = h) (hM : MetFree l y (head1 [Cond.code y bytes maxL none] rm) (fun a U => a = as' ∧ Z.Warmed39 U.vm ∧ U.heap = h) (fun _ _ _ _ _ => True) (fun _ U o U' => ∃ v L, o = .returned v ∧ Qc v U'.heap L ∧ FrameEnd U o U' L rm.cells rm.slots)) (hsize : Ls.size = c.maxLocals) (a : Addr) (argsL rest : List Value) (ha : (.ref a :: argsL).toArray = as') (hst : st = argsL.reverse ++ .ref a :: rest) (hlen : ∀ sig, parseMethodDescriptor y.desc = some sig → argsL.length = sig.parameters.length) (W : Nat) (hW : (rest.map fun v => v.category).sum ≤ W) (hd : decode c.code pc = .ok (.invokespecial index, 3)) (hfr : rm.frames + 1 ≤ R.frames) (hlo : W + (maxL + 11) + rm.locals ≤ R.locals) (hce : cells + rm.cells ≤ R.cells) (hsl : slots + rm.slots ≤ R.slots) (hp : pc + 3 = pc') (H : ∀ v T' L, Stand p l e R s m args below meth c T' (locs ++ L) (cells + rm.cells) (slots + rm.slots) → Qc v T'.heap L → Go p e below s k n Q T' (mkF m pc' Ls (v.toList ++ rest))) : Go p e below s k n Q T (mkF m pc Ls st) := by
  subst hp hst
  obtain ⟨v, _, ⟨T', L, k', n'⟩, -, X', ⟨Lc, hQ, l1, l2, l3⟩, q⟩ := X.specialBack hx (y := y) hy1 hown (mvT hZ w1) (mvT hZ w2) (mvT hZ w4) hy (backOf (W := W) hM hZ w4 w3 hfr hlo) (g := mkF m pc Ls (argsL.reverse ++ .ref a :: rest)) rfl hsize (Steps.refl _) (a := a) (argsL := argsL) (rest := rest) hlen rfl (by show 2 * 0 + _ ≤ _; omega) hd (fun _ _ => ⟨ha, eT, hce, hsl⟩)
  dsimp only [Pt.U, Pt.locs, Pt.cells, Pt.slots] at X' l1 l2 l3 q hQ
  subst l1 l2 l3
  exact (H v T' Lc X' hQ).via fun t r => q.trans r
theorem g_callV (pc' : Nat) (X : Stand p l e R s m args below meth c T locs cells slots) (hx : p.tables.exec = Jvm.exec) (hZ : Z.Warmed39 s.vm) {own : String} {index : Nat} {y : MethodName} {bytes : ByteArray} {maxL : Nat} {ret : Option FieldType} {rm : Room} {as' : Array Value} {Qc : Option Value → Heap → List Loc → Prop} (hown : s.vm.findClass own = some m.cls) (w1 : (Cond.methodLink own index y).before a0 Z = true) (w2 : (Cond.declares y).before a0 Z = true) (w5 : (Cond.selects y.cls y y).before a0 Z = true) (w6 : (Cond.instanceMethod y).before a0 Z = true) (w3 : (Cond.initialized y.cls).before a0 Z = true) (w4 : (Cond.code y bytes maxL ret).before a0 Z = true) (hy : y.cls ≠ "java/lang/invoke/MethodHandle" ∧ y.cls ≠ "java/lang/invoke/VarHandle") (eT : T.heap = h) {a : Addr} (E : Exa Z h a y.cls) (hM : MetFree l y (head1 [Cond.code y bytes maxL ret] rm) (fun a U => a = as' ∧ Z.Warmed39 U.vm ∧ U.heap = h) (fun _ _ _ _ _ => True) (fun _ U o U' => ∃ v L, o = .returned v ∧ Qc v U'.heap L ∧ FrameEnd U o U' L rm.cells rm.slots)) (hsize : Ls.size = c.maxLocals) (argsL rest : List Value) (ha : (.ref a :: argsL).toArray = as') (hst : st = argsL.reverse ++ .ref a :: rest) (hlen : ∀ sig, parseMethodDescriptor y.desc = some sig → argsL.length = sig.parameters.length) (W : Nat) (hW : (rest.map fun v => v.category).sum ≤ W) (hd : decode c.code pc = .ok (.invokevirtual index, 3)) (hfr : rm.frames + 1 ≤ R.frames) (hlo : W + (maxL + 11) + rm.locals ≤ R.locals) (hce : cells + rm.cells ≤ R.cells) (hsl : slots + rm.slots ≤ R.slots) (hp : pc + 3 = pc') (H : ∀ v T' L, Stand p l e R s m args below meth c T' (locs ++ L) (cells + rm.cells) (slots + rm.slots) → Qc v T'.heap L → Go p e below s k n Q T' (mkF m pc' Ls (v.toList ++ rest))) : Go p e below s k n Q T (mkF m pc Ls st) := by
  subst hp hst
  obtain ⟨cq, kq, qa, qb, qc⟩ := isOf hZ eT E
  obtain ⟨v, _, ⟨T', L, k', n'⟩, -, X', ⟨Lc, hQ, l1, l2, l3⟩, q⟩ := X.virtualBack hx (y := y) (z := y) hown (mvT hZ w1) (mvT hZ w2) (notFace_of_selects (args := #[]) (mvT hZ w5)) (mvT hZ w5) (mvT hZ w6) hy (backOf (W := W) hM hZ w4 w3 hfr hlo) qa qc (g := mkF m pc Ls (argsL.reverse ++ .ref a :: rest)) rfl hsize (Steps.refl _) (argsL := argsL) (rest := rest) hlen rfl (by show 2 * 0 + _ ≤ _; omega) hd (fun _ _ => ⟨ha, eT, hce, hsl⟩)
  dsimp only [Pt.U, Pt.locs, Pt.cells, Pt.slots] at X' l1 l2 l3 q hQ
  subst l1 l2 l3
  exact (H v T' Lc X' hQ).via fun t r => q.trans r
/-- an array of ints (bytes, chars, shorts, booleans) at a, whole -/
def AI (Z : State) (h : Heap) (a : Addr) (ty : FieldType) (bs : List Int32) : Prop := ∃ c : Cell, Arr Z h a c ty ∧ c.slots = (bs.map Value.int).toArray ∧ bs.length < 2 ^ 31
/-- an array of longs at a, whole -/
def AJ (Z : State) (h : Heap) (a : Addr) (bs : List Int64) : Prop := ∃ c : Cell, Arr Z h a c .long ∧ c.slots = (bs.map Value.long).toArray ∧ bs.length < 2 ^ 31
theorem AI.lt {a : Addr} {ty : FieldType} {bs : List Int32} (A : AI Z h a ty bs) : a < h.size := by obtain ⟨c, A, -⟩ := A; exact A.lt
theorem AI.ext {a : Addr} {ty : FieldType} {bs : List Int32} (A : AI Z h a ty bs) (E : Ext h h') : AI Z h' a ty bs := by obtain ⟨c, A, r⟩ := A; exact ⟨c, A.ext E, r⟩
theorem AI.other {a b : Addr} {ty : FieldType} {bs : List Int32} {sl : Nat} {v : Value} (A : AI Z h b ty bs) (W : Wr h h' a sl v) (q : b ≠ a) : AI Z h' b ty bs := by obtain ⟨c, A, r⟩ := A; exact ⟨c, A.other W q, r⟩
theorem AI.keep {a : Addr} {ty : FieldType} {bs : List Int32} {ws : List Addr} (A : AI Z h a ty bs) (K : Keep h h' ws) (q : a ∉ ws) : AI Z h' a ty bs := by obtain ⟨c, A, r⟩ := A; exact ⟨c, ⟨K.2.1 a c A.1 q, A.2⟩, r⟩
theorem AJ.lt {a : Addr} {bs : List Int64} (A : AJ Z h a bs) : a < h.size := by obtain ⟨c, A, -⟩ := A; exact A.lt
theorem AJ.ext {a : Addr} {bs : List Int64} (A : AJ Z h a bs) (E : Ext h h') : AJ Z h' a bs := by obtain ⟨c, A, r⟩ := A; exact ⟨c, A.ext E, r⟩
theorem AJ.other {a b : Addr} {bs : List Int64} {sl : Nat} {v : Value} (A : AJ Z h b bs) (W : Wr h h' a sl v) (q : b ≠ a) : AJ Z h' b bs := by obtain ⟨c, A, r⟩ := A; exact ⟨c, A.other W q, r⟩
theorem AJ.keep {a : Addr} {bs : List Int64} {ws : List Addr} (A : AJ Z h a bs) (K : Keep h h' ws) (q : a ∉ ws) : AJ Z h' a bs := by obtain ⟨c, A, r⟩ := A; exact ⟨c, ⟨K.2.1 a c A.1 q, A.2⟩, r⟩
theorem own_inI {a : Addr} {c : Cell} {bs : List Int32} {j : Int32} {i : Nat} (S : c.slots = (bs.map Value.int).toArray) (h0 : ¬ j < 0) (hj : j.toNatClampNeg = i) (hi : i < bs.length) : ¬ (j < 0 ∨ c.slots.size ≤ j.toNatClampNeg) := by
  rw [S]; simp [h0, hj]; omega
theorem own_inJ {a : Addr} {c : Cell} {bs : List Int64} {j : Int32} {i : Nat} (S : c.slots = (bs.map Value.long).toArray) (h0 : ¬ j < 0) (hj : j.toNatClampNeg = i) (hi : i < bs.length) : ¬ (j < 0 ∨ c.slots.size ≤ j.toNatClampNeg) := by
  rw [S]; simp [h0, hj]; omega
theorem own_setI {c : Cell} {bs : List Int32} {i : Nat} {x : Int32} (S : c.slots = (bs.map Value.int).toArray) : (c.setSlot i (.int x)).slots = ((bs.set i x).map Value.int).toArray := by
  simp [Cell.setSlot, S, List.map_set]
theorem own_setJ {c : Cell} {bs : List Int64} {i : Nat} {x : Int64} (S : c.slots = (bs.map Value.long).toArray) : (c.setSlot i (.long x)).slots = ((bs.set i x).map Value.long).toArray := by
  simp [Cell.setSlot, S, List.map_set]
theorem g_bastore (pc' : Nat) (X : Stand p l e R s m args below meth c T locs cells slots) (hx : p.tables.exec = Jvm.exec) (hZ : Z.Warmed39 s.vm) (eT : T.heap = h) {a : Addr} {bs : List Int32} (A : AI Z h a .byte bs) {j x : Int32} (i : Nat) (h0 : ¬ j < 0) (hj : j.toNatClampNeg = i) (hi : i < bs.length) {z : Int32} (hz : x.toInt8.toInt32 = z) (hd : decode c.code pc = .ok (.bastore, 1)) (hp : pc + 1 = pc') (H : ∀ T' h', Stand p l e R s m args below meth c T' (locs ++ [⟨a, i⟩]) cells slots → T'.heap = h' → Wr h h' a i (.int z) → AI Z h' a .byte (bs.set i z) → Go p e below s k n Q T' (mkF m pc' Ls st)) : Go p e below s k n Q T (mkF m pc Ls (.int x :: .int j :: .ref a :: st)) := by
  subst hp hz hj
  obtain ⟨cl, A, S, hl⟩ := A
  obtain ⟨T', h', X', e', W, q⟩ := stB X hx hZ eT A (own_inI (a := a) S h0 rfl hi) (g := mkF m pc Ls (.int x :: .int j :: .ref a :: st)) rfl rfl hd
  exact (H T' h' X' e' W ⟨_, A.same W, own_setI S, by simpa using hl⟩).via q
theorem g_iastore (pc' : Nat) (X : Stand p l e R s m args below meth c T locs cells slots) (hx : p.tables.exec = Jvm.exec) (hZ : Z.Warmed39 s.vm) (eT : T.heap = h) {a : Addr} {bs : List Int32} (A : AI Z h a .int bs) {j x : Int32} (i : Nat) (h0 : ¬ j < 0) (hj : j.toNatClampNeg = i) (hi : i < bs.length) {z : Int32} (hz : x = z) (hd : decode c.code pc = .ok (.iastore, 1)) (hp : pc + 1 = pc') (H : ∀ T' h', Stand p l e R s m args below meth c T' (locs ++ [⟨a, i⟩]) cells slots → T'.heap = h' → Wr h h' a i (.int z) → AI Z h' a .int (bs.set i z) → Go p e below s k n Q T' (mkF m pc' Ls st)) : Go p e below s k n Q T (mkF m pc Ls (.int x :: .int j :: .ref a :: st)) := by
  subst hp hz hj
  obtain ⟨cl, A, S, hl⟩ := A
  obtain ⟨T', h', X', e', W, q⟩ := stI X hx hZ eT A (own_inI (a := a) S h0 rfl hi) (g := mkF m pc Ls (.int x :: .int j :: .ref a :: st)) rfl rfl hd
  exact (H T' h' X' e' W ⟨_, A.same W, own_setI S, by simpa using hl⟩).via q
theorem g_castore (pc' : Nat) (X : Stand p l e R s m args below meth c T locs cells slots) (hx : p.tables.exec = Jvm.exec) (hZ : Z.Warmed39 s.vm) (eT : T.heap = h) {a : Addr} {bs : List Int32} (A : AI Z h a .char bs) {j x : Int32} (i : Nat) (h0 : ¬ j < 0) (hj : j.toNatClampNeg = i) (hi : i < bs.length) {z : Int32} (hz : x.toUInt32.toUInt16.toUInt32.toInt32 = z) (hd : decode c.code pc = .ok (.castore, 1)) (hp : pc + 1 = pc') (H : ∀ T' h', Stand p l e R s m args below meth c T' (locs ++ [⟨a, i⟩]) cells slots → T'.heap = h' → Wr h h' a i (.int z) → AI Z h' a .char (bs.set i z) → Go p e below s k n Q T' (mkF m pc' Ls st)) : Go p e below s k n Q T (mkF m pc Ls (.int x :: .int j :: .ref a :: st)) := by
  subst hp hz hj
  obtain ⟨cl, A, S, hl⟩ := A
  obtain ⟨T', h', X', e', W, q⟩ := stC X hx hZ eT A (own_inI (a := a) S h0 rfl hi) (g := mkF m pc Ls (.int x :: .int j :: .ref a :: st)) rfl rfl hd
  exact (H T' h' X' e' W ⟨_, A.same W, own_setI S, by simpa using hl⟩).via q
theorem g_sastore (pc' : Nat) (X : Stand p l e R s m args below meth c T locs cells slots) (hx : p.tables.exec = Jvm.exec) (hZ : Z.Warmed39 s.vm) (eT : T.heap = h) {a : Addr} {bs : List Int32} (A : AI Z h a .short bs) {j x : Int32} (i : Nat) (h0 : ¬ j < 0) (hj : j.toNatClampNeg = i) (hi : i < bs.length) {z : Int32} (hz : x.toInt16.toInt32 = z) (hd : decode c.code pc = .ok (.sastore, 1)) (hp : pc + 1 = pc') (H : ∀ T' h', Stand p l e R s m args below meth c T' (locs ++ [⟨a, i⟩]) cells slots → T'.heap = h' → Wr h h' a i (.int z) → AI Z h' a .short (bs.set i z) → Go p e below s k n Q T' (mkF m pc' Ls st)) : Go p e below s k n Q T (mkF m pc Ls (.int x :: .int j :: .ref a :: st)) := by
  subst hp hz hj
  obtain ⟨cl, A, S, hl⟩ := A
  obtain ⟨T', h', X', e', W, q⟩ := stS X hx hZ eT A (own_inI (a := a) S h0 rfl hi) (g := mkF m pc Ls (.int x :: .int j :: .ref a :: st)) rfl rfl hd
  exact (H T' h' X' e' W ⟨_, A.same W, own_setI S, by simpa using hl⟩).via q
theorem g_lastore (pc' : Nat) (X : Stand p l e R s m args below meth c T locs cells slots) (hx : p.tables.exec = Jvm.exec) (hZ : Z.Warmed39 s.vm) (eT : T.heap = h) {a : Addr} {bs : List Int64} (A : AJ Z h a bs) {j : Int32} {x : Int64} (i : Nat) (h0 : ¬ j < 0) (hj : j.toNatClampNeg = i) (hi : i < bs.length) (hd : decode c.code pc = .ok (.lastore, 1)) (hp : pc + 1 = pc') (H : ∀ T' h', Stand p l e R s m args below meth c T' (locs ++ [⟨a, i⟩]) cells slots → T'.heap = h' → Wr h h' a i (.long x) → AJ Z h' a (bs.set i x) → Go p e below s k n Q T' (mkF m pc' Ls st)) : Go p e below s k n Q T (mkF m pc Ls (.long x :: .int j :: .ref a :: st)) := by
  subst hp hj
  obtain ⟨cl, A, S, hl⟩ := A
  obtain ⟨T', h', X', e', W, q⟩ := stJ X hx hZ eT A (own_inJ (a := a) S h0 rfl hi) (g := mkF m pc Ls (.long x :: .int j :: .ref a :: st)) rfl rfl hd
  exact (H T' h' X' e' W ⟨_, A.same W, own_setJ S, by simpa using hl⟩).via q
theorem g_baload (pc' : Nat) (X : Stand p l e R s m args below meth c T locs cells slots) (hx : p.tables.exec = Jvm.exec) (hZ : Z.Warmed39 s.vm) (eT : T.heap = h) {a : Addr} {bs : List Int32} (A : AI Z h a .byte bs) {j z : Int32} (i : Nat) (h0 : ¬ j < 0) (hj : j.toNatClampNeg = i) (hv : bs[i]? = some z) (hd : decode c.code pc = .ok (.baload, 1)) (hp : pc + 1 = pc') (H : Go p e below s k n Q T (mkF m pc' Ls (.int z :: st))) : Go p e below s k n Q T (mkF m pc Ls (.int j :: .ref a :: st)) := by
  subst hp hj
  obtain ⟨cl, A, S, hl⟩ := A
  exact H.via fun t q => X.baloadBytes hx (by rw [eT]; exact A.1) (State.isArrayOf_alike hZ.alike A.2.1) A.2.2 (own_inI (a := a) S h0 rfl (List.getElem?_eq_some_iff.mp hv).1) (v := .int z) (by rw [S]; simp [hv]) (g := mkF m pc Ls (.int j :: .ref a :: st)) rfl rfl hd t q
theorem g_iaload (pc' : Nat) (X : Stand p l e R s m args below meth c T locs cells slots) (hx : p.tables.exec = Jvm.exec) (hZ : Z.Warmed39 s.vm) (eT : T.heap = h) {a : Addr} {bs : List Int32} (A : AI Z h a .int bs) {j z : Int32} (i : Nat) (h0 : ¬ j < 0) (hj : j.toNatClampNeg = i) (hv : bs[i]? = some z) (hd : decode c.code pc = .ok (.iaload, 1)) (hp : pc + 1 = pc') (H : Go p e below s k n Q T (mkF m pc' Ls (.int z :: st))) : Go p e below s k n Q T (mkF m pc Ls (.int j :: .ref a :: st)) := by
  subst hp hj
  obtain ⟨cl, A, S, hl⟩ := A
  exact H.via fun t q => X.iaload hx (by rw [eT]; exact A.1) (State.isArrayOf_alike hZ.alike A.2.1) A.2.2 (own_inI (a := a) S h0 rfl (List.getElem?_eq_some_iff.mp hv).1) (v := .int z) (by rw [S]; simp [hv]) (g := mkF m pc Ls (.int j :: .ref a :: st)) rfl rfl hd t q
theorem g_caload (pc' : Nat) (X : Stand p l e R s m args below meth c T locs cells slots) (hx : p.tables.exec = Jvm.exec) (hZ : Z.Warmed39 s.vm) (eT : T.heap = h) {a : Addr} {bs : List Int32} (A : AI Z h a .char bs) {j z : Int32} (i : Nat) (h0 : ¬ j < 0) (hj : j.toNatClampNeg = i) (hv : bs[i]? = some z) (hd : decode c.code pc = .ok (.caload, 1)) (hp : pc + 1 = pc') (H : Go p e below s k n Q T (mkF m pc' Ls (.int z :: st))) : Go p e below s k n Q T (mkF m pc Ls (.int j :: .ref a :: st)) := by
  subst hp hj
  obtain ⟨cl, A, S, hl⟩ := A
  exact H.via fun t q => X.caload hx (by rw [eT]; exact A.1) (State.isArrayOf_alike hZ.alike A.2.1) A.2.2 (own_inI (a := a) S h0 rfl (List.getElem?_eq_some_iff.mp hv).1) (v := .int z) (by rw [S]; simp [hv]) (g := mkF m pc Ls (.int j :: .ref a :: st)) rfl rfl hd t q
theorem g_saload (pc' : Nat) (X : Stand p l e R s m args below meth c T locs cells slots) (hx : p.tables.exec = Jvm.exec) (hZ : Z.Warmed39 s.vm) (eT : T.heap = h) {a : Addr} {bs : List Int32} (A : AI Z h a .short bs) {j z : Int32} (i : Nat) (h0 : ¬ j < 0) (hj : j.toNatClampNeg = i) (hv : bs[i]? = some z) (hd : decode c.code pc = .ok (.saload, 1)) (hp : pc + 1 = pc') (H : Go p e below s k n Q T (mkF m pc' Ls (.int z :: st))) : Go p e below s k n Q T (mkF m pc Ls (.int j :: .ref a :: st)) := by
  subst hp hj
  obtain ⟨cl, A, S, hl⟩ := A
  exact H.via fun t q => X.saload hx (by rw [eT]; exact A.1) (State.isArrayOf_alike hZ.alike A.2.1) A.2.2 (own_inI (a := a) S h0 rfl (List.getElem?_eq_some_iff.mp hv).1) (v := .int z) (by rw [S]; simp [hv]) (g := mkF m pc Ls (.int j :: .ref a :: st)) rfl rfl hd t q
theorem g_laload (pc' : Nat) (X : Stand p l e R s m args below meth c T locs cells slots) (hx : p.tables.exec = Jvm.exec) (hZ : Z.Warmed39 s.vm) (eT : T.heap = h) {a : Addr} {bs : List Int64} (A : AJ Z h a bs) {j : Int32} {z : Int64} (i : Nat) (h0 : ¬ j < 0) (hj : j.toNatClampNeg = i) (hv : bs[i]? = some z) (hd : decode c.code pc = .ok (.laload, 1)) (hp : pc + 1 = pc') (H : Go p e below s k n Q T (mkF m pc' Ls (.long z :: st))) : Go p e below s k n Q T (mkF m pc Ls (.int j :: .ref a :: st)) := by
  subst hp hj
  obtain ⟨cl, A, S, hl⟩ := A
  exact H.via fun t q => X.laload hx (by rw [eT]; exact A.1) (State.isArrayOf_alike hZ.alike A.2.1) A.2.2 (own_inJ (a := a) S h0 rfl (List.getElem?_eq_some_iff.mp hv).1) (v := .long z) (by rw [S]; simp [hv]) (g := mkF m pc Ls (.int j :: .ref a :: st)) rfl rfl hd t q
theorem g_arraylengthI (pc' : Nat) (X : Stand p l e R s m args below meth c T locs cells slots) (hx : p.tables.exec = Jvm.exec) (hZ : Z.Warmed39 s.vm) (eT : T.heap = h) {a : Addr} {ty : FieldType} {bs : List Int32} (A : AI Z h a ty bs) {z : Int32} (hz : Int32.ofNat bs.length = z) (hd : decode c.code pc = .ok (.arraylength, 1)) (hp : pc + 1 = pc') (H : Go p e below s k n Q T (mkF m pc' Ls (.int z :: st))) : Go p e below s k n Q T (mkF m pc Ls (.ref a :: st)) := by
  subst hp hz
  obtain ⟨cl, A, S, hl⟩ := A
  have q0 : cl.slots.size.toInt32 = Int32.ofNat bs.length := by rw [S]; simp
  exact H.via fun t q => X.arraylength hx (by rw [eT]; exact A.1) (State.isArrayOf_alike hZ.alike A.2.1) (g := mkF m pc Ls (.ref a :: st)) rfl rfl hd t (by rw [q0]; exact q)
theorem g_arraylengthJ (pc' : Nat) (X : Stand p l e R s m args below meth c T locs cells slots) (hx : p.tables.exec = Jvm.exec) (hZ : Z.Warmed39 s.vm) (eT : T.heap = h) {a : Addr} {bs : List Int64} (A : AJ Z h a bs) {z : Int32} (hz : Int32.ofNat bs.length = z) (hd : decode c.code pc = .ok (.arraylength, 1)) (hp : pc + 1 = pc') (H : Go p e below s k n Q T (mkF m pc' Ls (.int z :: st))) : Go p e below s k n Q T (mkF m pc Ls (.ref a :: st)) := by
  subst hp hz
  obtain ⟨cl, A, S, hl⟩ := A
  have q0 : cl.slots.size.toInt32 = Int32.ofNat bs.length := by rw [S]; simp
  exact H.via fun t q => X.arraylength hx (by rw [eT]; exact A.1) (State.isArrayOf_alike hZ.alike A.2.1) (g := mkF m pc Ls (.ref a :: st)) rfl rfl hd t (by rw [q0]; exact q)
theorem g_new_byte (pc' : Nat) (X : Stand p l e R s m args below meth c T locs cells slots) (hx : p.tables.exec = Jvm.exec) (hZ : Z.Warmed39 s.vm) (w : (Cond.arrayClass .byte).before a0 Z = true) (eT : T.heap = h) {nn : Int32} (len cap : Nat) (hn0 : ¬ nn < 0) (hlen : nn.toNatClampNeg = len) (hcap : len ≤ cap) (hb : cap * 8 ≤ 536870912) (hc : cells + 1 ≤ R.cells) (hl : slots + cap ≤ R.slots) (hd : decode c.code pc = .ok (.newarray .byte, 2)) (hp : pc + 2 = pc') (H : ∀ T' h' b, Stand p l e R s m args below meth c T' locs (cells + 1) (slots + cap) → T'.heap = h' → Ext h h' → b = h.size → AI Z h' b .byte (List.replicate len (0 : Int32)) → Go p e below s k n Q T' (mkF m pc' Ls (.ref b :: st))) : Go p e below s k n Q T (mkF m pc Ls (.int nn :: st)) := by
  subst hp hlen
  obtain ⟨T', h', cA, X', e', E, A, q⟩ := newP X hx hZ (aty := .byte) w eT (g := mkF m pc Ls (.int nn :: st)) rfl hd rfl hn0 hcap hb hc hl
  exact (H T' h' _ X' e' E rfl ⟨_, A, by simp [newA, defaultValue, newarray.typeOf], by simpa using (back32 hn0).2⟩).via q
theorem g_new_int (pc' : Nat) (X : Stand p l e R s m args below meth c T locs cells slots) (hx : p.tables.exec = Jvm.exec) (hZ : Z.Warmed39 s.vm) (w : (Cond.arrayClass .int).before a0 Z = true) (eT : T.heap = h) {nn : Int32} (len cap : Nat) (hn0 : ¬ nn < 0) (hlen : nn.toNatClampNeg = len) (hcap : len ≤ cap) (hb : cap * 8 ≤ 536870912) (hc : cells + 1 ≤ R.cells) (hl : slots + cap ≤ R.slots) (hd : decode c.code pc = .ok (.newarray .int, 2)) (hp : pc + 2 = pc') (H : ∀ T' h' b, Stand p l e R s m args below meth c T' locs (cells + 1) (slots + cap) → T'.heap = h' → Ext h h' → b = h.size → AI Z h' b .int (List.replicate len (0 : Int32)) → Go p e below s k n Q T' (mkF m pc' Ls (.ref b :: st))) : Go p e below s k n Q T (mkF m pc Ls (.int nn :: st)) := by
  subst hp hlen
  obtain ⟨T', h', cA, X', e', E, A, q⟩ := newP X hx hZ (aty := .int) w eT (g := mkF m pc Ls (.int nn :: st)) rfl hd rfl hn0 hcap hb hc hl
  exact (H T' h' _ X' e' E rfl ⟨_, A, by simp [newA, defaultValue, newarray.typeOf], by simpa using (back32 hn0).2⟩).via q
theorem g_new_long (pc' : Nat) (X : Stand p l e R s m args below meth c T locs cells slots) (hx : p.tables.exec = Jvm.exec) (hZ : Z.Warmed39 s.vm) (w : (Cond.arrayClass .long).before a0 Z = true) (eT : T.heap = h) {nn : Int32} (len cap : Nat) (hn0 : ¬ nn < 0) (hlen : nn.toNatClampNeg = len) (hcap : len ≤ cap) (hb : cap * 8 ≤ 536870912) (hc : cells + 1 ≤ R.cells) (hl : slots + cap ≤ R.slots) (hd : decode c.code pc = .ok (.newarray .long, 2)) (hp : pc + 2 = pc') (H : ∀ T' h' b, Stand p l e R s m args below meth c T' locs (cells + 1) (slots + cap) → T'.heap = h' → Ext h h' → b = h.size → AJ Z h' b (List.replicate len (0 : Int64)) → Go p e below s k n Q T' (mkF m pc' Ls (.ref b :: st))) : Go p e below s k n Q T (mkF m pc Ls (.int nn :: st)) := by
  subst hp hlen
  obtain ⟨T', h', cA, X', e', E, A, q⟩ := newP X hx hZ (aty := .long) w eT (g := mkF m pc Ls (.int nn :: st)) rfl hd rfl hn0 hcap hb hc hl
  exact (H T' h' _ X' e' E rfl ⟨_, A, by simp [newA, defaultValue, newarray.typeOf], by simpa using (back32 hn0).2⟩).via q
theorem g_dup_x2 (pc' : Nat) (X : Stand p l e R s m args below meth c T locs cells slots) (hx : p.tables.exec = Jvm.exec) {v w u : Value} (hd : decode c.code pc = .ok (.dup_x2, 1)) (hp : pc + 1 = pc') (hv : v.category = 1) (hw : w.category = 1) (hu : u.category = 1) (H : Go p e below s k n Q T (mkF m pc' Ls (v :: w :: u :: v :: st))) : Go p e below s k n Q T (mkF m pc Ls (v :: w :: u :: st)) := by
  subst hp
  refine H.via fun t q => ?_
  show Steps p.tables e below (T.setTop { method := m, pc := pc, locals := Ls, stack := v :: w :: u :: st, locked := none }) _
  jvm_step X.here [X.here.top, hx, hd, hv, hw, hu]
  exact q
theorem AI.arv {a : Addr} {bs : List Int32} (A : AI Z h a .int bs) : ∃ k, Arv Z h a k .int (Int32.ofNat bs.length) (bs.map Value.int) (.int 0) := by
  obtain ⟨c, A, S, hl⟩ := A
  have hn : (Int32.ofNat bs.length).toInt = bs.length := Int32.toInt_ofNat_small hl
  refine ⟨c.cls, c, A, rfl, ?_, ?_, ?_, ?_⟩
  · rw [S]; simp only [Int32.toNatClampNeg, hn]; simp
  · rw [Int32.lt_iff_toInt_lt, hn]; simp only [Int32.reduceToInt]; omega
  · intro i hi
    rw [S] at hi ⊢
    simp at hi
    simp [List.getD, hi]
  · intro i hi
    rw [S] at hi
    simp at hi
    simp [List.getD, hi, fits]
theorem AI.of_arv {a : Addr} {kk : ClassId} {z : Int32} {bs : List Int32} (A : Arv Z h a kk .int z (bs.map Value.int) (.int 0)) (hz : z.toNatClampNeg = bs.length) : AI Z h a .int bs := by
  obtain ⟨c, A, q1, S, q3, H, G⟩ := A
  refine ⟨c, A, ?_, ?_⟩
  · apply Array.ext_getElem?
    intro i
    by_cases hi : i < c.slots.size
    · rw [H i hi]
      have hi' : i < bs.length := by rw [← hz, ← S]; exact hi
      simp [List.getD, hi']
    · rw [Array.getElem?_eq_none (Nat.le_of_not_lt hi), Array.getElem?_eq_none]
      simp
      omega
  · rw [← hz]; exact (back32 q3).2
theorem own_copied (A : List Int32) (nn : Nat) (h : nn ≤ A.length) (B : List Int32) (hB : B.length = nn) : ((B.map Value.int).take 0 ++ ((List.range nn).map fun i => (A.map Value.int).getD (0 + i) (.int 0)) ++ (B.map Value.int).drop (0 + nn)) = (A.take nn).map Value.int := by
  apply List.ext_getElem?
  intro i
  have e : (B.map Value.int).drop (0 + nn) = [] := by rw [Nat.zero_add]; apply List.drop_eq_nil_of_le; simp [hB]
  rw [e]
  simp only [List.take_zero, List.nil_append, List.append_nil, Nat.zero_add]
  by_cases c : i < nn
  · have d : i < A.length := by omega
    simp [c, d, List.getD]
  · rw [List.getElem?_eq_none (by simp; omega), List.getElem?_eq_none (by simp; omega)]
/-- System.arraycopy(a, 0, b, 0, the length of b) of ints -/
theorem g_copy (pc' : Nat) (X : Stand p l e R s m args below meth c T locs cells slots) (hx : p.tables.exec = Jvm.exec) (hZ : Z.Warmed39 s.vm) {own : String} {index : Nat} (hown : s.vm.findClass own = some m.cls) (w1 : (Cond.methodLink own index Jvm.Stand.acN).before a0 Z = true) (w2 : (Cond.native Jvm.Stand.acN).before a0 Z = true) (w3 : (Cond.static Jvm.Stand.acN).before a0 Z = true) (w4 : (Cond.initialized "java/lang/System").before a0 Z = true) (eT : T.heap = h) {a b : Addr} {A B : List Int32} (FA : AI Z h a .int A) (FB : AI Z h b .int B) {nn : Int32} (hn0 : ¬ nn < 0) (hnB : nn.toNatClampNeg = B.length) (hle : B.length ≤ A.length) {n0 : Nat} (N : Fr n0 locs) (ge : n0 ≤ b) (hsize : Ls.size = c.maxLocals) (hd : decode c.code pc = .ok (.invokestatic index, 3)) (hf : 1 ≤ R.frames) (W : Nat) (hW : (st.map fun v => v.category).sum ≤ W) (hlo : W + (nativeFrameWords "java/lang/System" "arraycopy" 5 + 11) ≤ R.locals) (hp : pc + 3 = pc') (H : ∀ T' h' L, Stand p l e R s m args below meth c T' L cells slots → T'.heap = h' → Fr n0 L → Keep h h' [b] → AI Z h' b .int (A.take B.length) → Go p e below s k n Q T' (mkF m pc' Ls st)) : Go p e below s k n Q T (mkF m pc Ls (.int nn :: .int 0 :: .ref b :: .int 0 :: .ref a :: st)) := by
  subst hp
  obtain ⟨ka, VA⟩ := FA.arv
  obtain ⟨kb, VB⟩ := FB.arv
  have lA : (Int32.ofNat A.length).toNatClampNeg = A.length := by
    obtain ⟨_, _, _, q⟩ := FA
    simp only [Int32.toNatClampNeg]; rw [Int32.toInt_ofNat_small q]; rfl
  have lB : (Int32.ofNat B.length).toNatClampNeg = B.length := by
    obtain ⟨_, _, _, q⟩ := FB
    simp only [Int32.toNatClampNeg]; rw [Int32.toInt_ofNat_small q]; rfl
  obtain ⟨T', h', L, X', e', N', K, V, q⟩ := cpA X hx hZ hown w1 w2 w3 w4 eT VA VB (sp := 0) (dp := 0) (nn := nn) (us := (List.range B.length).map fun i => (A.map Value.int).getD (0 + i) (.int 0)) (Or.inl ⟨rfl, rfl⟩) (by decide) (by decide) hn0 (by rw [lA, hnB]; show 0 + _ ≤ _; omega) (by rw [lB, hnB]; show 0 + _ ≤ _; omega) (by rw [hnB]; rfl) (by rw [hnB]; show 0 + _ ≤ _; simp) N ge (g := mkF m pc Ls (.int nn :: .int 0 :: .ref b :: .int 0 :: .ref a :: st)) rfl hsize (rest := st) rfl hd hf (W := W) (by show 2 * 0 + _ ≤ _; omega) hlo
  rw [hnB] at V
  have V' : Arv Z h' b kb .int (Int32.ofNat B.length) ((A.take B.length).map Value.int) (.int 0) := by
    rw [← own_copied A B.length hle B rfl]; exact V
  exact (H T' h' L X' e' N' K (AI.of_arv V' (by rw [lB, List.length_take]; omega))).via q
end OwnKit
theorem own_lrem (x y : Int64) (d : Int) (hy : y.toInt = d) : (0 ≤ x.toInt → (x % y).toInt = x.toInt % d) ∧ (x.toInt < 0 → (x % y).toInt = -((-x.toInt) % d)) := by
  rw [Int64.toInt_mod, hy]; exact tr _ _
theorem own_lremV (x y : Int64) : 0 ≤ x.toInt → 0 < y.toInt → 0 ≤ (x % y).toInt ∧ (x % y).toInt < y.toInt ∧ (x % y).toInt ≤ x.toInt := by
  intro h1 h2
  rw [Int64.toInt_mod, Int.tmod_eq_emod_of_nonneg h1]
  have a := Int.emod_nonneg x.toInt (by omega : y.toInt ≠ 0)
  have b := Int.emod_lt_of_pos x.toInt h2
  refine ⟨a, b, ?_⟩
  by_cases c : x.toInt < y.toInt
  · rw [Int.emod_eq_of_lt h1 c]; exact Int.le_refl _
  · omega
theorem own_prod {a b A B : Int} (h1 : 0 ≤ a) (h2 : a ≤ A) (h3 : 0 ≤ b) (h4 : b ≤ B) : 0 ≤ a * b ∧ a * b ≤ A * B :=
  ⟨Int.mul_nonneg h1 h3, Int.mul_le_mul h2 h4 h3 (Int.le_trans h1 h2)⟩
theorem own_get {bs : List Int32} {i : Nat} (h : i < bs.length) : bs[i]? = some (bs.getD i 0) := by
  rw [List.getD_eq_getElem?_getD, List.getElem?_eq_getElem h]; rfl
theorem own_getJ {bs : List Int64} {i : Nat} (h : i < bs.length) : bs[i]? = some (bs.getD i 0) := by
  rw [List.getD_eq_getElem?_getD, List.getElem?_eq_getElem h]; rfl
theorem own_nat0 {i : Int32} (h : 0 ≤ i.toInt) : ¬ i < 0 := by
  rw [Int32.lt_iff_toInt_lt]; simp only [Int32.reduceToInt]; omega
theorem own_inc {i : Int32} (h : 0 ≤ i.toInt ∧ i.toInt ≤ 1000) : (i + (1 : Int32)).toInt = i.toInt + 1 := by
  have a := c_iadd i (1 : Int32)
  have b := rng32 (i + (1 : Int32))
  simp only [Int32.reduceToInt] at a
  omega
theorem own_dec1 {i : Int32} (h : 1 ≤ i.toInt ∧ i.toInt ≤ 1000) : (i - (1 : Int32)).toInt = i.toInt - 1 := by
  have a := c_isub i (1 : Int32)
  have b := rng32 (i - (1 : Int32))
  simp only [Int32.reduceToInt] at a
  omega

theorem d5_0 : decode jdk_29_method_65_code 0 = .ok (.iload_n 0, 1) := by decide +kernel
theorem d5_1 : decode jdk_29_method_65_code 1 = .ok (.iload_n 1, 1) := by decide +kernel
theorem d5_2 : decode jdk_29_method_65_code 2 = .ok (.if_icmp .lt 7, 3) := by decide +kernel
theorem d5_5 : decode jdk_29_method_65_code 5 = .ok (.iload_n 0, 1) := by decide +kernel
theorem d5_6 : decode jdk_29_method_65_code 6 = .ok (.goto 4, 3) := by decide +kernel
theorem d5_9 : decode jdk_29_method_65_code 9 = .ok (.iload_n 1, 1) := by decide +kernel
theorem d5_10 : decode jdk_29_method_65_code 10 = .ok (.ireturn, 1) := by decide +kernel
def Rel5 (p1 : Int32) (p2 : Int32) (r : Int32) : Prop := (p1 < p2 ∧ r = p2) ∨ (¬ (p1 < p2) ∧ r = p1)
def Q5 (Z : State) (p1 : Int32) (p2 : Int32) (h0 : Heap) (n0 : Nat) (v : Option Value) (h : Heap) (L : List Loc) : Prop := ∃ r : Int32, v = some (.int r) ∧ Rel5 p1 p2 r ∧ Fr n0 L ∧ h = h0
theorem ef_rm5 (m : MethodId) (p1 : Int32) (p2 : Int32) : entryFrame m #[(.int p1), (.int p2)] 2 = mkF m 0 #[.val (.int p1), .val (.int p2)] [] := by first | (simp [entryFrame, mkF, argsToLocals, Value.category]; done) | rfl
set_option maxRecDepth 65536 in
set_option maxHeartbeats 40000000 in
theorem rm5 (l : Launch) (Z : State) (a0 : Array Value) (hw : ∀ d ∈ tables_1, d.before a0 Z = true) (ws : List Jvm.Cond) (p1 : Int32) (p2 : Int32) (h0 : Heap) (n0 : Nat) (Z0 : n0 ≤ h0.size)  :
    MetFree l (⟨"java/lang/Math", "max", "(II)I"⟩ : MethodName) (head1 (Jvm.Cond.code (⟨"java/lang/Math", "max", "(II)I"⟩ : MethodName) jdk_29_method_65_code 2 (some .int) :: ws) ({ frames := 0, cells := 0, slots := 0, locals := 0 } : Room)) (fun a U => a = #[(.int p1), (.int p2)] ∧ Z.Warmed39 U.vm ∧ U.heap = h0) (fun _ _ _ _ _ => True) (fun _ U o U' => ∃ v L, o = .returned v ∧ (Q5 Z p1 p2 h0 n0) v U'.heap L ∧ FrameEnd U o U' L ({ frames := 0, cells := 0, slots := 0, locals := 0 } : Room).cells ({ frames := 0, cells := 0, slots := 0, locals := 0 } : Room).slots) := by
  refine MetFree.of_bodySF (Jvm.Free.JP.mathPlain rfl (by decide +kernel)) hisR ?_
  intro p e s m args below meth c s₁ Bd hml0 hP hK
  obtain ⟨rfl, hZ, hh⟩ := hP
  have hx := Bd.exec
  have hby := Bd.bytes
  have hml : c.maxLocals = 2 := hml0
  have hown : s.vm.findClass "java/lang/Math" = some m.cls := findClass_of_methodNamed Bd.named
  have hnm := (name_of_methodNamed Bd.named Bd.method).1
  have hlk : meth.locks = false := BodyLoose.notSynchronized Bd
  have X0 : Stand p l e ({ frames := 0, cells := 0, slots := 0, locals := 0 } : Room) s m #[(.int p1), (.int p2)] below meth c s₁ [] 0 0 := Stand.of_body Bd
  have e0 : s₁.heap = h0 := by rw [← hh, Bd.state]; rfl
  have N0 := Fr.nil n0
  show Go p e below s ({ frames := 0, cells := 0, slots := 0, locals := 0 } : Room).cells ({ frames := 0, cells := 0, slots := 0, locals := 0 } : Room).slots (Q5 Z p1 p2 h0 n0) s₁ (entryFrame m #[(.int p1), (.int p2)] 2)
  rw [ef_rm5 m p1 p2]
  refine g_iloadN 1 X0 hx (hb hby d5_0) rfl (v := p1) rfl ?_
  refine g_iloadN 2 X0 hx (hb hby d5_1) rfl (v := p2) rfl ?_
  by_cases hc2_0 : p1 < p2
  ·
    refine g_icmpYes 9 X0 hx (hb hby d5_2)  (tlt hc2_0).1 (by decide) (by decide) ?_
    refine g_iloadN 10 X0 hx (hb hby d5_9) rfl (v := p2) rfl ?_
    exact g_retI X0 hx Bd.returns hlk (hb hby d5_10) (by decide) (by decide) ⟨p2, rfl, (Or.inl ⟨hc2_0, rfl⟩), N0, e0⟩
  ·
    refine g_icmpNo 5 X0 hx (hb hby d5_2)  (flt hc2_0).1 rfl ?_
    refine g_iloadN 6 X0 hx (hb hby d5_5) rfl (v := p1) rfl ?_
    refine g_goto 10 X0 hx (hb hby d5_6) (by decide) (by decide) ?_
    exact g_retI X0 hx Bd.returns hlk (hb hby d5_10) (by decide) (by decide) ⟨p1, rfl, (Or.inr ⟨hc2_0, rfl⟩), N0, e0⟩
theorem own_ushrB (x : Int64) (q : Int32) (k : Nat) (hk : q.toBitVec.toNat % 64 = k) : ((x.toUInt64 >>> (q &&& 0x3f).toInt64.toUInt64).toInt64).toBitVec = x.toBitVec >>> k := by
  have h5 := (sm64 q k hk).2
  show x.toBitVec >>> ((q &&& 0x3f).toInt64.toBitVec % 64) = _
  apply BitVec.eq_of_toNat_eq
  rw [BitVec.ushiftRight_eq', BitVec.toNat_ushiftRight, BitVec.toNat_ushiftRight, BitVec.toNat_umod, (sm64 q k hk).1, BitVec.toNat_ofNat]
  congr 1
  show k % 2 ^ 64 % 64 = k
  omega
theorem own_shlB (x : Int64) (q : Int32) (k : Nat) (hk : q.toBitVec.toNat % 64 = k) : (x <<< (q &&& 0x3f).toInt64).toBitVec = x.toBitVec <<< k := by
  show x.toBitVec <<< ((q &&& 0x3f).toInt64.toBitVec.smod 64) = _
  rw [BitVec.shiftLeft_eq', (sm64 q k hk).1, smod64 k (sm64 q k hk).2]
theorem own_parN (p : Int32) (h : 0 ≤ p.toInt) : p.toBitVec.toNat = p.toInt.toNat := by
  have a := p.toBitVec.isLt
  have b : p.toInt = p.toBitVec.toInt := rfl
  rw [BitVec.toInt_eq_toNat_cond] at b
  split at b <;> omega
theorem own_z {x : Int32} (a : Int32) (h : x.toInt = a.toInt) : x = a := Int32.toInt_inj.mp h
theorem own_setD (L : List Int32) (q i : Nat) (v : Int32) (h : q < L.length) : (L.set q v).getD i 0 = if q = i then v else L.getD i 0 := by
  rw [List.getD_eq_getElem?_getD, List.getElem?_set, List.getD_eq_getElem?_getD]
  by_cases e : q = i
  · rw [if_pos e, if_pos e, if_pos (by omega)]; rfl
  · rw [if_neg e, if_neg e]
theorem own_add (x y : Int32) (a b : Nat) (ha : x.toInt = (a : Int)) (hb : y.toInt = (b : Int)) (h : a + b < 1000) : (x + y).toInt = ((a + b : Nat) : Int) := by
  have c := c_iadd x y
  have d := rng32 (x + y)
  rw [ha, hb] at c
  omega
def own_i (p : Prop) [Decidable p] : Nat := if p then 1 else 0
theorem own_i1 {p : Prop} [Decidable p] (h : p) : own_i p = 1 := if_pos h
theorem own_i0 {p : Prop} [Decidable p] (h : ¬ p) : own_i p = 0 := if_neg h
theorem own_ile (p : Prop) [Decidable p] : own_i p ≤ 1 := by unfold own_i; split <;> omega
def own_c (d0 d1 d2 j : Nat) : Nat := own_i (d0 < j) + own_i (d1 < j) + own_i (d2 < j)
def own_e (d0 d1 d2 j : Nat) : Nat := own_i (d0 + 1 = j) + own_i (d1 + 1 = j) + own_i (d2 + 1 = j)
theorem own_ii (d j : Nat) : own_i (d < j + 1) = own_i (d + 1 = j + 1) + own_i (d < j) := by
  unfold own_i; split <;> split <;> split <;> omega
theorem own_ce (d0 d1 d2 j : Nat) : own_c d0 d1 d2 (j + 1) = own_e d0 d1 d2 (j + 1) + own_c d0 d1 d2 j := by
  unfold own_c own_e; rw [own_ii d0, own_ii d1, own_ii d2]; omega
theorem own_cle (d0 d1 d2 j : Nat) : own_c d0 d1 d2 j ≤ 3 := by
  unfold own_c; have a := own_ile (d0 < j); have b := own_ile (d1 < j); have c := own_ile (d2 < j); omega
theorem own_ele (d0 d1 d2 j : Nat) : own_e d0 d1 d2 j ≤ 3 := by
  unfold own_e; have a := own_ile (d0 + 1 = j); have b := own_ile (d1 + 1 = j); have c := own_ile (d2 + 1 = j); omega
def own_up (L : List Int32) (i : Nat) : List Int32 := L.set i (L.getD i 0 + (1 : Int32))
def own_has (L : List Int32) (f : Nat → Nat) : Prop := L.length = 257 ∧ ∀ j, j < 257 → (L.getD j 0).toInt = ((f j : Nat) : Int)
theorem own_upS (L : List Int32) (f : Nat → Nat) (i : Nat) (hi : i < 257) (h : own_has L f) (hf : f i < 100) : own_has (own_up L i) (fun j => f j + own_i (i = j)) := by
  obtain ⟨h1, h2⟩ := h
  refine ⟨by unfold own_up; rw [List.length_set]; exact h1, fun j hj => ?_⟩
  unfold own_up
  show _ = ((f j + own_i (i = j) : Nat) : Int)
  rw [own_setD L i j _ (by omega)]
  by_cases e : i = j
  · rw [if_pos e, own_i1 e, e, own_add _ (1 : Int32) (f j) 1 (h2 j hj) (by decide) (by rw [← e]; omega)]
  · rw [if_neg e, own_i0 e, h2 j hj, Nat.add_zero]
theorem own_rep : own_has (List.replicate 257 (0 : Int32)) (fun _ => 0) := by
  refine ⟨List.length_replicate, fun j hj => ?_⟩
  rw [List.getD_eq_getElem?_getD, List.getElem?_replicate, if_pos hj]; rfl
def own_C (d0 d1 d2 : Nat) : List Int32 := own_up (own_up (own_up (List.replicate 257 (0 : Int32)) (d0 + 1)) (d1 + 1)) (d2 + 1)
theorem own_CS (d0 d1 d2 : Nat) (h0 : d0 < 256) (h1 : d1 < 256) (h2 : d2 < 256) : own_has (own_C d0 d1 d2) (own_e d0 d1 d2) := by
  have a := own_upS _ _ (d0 + 1) (by omega) own_rep (by decide)
  have b := own_upS _ _ (d1 + 1) (by omega) a (by have := own_ile (d0 + 1 = d1 + 1); omega)
  have c := own_upS _ _ (d2 + 1) (by omega) b (by have := own_ile (d0 + 1 = d2 + 1); have := own_ile (d1 + 1 = d2 + 1); omega)
  refine ⟨c.1, fun j hj => ?_⟩
  have q := c.2 j hj
  unfold own_C own_e
  rw [q]; simp
def own_pfx : Nat → Nat → List Int32 → List Int32
  | 0, _, L => L
  | k + 1, i, L => own_pfx k (i + 1) (L.set i (L.getD i 0 + L.getD (i - 1) 0))
theorem own_pfxS (d0 d1 d2 : Nat) : ∀ (k i : Nat) (L : List Int32), L.length = 257 → i + k = 257 → 1 ≤ i → (∀ j, j < i → (L.getD j 0).toInt = ((own_c d0 d1 d2 j : Nat) : Int)) → (∀ j, i ≤ j → j < 257 → (L.getD j 0).toInt = ((own_e d0 d1 d2 j : Nat) : Int)) → own_has (own_pfx k i L) (own_c d0 d1 d2)
  | 0, i, L, h1, h2, _, h4, _ => ⟨h1, fun j hj => h4 j (by omega)⟩
  | k + 1, i, L, h1, h2, h3, h4, h5 => by
    rw [own_pfx]
    refine own_pfxS d0 d1 d2 k (i + 1) _ (by rw [List.length_set]; exact h1) (by omega) (by omega) ?_ ?_
    · intro j hj
      rw [own_setD L i j _ (by omega)]
      by_cases e : i = j
      · rw [if_pos e, ← e]
        have a := h5 i (by omega) (by omega)
        have b := h4 (i - 1) (by omega)
        have c := own_ce d0 d1 d2 (i - 1)
        rw [show i - 1 + 1 = i by omega] at c
        have x1 := own_cle d0 d1 d2 (i - 1)
        have x2 := own_ele d0 d1 d2 i
        rw [own_add _ _ _ _ a b (by omega), c]
      · rw [if_neg e]; exact h4 j (by omega)
    · intro j a b
      rw [own_setD L i j _ (by omega), if_neg (by omega)]; exact h5 j (by omega) b
theorem own_PS (d0 d1 d2 : Nat) (h0 : d0 < 256) (h1 : d1 < 256) (h2 : d2 < 256) : own_has (own_pfx 256 1 (own_C d0 d1 d2)) (own_c d0 d1 d2) := by
  obtain ⟨a, b⟩ := own_CS d0 d1 d2 h0 h1 h2
  refine own_pfxS d0 d1 d2 256 1 _ a (by omega) (by omega) ?_ ?_
  · intro j hj
    rw [b j (by omega), show j = 0 by omega]
    unfold own_e own_c
    rw [own_i0 (by omega), own_i0 (by omega), own_i0 (by omega), own_i0 (by omega), own_i0 (by omega), own_i0 (by omega)]
  · intro j _ hj; exact b j hj
def own_q0 (d0 d1 d2 : Nat) : Nat := own_c d0 d1 d2 d0
def own_q1 (d0 d1 d2 : Nat) : Nat := own_c d0 d1 d2 d1 + own_i (d0 = d1)
def own_q2 (d0 d1 d2 : Nat) : Nat := own_c d0 d1 d2 d2 + own_i (d0 = d2) + own_i (d1 = d2)
theorem own_qs (P : List Int32) (d0 d1 d2 : Nat) (h0 : d0 < 256) (h1 : d1 < 256) (h2 : d2 < 256) (h : own_has P (own_c d0 d1 d2)) : (P.getD d0 0).toInt = ((own_q0 d0 d1 d2 : Nat) : Int) ∧ ((own_up P d0).getD d1 0).toInt = ((own_q1 d0 d1 d2 : Nat) : Int) ∧ ((own_up (own_up P d0) d1).getD d2 0).toInt = ((own_q2 d0 d1 d2 : Nat) : Int) := by
  have a := own_upS _ _ d0 (by omega) h (by have := own_cle d0 d1 d2 d0; omega)
  have b := own_upS _ _ d1 (by omega) a (by have := own_cle d0 d1 d2 d1; have := own_ile (d0 = d1); omega)
  exact ⟨h.2 d0 (by omega), a.2 d1 (by omega), b.2 d2 (by omega)⟩
def own_srt (a b c : Nat) : List Int32 := ((([0, 0, 0] : List Int32).set (own_i (¬ a ≤ b) + own_i (¬ a ≤ c)) 0).set (own_i (a ≤ b) + own_i (¬ b ≤ c)) 1).set (own_i (a ≤ c) + own_i (b ≤ c)) 2
def own_D (D0 D1 D2 : Nat) (x : Int32) : Nat := if x = 0 then D0 else if x = 1 then D1 else D2
def own_lx (a b D E : Nat) (c d : Nat) : Prop := (D < E → c < d) ∧ (E < D → d < c) ∧ (D = E → (a ≤ b → c ≤ d) ∧ (b < a → d < c))
theorem own_lxP (a b D E P : Nat) (ha : a < P) (hb : b < P) : own_lx a b D E (a + P * D) (b + P * E) := by
  refine ⟨fun h => ?_, fun h => ?_, fun h => ⟨fun g => by subst h; omega, fun g => by subst h; omega⟩⟩
  · have := Nat.mul_le_mul_left P (show D + 1 ≤ E from h); rw [Nat.mul_add, Nat.mul_one] at this; omega
  · have := Nat.mul_le_mul_left P (show E + 1 ≤ D from h); rw [Nat.mul_add, Nat.mul_one] at this; omega
def own_six (x0 x1 x2 : Int32) (a b c : Nat) : Prop := (x0 = (0 : Int32) ∧ x1 = (1 : Int32) ∧ x2 = (2 : Int32) ∧ a ≤ b ∧ a ≤ c ∧ b ≤ c) ∨ (x0 = (0 : Int32) ∧ x1 = (2 : Int32) ∧ x2 = (1 : Int32) ∧ a ≤ b ∧ a ≤ c ∧ c < b) ∨ (x0 = (1 : Int32) ∧ x1 = (0 : Int32) ∧ x2 = (2 : Int32) ∧ b < a ∧ a ≤ c ∧ b ≤ c) ∨ (x0 = (1 : Int32) ∧ x1 = (2 : Int32) ∧ x2 = (0 : Int32) ∧ b < a ∧ c < a ∧ b ≤ c) ∨ (x0 = (2 : Int32) ∧ x1 = (0 : Int32) ∧ x2 = (1 : Int32) ∧ a ≤ b ∧ c < a ∧ c < b) ∨ (x0 = (2 : Int32) ∧ x1 = (1 : Int32) ∧ x2 = (0 : Int32) ∧ b < a ∧ c < a ∧ c < b)
def own_pp (a b c : Nat) : Nat × Nat × Nat := (own_i (¬ a ≤ b) + own_i (¬ a ≤ c), own_i (a ≤ b) + own_i (¬ b ≤ c), own_i (a ≤ c) + own_i (b ≤ c))
theorem own_ppE (a b c : Nat) : (own_pp a b c = (0, 1, 2) ∧ a ≤ b ∧ a ≤ c ∧ b ≤ c) ∨ (own_pp a b c = (0, 2, 1) ∧ a ≤ b ∧ a ≤ c ∧ c < b) ∨ (own_pp a b c = (1, 0, 2) ∧ b < a ∧ a ≤ c ∧ b ≤ c) ∨ (own_pp a b c = (2, 0, 1) ∧ b < a ∧ c < a ∧ b ≤ c) ∨ (own_pp a b c = (1, 2, 0) ∧ a ≤ b ∧ c < a ∧ c < b) ∨ (own_pp a b c = (2, 1, 0) ∧ b < a ∧ c < a ∧ c < b) := by
  unfold own_pp
  by_cases h1 : a ≤ b <;> by_cases h2 : a ≤ c <;> by_cases h3 : b ≤ c <;> simp only [own_i, h1, h2, h3, if_true, if_false, not_true_eq_false, not_false_eq_true] <;> simp <;> omega
theorem own_srtS (a b c : Nat) : ∃ x0 x1 x2 : Int32, own_srt a b c = [x0, x1, x2] ∧ own_six x0 x1 x2 a b c := by
  have e : own_srt a b c = ((([0, 0, 0] : List Int32).set (own_pp a b c).1 0).set (own_pp a b c).2.1 1).set (own_pp a b c).2.2 2 := rfl
  rcases own_ppE a b c with ⟨h, h1, h2, h3⟩ | ⟨h, h1, h2, h3⟩ | ⟨h, h1, h2, h3⟩ | ⟨h, h1, h2, h3⟩ | ⟨h, h1, h2, h3⟩ | ⟨h, h1, h2, h3⟩
  · rw [h] at e; exact ⟨0, 1, 2, e, Or.inl ⟨rfl, rfl, rfl, h1, h2, h3⟩⟩
  · rw [h] at e; exact ⟨0, 2, 1, e, Or.inr (Or.inl ⟨rfl, rfl, rfl, h1, h2, h3⟩)⟩
  · rw [h] at e; exact ⟨1, 0, 2, e, Or.inr (Or.inr (Or.inl ⟨rfl, rfl, rfl, h1, h2, h3⟩))⟩
  · rw [h] at e; exact ⟨1, 2, 0, e, Or.inr (Or.inr (Or.inr (Or.inl ⟨rfl, rfl, rfl, h1, h2, h3⟩)))⟩
  · rw [h] at e; exact ⟨2, 0, 1, e, Or.inr (Or.inr (Or.inr (Or.inr (Or.inl ⟨rfl, rfl, rfl, h1, h2, h3⟩))))⟩
  · rw [h] at e; exact ⟨2, 1, 0, e, Or.inr (Or.inr (Or.inr (Or.inr (Or.inr (⟨rfl, rfl, rfl, h1, h2, h3⟩)))))⟩
theorem own_sixS (x0 x1 x2 : Int32) (a b c : Nat) (h : own_six x0 x1 x2 a b c) : own_srt a b c = [x0, x1, x2] := by
  obtain ⟨y0, y1, y2, e, g⟩ := own_srtS a b c
  rw [e]
  rcases h with ⟨a1, a2, a3, a4, a5, a6⟩ | ⟨a1, a2, a3, a4, a5, a6⟩ | ⟨a1, a2, a3, a4, a5, a6⟩ | ⟨a1, a2, a3, a4, a5, a6⟩ | ⟨a1, a2, a3, a4, a5, a6⟩ | ⟨a1, a2, a3, a4, a5, a6⟩ <;> rcases g with ⟨b1, b2, b3, b4, b5, b6⟩ | ⟨b1, b2, b3, b4, b5, b6⟩ | ⟨b1, b2, b3, b4, b5, b6⟩ | ⟨b1, b2, b3, b4, b5, b6⟩ | ⟨b1, b2, b3, b4, b5, b6⟩ | ⟨b1, b2, b3, b4, b5, b6⟩ <;> first | (subst a1 a2 a3 b1 b2 b3; rfl) | omega
theorem own_ij (a b : Nat) : own_i (a < b) + own_i (a = b) = own_i (a ≤ b) := by
  unfold own_i; split <;> split <;> split <;> omega
theorem own_nl (a b : Nat) : own_i (b < a) = own_i (¬ a ≤ b) := by
  unfold own_i; split <;> split <;> omega
theorem own_self (a : Nat) : own_i (a < a) = 0 := own_i0 (by omega)
theorem own_qpp (d0 d1 d2 : Nat) : own_q0 d0 d1 d2 = (own_pp d0 d1 d2).1 ∧ own_q1 d0 d1 d2 = (own_pp d0 d1 d2).2.1 ∧ own_q2 d0 d1 d2 = (own_pp d0 d1 d2).2.2 := by
  unfold own_q0 own_q1 own_q2 own_c own_pp
  have a := own_ij d0 d1; have b := own_ij d0 d2; have c := own_ij d1 d2
  have e := own_nl d0 d1; have f := own_nl d0 d2; have g := own_nl d1 d2
  have h := own_self d0; have i := own_self d1; have j := own_self d2
  refine ⟨?_, ?_, ?_⟩ <;> simp only [] <;> omega
theorem own_place (M : List Int32) (hM : M.length = 3) (x0 x1 x2 : Int32) (a0 a1 a2 D0 D1 D2 b0 b1 b2 d0 d1 d2 : Nat) (hx : own_six x0 x1 x2 a0 a1 a2) (h01 : own_lx a0 a1 D0 D1 b0 b1) (h02 : own_lx a0 a2 D0 D2 b0 b2) (h12 : own_lx a1 a2 D1 D2 b1 b2) (hd0 : d0 = own_D D0 D1 D2 x0) (hd1 : d1 = own_D D0 D1 D2 x1) (hd2 : d2 = own_D D0 D1 D2 x2) : ((M.set (own_q0 d0 d1 d2) x0).set (own_q1 d0 d1 d2) x1).set (own_q2 d0 d1 d2) x2 = own_srt b0 b1 b2 := by
  match M, hM with
  | [m0, m1, m2], _ =>
    obtain ⟨e0, e1, e2⟩ := own_qpp d0 d1 d2
    rw [e0, e1, e2]
    unfold own_lx at h01 h02 h12
    rcases hx with ⟨rfl, rfl, rfl, k1, k2, k3⟩ | ⟨rfl, rfl, rfl, k1, k2, k3⟩ | ⟨rfl, rfl, rfl, k1, k2, k3⟩ | ⟨rfl, rfl, rfl, k1, k2, k3⟩ | ⟨rfl, rfl, rfl, k1, k2, k3⟩ | ⟨rfl, rfl, rfl, k1, k2, k3⟩
    · have f0 : d0 = D0 := hd0
      have f1 : d1 = D1 := hd1
      have f2 : d2 = D2 := hd2
      rcases own_ppE d0 d1 d2 with ⟨h, h1, h2, h3⟩ | ⟨h, h1, h2, h3⟩ | ⟨h, h1, h2, h3⟩ | ⟨h, h1, h2, h3⟩ | ⟨h, h1, h2, h3⟩ | ⟨h, h1, h2, h3⟩
      · rw [h]; exact (own_sixS 0 1 2 b0 b1 b2 (Or.inl ⟨rfl, rfl, rfl, by omega, by omega, by omega⟩)).symm
      · rw [h]; exact (own_sixS 0 2 1 b0 b1 b2 (Or.inr (Or.inl ⟨rfl, rfl, rfl, by omega, by omega, by omega⟩))).symm
      · rw [h]; exact (own_sixS 1 0 2 b0 b1 b2 (Or.inr (Or.inr (Or.inl ⟨rfl, rfl, rfl, by omega, by omega, by omega⟩)))).symm
      · rw [h]; exact (own_sixS 1 2 0 b0 b1 b2 (Or.inr (Or.inr (Or.inr (Or.inl ⟨rfl, rfl, rfl, by omega, by omega, by omega⟩))))).symm
      · rw [h]; exact (own_sixS 2 0 1 b0 b1 b2 (Or.inr (Or.inr (Or.inr (Or.inr (Or.inl ⟨rfl, rfl, rfl, by omega, by omega, by omega⟩)))))).symm
      · rw [h]; exact (own_sixS 2 1 0 b0 b1 b2 (Or.inr (Or.inr (Or.inr (Or.inr (Or.inr (⟨rfl, rfl, rfl, by omega, by omega, by omega⟩))))))).symm
    · have f0 : d0 = D0 := hd0
      have f1 : d1 = D2 := hd1
      have f2 : d2 = D1 := hd2
      rcases own_ppE d0 d1 d2 with ⟨h, h1, h2, h3⟩ | ⟨h, h1, h2, h3⟩ | ⟨h, h1, h2, h3⟩ | ⟨h, h1, h2, h3⟩ | ⟨h, h1, h2, h3⟩ | ⟨h, h1, h2, h3⟩
      · rw [h]; exact (own_sixS 0 2 1 b0 b1 b2 (Or.inr (Or.inl ⟨rfl, rfl, rfl, by omega, by omega, by omega⟩))).symm
      · rw [h]; exact (own_sixS 0 1 2 b0 b1 b2 (Or.inl ⟨rfl, rfl, rfl, by omega, by omega, by omega⟩)).symm
      · rw [h]; exact (own_sixS 2 0 1 b0 b1 b2 (Or.inr (Or.inr (Or.inr (Or.inr (Or.inl ⟨rfl, rfl, rfl, by omega, by omega, by omega⟩)))))).symm
      · rw [h]; exact (own_sixS 2 1 0 b0 b1 b2 (Or.inr (Or.inr (Or.inr (Or.inr (Or.inr (⟨rfl, rfl, rfl, by omega, by omega, by omega⟩))))))).symm
      · rw [h]; exact (own_sixS 1 0 2 b0 b1 b2 (Or.inr (Or.inr (Or.inl ⟨rfl, rfl, rfl, by omega, by omega, by omega⟩)))).symm
      · rw [h]; exact (own_sixS 1 2 0 b0 b1 b2 (Or.inr (Or.inr (Or.inr (Or.inl ⟨rfl, rfl, rfl, by omega, by omega, by omega⟩))))).symm
    · have f0 : d0 = D1 := hd0
      have f1 : d1 = D0 := hd1
      have f2 : d2 = D2 := hd2
      rcases own_ppE d0 d1 d2 with ⟨h, h1, h2, h3⟩ | ⟨h, h1, h2, h3⟩ | ⟨h, h1, h2, h3⟩ | ⟨h, h1, h2, h3⟩ | ⟨h, h1, h2, h3⟩ | ⟨h, h1, h2, h3⟩
      · rw [h]; exact (own_sixS 1 0 2 b0 b1 b2 (Or.inr (Or.inr (Or.inl ⟨rfl, rfl, rfl, by omega, by omega, by omega⟩)))).symm
      · rw [h]; exact (own_sixS 1 2 0 b0 b1 b2 (Or.inr (Or.inr (Or.inr (Or.inl ⟨rfl, rfl, rfl, by omega, by omega, by omega⟩))))).symm
      · rw [h]; exact (own_sixS 0 1 2 b0 b1 b2 (Or.inl ⟨rfl, rfl, rfl, by omega, by omega, by omega⟩)).symm
      · rw [h]; exact (own_sixS 0 2 1 b0 b1 b2 (Or.inr (Or.inl ⟨rfl, rfl, rfl, by omega, by omega, by omega⟩))).symm
      · rw [h]; exact (own_sixS 2 1 0 b0 b1 b2 (Or.inr (Or.inr (Or.inr (Or.inr (Or.inr (⟨rfl, rfl, rfl, by omega, by omega, by omega⟩))))))).symm
      · rw [h]; exact (own_sixS 2 0 1 b0 b1 b2 (Or.inr (Or.inr (Or.inr (Or.inr (Or.inl ⟨rfl, rfl, rfl, by omega, by omega, by omega⟩)))))).symm
    · have f0 : d0 = D1 := hd0
      have f1 : d1 = D2 := hd1
      have f2 : d2 = D0 := hd2
      rcases own_ppE d0 d1 d2 with ⟨h, h1, h2, h3⟩ | ⟨h, h1, h2, h3⟩ | ⟨h, h1, h2, h3⟩ | ⟨h, h1, h2, h3⟩ | ⟨h, h1, h2, h3⟩ | ⟨h, h1, h2, h3⟩
      · rw [h]; exact (own_sixS 1 2 0 b0 b1 b2 (Or.inr (Or.inr (Or.inr (Or.inl ⟨rfl, rfl, rfl, by omega, by omega, by omega⟩))))).symm
      · rw [h]; exact (own_sixS 1 0 2 b0 b1 b2 (Or.inr (Or.inr (Or.inl ⟨rfl, rfl, rfl, by omega, by omega, by omega⟩)))).symm
      · rw [h]; exact (own_sixS 2 1 0 b0 b1 b2 (Or.inr (Or.inr (Or.inr (Or.inr (Or.inr (⟨rfl, rfl, rfl, by omega, by omega, by omega⟩))))))).symm
      · rw [h]; exact (own_sixS 2 0 1 b0 b1 b2 (Or.inr (Or.inr (Or.inr (Or.inr (Or.inl ⟨rfl, rfl, rfl, by omega, by omega, by omega⟩)))))).symm
      · rw [h]; exact (own_sixS 0 1 2 b0 b1 b2 (Or.inl ⟨rfl, rfl, rfl, by omega, by omega, by omega⟩)).symm
      · rw [h]; exact (own_sixS 0 2 1 b0 b1 b2 (Or.inr (Or.inl ⟨rfl, rfl, rfl, by omega, by omega, by omega⟩))).symm
    · have f0 : d0 = D2 := hd0
      have f1 : d1 = D0 := hd1
      have f2 : d2 = D1 := hd2
      rcases own_ppE d0 d1 d2 with ⟨h, h1, h2, h3⟩ | ⟨h, h1, h2, h3⟩ | ⟨h, h1, h2, h3⟩ | ⟨h, h1, h2, h3⟩ | ⟨h, h1, h2, h3⟩ | ⟨h, h1, h2, h3⟩
      · rw [h]; exact (own_sixS 2 0 1 b0 b1 b2 (Or.inr (Or.inr (Or.inr (Or.inr (Or.inl ⟨rfl, rfl, rfl, by omega, by omega, by omega⟩)))))).symm
      · rw [h]; exact (own_sixS 2 1 0 b0 b1 b2 (Or.inr (Or.inr (Or.inr (Or.inr (Or.inr (⟨rfl, rfl, rfl, by omega, by omega, by omega⟩))))))).symm
      · rw [h]; exact (own_sixS 0 2 1 b0 b1 b2 (Or.inr (Or.inl ⟨rfl, rfl, rfl, by omega, by omega, by omega⟩))).symm
      · rw [h]; exact (own_sixS 0 1 2 b0 b1 b2 (Or.inl ⟨rfl, rfl, rfl, by omega, by omega, by omega⟩)).symm
      · rw [h]; exact (own_sixS 1 2 0 b0 b1 b2 (Or.inr (Or.inr (Or.inr (Or.inl ⟨rfl, rfl, rfl, by omega, by omega, by omega⟩))))).symm
      · rw [h]; exact (own_sixS 1 0 2 b0 b1 b2 (Or.inr (Or.inr (Or.inl ⟨rfl, rfl, rfl, by omega, by omega, by omega⟩)))).symm
    · have f0 : d0 = D2 := hd0
      have f1 : d1 = D1 := hd1
      have f2 : d2 = D0 := hd2
      rcases own_ppE d0 d1 d2 with ⟨h, h1, h2, h3⟩ | ⟨h, h1, h2, h3⟩ | ⟨h, h1, h2, h3⟩ | ⟨h, h1, h2, h3⟩ | ⟨h, h1, h2, h3⟩ | ⟨h, h1, h2, h3⟩
      · rw [h]; exact (own_sixS 2 1 0 b0 b1 b2 (Or.inr (Or.inr (Or.inr (Or.inr (Or.inr (⟨rfl, rfl, rfl, by omega, by omega, by omega⟩))))))).symm
      · rw [h]; exact (own_sixS 2 0 1 b0 b1 b2 (Or.inr (Or.inr (Or.inr (Or.inr (Or.inl ⟨rfl, rfl, rfl, by omega, by omega, by omega⟩)))))).symm
      · rw [h]; exact (own_sixS 1 2 0 b0 b1 b2 (Or.inr (Or.inr (Or.inr (Or.inl ⟨rfl, rfl, rfl, by omega, by omega, by omega⟩))))).symm
      · rw [h]; exact (own_sixS 1 0 2 b0 b1 b2 (Or.inr (Or.inr (Or.inl ⟨rfl, rfl, rfl, by omega, by omega, by omega⟩)))).symm
      · rw [h]; exact (own_sixS 0 2 1 b0 b1 b2 (Or.inr (Or.inl ⟨rfl, rfl, rfl, by omega, by omega, by omega⟩))).symm
      · rw [h]; exact (own_sixS 0 1 2 b0 b1 b2 (Or.inl ⟨rfl, rfl, rfl, by omega, by omega, by omega⟩)).symm
theorem own_wD (w0 w1 w2 : Int64) (s : Nat) (x : Int32) (k : x = 0 ∨ x = 1 ∨ x = 2) : (([w0, w1, w2] : List Int64).getD x.toInt.toNat 0).toInt.toNat / 2 ^ s % 256 = own_D (w0.toInt.toNat / 2 ^ s % 256) (w1.toInt.toNat / 2 ^ s % 256) (w2.toInt.toNat / 2 ^ s % 256) x := by
  rcases k with k | k | k <;> subst k <;> rfl
theorem own_sixR (x0 x1 x2 : Int32) (a b c : Nat) (h : own_six x0 x1 x2 a b c) : (x0 = 0 ∨ x0 = 1 ∨ x0 = 2) ∧ (x1 = 0 ∨ x1 = 1 ∨ x1 = 2) ∧ (x2 = 0 ∨ x2 = 1 ∨ x2 = 2) := by
  rcases h with ⟨a1, a2, a3, _⟩ | ⟨a1, a2, a3, _⟩ | ⟨a1, a2, a3, _⟩ | ⟨a1, a2, a3, _⟩ | ⟨a1, a2, a3, _⟩ | ⟨a1, a2, a3, _⟩ <;> subst a1 a2 a3 <;> decide
theorem own_sixB (x0 x1 x2 : Int32) (a b c : Nat) (h : own_six x0 x1 x2 a b c) : (0 ≤ x0.toInt ∧ x0.toInt ≤ 2) ∧ (0 ≤ x1.toInt ∧ x1.toInt ≤ 2) ∧ (0 ≤ x2.toInt ∧ x2.toInt ≤ 2) := by
  rcases h with ⟨a1, a2, a3, _⟩ | ⟨a1, a2, a3, _⟩ | ⟨a1, a2, a3, _⟩ | ⟨a1, a2, a3, _⟩ | ⟨a1, a2, a3, _⟩ | ⟨a1, a2, a3, _⟩ <;> subst a1 a2 a3 <;> decide
def own_K (w0 w1 w2 : Int64) (s : Nat) : List Int32 := own_srt (w0.toInt.toNat % 2 ^ s) (w1.toInt.toNat % 2 ^ s) (w2.toInt.toNat % 2 ^ s)
def own_X (w0 w1 w2 : Int64) (s : Nat) (x0 x1 x2 : Int32) : Prop := own_six x0 x1 x2 (w0.toInt.toNat % 2 ^ s) (w1.toInt.toNat % 2 ^ s) (w2.toInt.toNat % 2 ^ s)
def own_dig (w : Int64) (s : Nat) (d : Int32) : Prop := d.toInt = ((w.toInt.toNat / 2 ^ s % 256 : Nat) : Int)
theorem own_passL (w0 w1 w2 : Int64) (s : Nat) (x0 x1 x2 d0 d1 d2 : Int32) (M : List Int32) (hM : M.length = 3) (hx : own_X w0 w1 w2 s x0 x1 x2) (h0 : own_dig (([w0, w1, w2] : List Int64).getD x0.toInt.toNat 0) s d0) (h1 : own_dig (([w0, w1, w2] : List Int64).getD x1.toInt.toNat 0) s d1) (h2 : own_dig (([w0, w1, w2] : List Int64).getD x2.toInt.toNat 0) s d2) : ((M.set (own_q0 d0.toInt.toNat d1.toInt.toNat d2.toInt.toNat) x0).set (own_q1 d0.toInt.toNat d1.toInt.toNat d2.toInt.toNat) x1).set (own_q2 d0.toInt.toNat d1.toInt.toNat d2.toInt.toNat) x2 = own_K w0 w1 w2 (s + 8) := by
  have md : ∀ n : Nat, n % 2 ^ (s + 8) = n % 2 ^ s + 2 ^ s * (n / 2 ^ s % 256) := by
    intro n; rw [Nat.pow_add, Nat.mod_mul]
  have P : 0 < 2 ^ s := Nat.pow_pos (by decide)
  obtain ⟨r0, r1, r2⟩ := own_sixR _ _ _ _ _ _ hx
  unfold own_K
  rw [md, md, md]
  unfold own_dig at h0 h1 h2
  refine own_place M hM x0 x1 x2 _ _ _ (w0.toInt.toNat / 2 ^ s % 256) (w1.toInt.toNat / 2 ^ s % 256) (w2.toInt.toNat / 2 ^ s % 256) _ _ _ _ _ _ hx (own_lxP _ _ _ _ _ (Nat.mod_lt _ P) (Nat.mod_lt _ P)) (own_lxP _ _ _ _ _ (Nat.mod_lt _ P) (Nat.mod_lt _ P)) (own_lxP _ _ _ _ _ (Nat.mod_lt _ P) (Nat.mod_lt _ P)) ?_ ?_ ?_
  · rw [h0, Int.toNat_natCast, own_wD w0 w1 w2 s x0 r0]
  · rw [h1, Int.toNat_natCast, own_wD w0 w1 w2 s x1 r1]
  · rw [h2, Int.toNat_natCast, own_wD w0 w1 w2 s x2 r2]
theorem own_KX (w0 w1 w2 : Int64) (s : Nat) : ∃ x0 x1 x2 : Int32, own_K w0 w1 w2 s = [x0, x1, x2] ∧ own_X w0 w1 w2 s x0 x1 x2 := own_srtS _ _ _
theorem own_K0 (w0 w1 w2 : Int64) : own_K w0 w1 w2 0 = [0, 1, 2] := by
  unfold own_K; rw [Nat.pow_zero, Nat.mod_one, Nat.mod_one, Nat.mod_one]; decide
theorem own_dgB (w : Int64) (s : Nat) (d : Int32) (h : own_dig w s d) : 0 ≤ d.toInt ∧ d.toInt ≤ 255 := by
  unfold own_dig at h; generalize w.toInt.toNat / 2 ^ s = D at h; omega
theorem own_qB (d0 d1 d2 : Nat) : own_q0 d0 d1 d2 ≤ 2 ∧ own_q1 d0 d1 d2 ≤ 2 ∧ own_q2 d0 d1 d2 ≤ 2 := by
  obtain ⟨a, b, c⟩ := own_qpp d0 d1 d2
  rw [a, b, c]
  unfold own_pp
  have h := fun (p : Prop) [Decidable p] => own_ile p
  refine ⟨Nat.add_le_add (own_ile _) (own_ile _), Nat.add_le_add (own_ile _) (own_ile _), Nat.add_le_add (own_ile _) (own_ile _)⟩
def own_Srt (w0 w1 w2 : Int64) : List Int32 := own_srt w0.toInt.toNat w1.toInt.toNat w2.toInt.toNat
theorem own_KS (w0 w1 w2 : Int64) (s : Nat) (h0 : w0.toInt.toNat < 2 ^ s) (h1 : w1.toInt.toNat < 2 ^ s) (h2 : w2.toInt.toNat < 2 ^ s) : own_K w0 w1 w2 s = own_Srt w0 w1 w2 := by
  unfold own_K own_Srt; rw [Nat.mod_eq_of_lt h0, Nat.mod_eq_of_lt h1, Nat.mod_eq_of_lt h2]
theorem own_parN64 (p : Int64) (h : 0 ≤ p.toInt) : p.toBitVec.toNat = p.toInt.toNat := by
  have a := p.toBitVec.isLt
  have b : p.toInt = p.toBitVec.toInt := rfl
  rw [BitVec.toInt_eq_toNat_cond] at b
  split at b <;> omega
theorem own_digL (w : Int64) (q : Int32) (s : Nat) (d : Int32) (hs : q.toBitVec.toNat % 64 = s) (hw : 0 ≤ w.toInt) (h : d = ((w.toUInt64 >>> (q &&& 0x3f).toInt64.toUInt64).toInt64).toInt32 &&& (255 : Int32)) : own_dig w s d := by
  have a := own_ushrB w q s hs
  have b : d.toBitVec.toNat = w.toInt.toNat / 2 ^ s % 256 := by
    rw [h]
    show ((((w.toUInt64 >>> (q &&& 0x3f).toInt64.toUInt64).toInt64).toBitVec.signExtend 32) &&& (255 : BitVec 32)).toNat = _
    rw [a, BitVec.toNat_and, BitVec.signExtend_eq_setWidth_of_le _ (by decide), BitVec.toNat_setWidth, BitVec.toNat_ushiftRight, Nat.shiftRight_eq_div_pow, own_parN64 w hw]
    show (w.toInt.toNat / 2 ^ s % 2 ^ 32) &&& 255 = _
    rw [show (255 : Nat) = 2 ^ 8 - 1 by decide, Nat.and_two_pow_sub_one_eq_mod]
    omega
  have c : d.toInt = d.toBitVec.toInt := rfl
  rw [BitVec.toInt_eq_toNat_cond] at c
  unfold own_dig
  split at c <;> omega
theorem own_bitsL (w0 w1 w2 : Int64) (q : Int32) (s : Nat) (hs : q.toBitVec.toNat % 64 = s) (h0 : 0 ≤ w0.toInt) (h1 : 0 ≤ w1.toInt) (h2 : 0 ≤ w2.toInt) (b : Int64) (hb : b.toBitVec = (w0.toBitVec ||| w1.toBitVec) ||| w2.toBitVec) (h : ((b.toUInt64 >>> (q &&& 0x3f).toInt64.toUInt64).toInt64) = (0 : Int64)) : w0.toInt.toNat < 2 ^ s ∧ w1.toInt.toNat < 2 ^ s ∧ w2.toInt.toNat < 2 ^ s := by
  have a := own_ushrB b q s hs
  rw [h, hb, BitVec.ushiftRight_or_distrib, BitVec.ushiftRight_or_distrib] at a
  have c := a.symm
  have P : 0 < 2 ^ s := Nat.pow_pos (by decide)
  have f : ∀ w : Int64, 0 ≤ w.toInt → w.toBitVec >>> s = 0#64 → w.toInt.toNat < 2 ^ s := by
    intro w hw e
    have g := congrArg BitVec.toNat e
    rw [BitVec.toNat_ushiftRight, Nat.shiftRight_eq_div_pow, own_parN64 w hw] at g
    have k := Nat.div_add_mod w.toInt.toNat (2 ^ s)
    rw [show w.toInt.toNat / 2 ^ s = 0 from g, Nat.mul_zero, Nat.zero_add] at k
    rw [← k]; exact Nat.mod_lt _ P
  have c' : w0.toBitVec >>> s ||| w1.toBitVec >>> s ||| w2.toBitVec >>> s = 0#64 := c
  rw [BitVec.or_eq_zero_iff, BitVec.or_eq_zero_iff] at c'
  exact ⟨f w0 h0 c'.1.1, f w1 h1 c'.1.2, f w2 h2 c'.2⟩
theorem own_upl (L : List Int32) (i : Nat) : (own_up L i).length = L.length := by unfold own_up; rw [List.length_set]
theorem own_wN (w0 w1 w2 : Int64) (h0 : 0 ≤ w0.toInt) (h1 : 0 ≤ w1.toInt) (h2 : 0 ≤ w2.toInt) (x : Int32) (k : x = 0 ∨ x = 1 ∨ x = 2) : 0 ≤ (([w0, w1, w2] : List Int64).getD x.toInt.toNat 0).toInt := by
  rcases k with k | k | k <;> subst k <;> assumption
theorem own_pfxstep (v : Int32) (F G : List Int32) (h0 : 1 ≤ v.toInt ∧ v.toInt ≤ 256) (h : own_pfx (257 - v.toInt).toNat v.toInt.toNat F = G) : own_pfx (257 - (v + (1 : Int32)).toInt).toNat (v + (1 : Int32)).toInt.toNat (F.set v.toInt.toNat (F.getD v.toInt.toNat 0 + F.getD (v.toInt.toNat - 1) 0)) = G := by
  rw [own_inc (by omega), show (v.toInt + 1).toNat = v.toInt.toNat + 1 by omega]
  rw [show (257 - v.toInt).toNat = (257 - (v.toInt + 1)).toNat + 1 by omega, own_pfx] at h
  exact h
theorem own_bits0 (w0 w1 w2 : Int64) : ((((0 : Int64) ||| w0) ||| w1) ||| w2).toBitVec = (w0.toBitVec ||| w1.toBitVec) ||| w2.toBitVec := by
  show (((0#64 ||| w0.toBitVec) ||| w1.toBitVec) ||| w2.toBitVec) = _
  rw [BitVec.zero_or]
theorem own_bits64 (w : Int64) (h : 0 ≤ w.toInt) : w.toInt.toNat < 2 ^ 64 := by have := rng64 w; omega

theorem pn_0 : plainName "com/example/prefixwood/prefixwood/huffman/TwoQueues" = true := by first | (simp [plainName, overriddenIn]; done) | decide +kernel
theorem d4_0 : decode prog_51_method_5_code 0 = .ok (.lload_n 0, 1) := by decide +kernel
theorem d4_1 : decode prog_51_method_5_code 1 = .ok (.iload_n 2, 1) := by decide +kernel
theorem d4_2 : decode prog_51_method_5_code 2 = .ok (.lushr, 1) := by decide +kernel
theorem d4_3 : decode prog_51_method_5_code 3 = .ok (.l2i, 1) := by decide +kernel
theorem d4_4 : decode prog_51_method_5_code 4 = .ok (.sipush 255, 3) := by decide +kernel
theorem d4_7 : decode prog_51_method_5_code 7 = .ok (.iand, 1) := by decide +kernel
theorem d4_8 : decode prog_51_method_5_code 8 = .ok (.ireturn, 1) := by decide +kernel
def Rel4 (q1 : Int64) (p2 : Int32) (r : Int32) : Prop := own_dig q1 p2.toInt.toNat r
def Q4 (Z : State) (q1 : Int64) (p2 : Int32) (h0 : Heap) (n0 : Nat) (v : Option Value) (h : Heap) (L : List Loc) : Prop := ∃ r : Int32, v = some (.int r) ∧ Rel4 q1 p2 r ∧ Fr n0 L ∧ h = h0
theorem ef_rm4 (m : MethodId) (q1 : Int64) (p2 : Int32) : entryFrame m #[(.long q1), (.int p2)] 3 = mkF m 0 #[.val (.long q1), .second, .val (.int p2)] [] := by first | (simp [entryFrame, mkF, argsToLocals, Value.category]; done) | rfl
set_option maxRecDepth 65536 in
set_option maxHeartbeats 40000000 in
theorem rm4 (l : Launch) (Z : State) (a0 : Array Value) (hw : ∀ d ∈ tables_1, d.before a0 Z = true) (ws : List Jvm.Cond) (q1 : Int64) (p2 : Int32) (h0 : Heap) (n0 : Nat) (Z0 : n0 ≤ h0.size) (hq : 0 ≤ q1.toInt) (hp : 0 ≤ p2.toInt ∧ p2.toInt ≤ 63) :
    MetFree l (⟨"com/example/prefixwood/prefixwood/huffman/TwoQueues", "digit", "(JI)I"⟩ : MethodName) (head1 (Jvm.Cond.code (⟨"com/example/prefixwood/prefixwood/huffman/TwoQueues", "digit", "(JI)I"⟩ : MethodName) prog_51_method_5_code 3 (some .int) :: ws) ({ frames := 0, cells := 0, slots := 0, locals := 0 } : Room)) (fun a U => a = #[(.long q1), (.int p2)] ∧ Z.Warmed39 U.vm ∧ U.heap = h0) (fun _ _ _ _ _ => True) (fun _ U o U' => ∃ v L, o = .returned v ∧ (Q4 Z q1 p2 h0 n0) v U'.heap L ∧ FrameEnd U o U' L ({ frames := 0, cells := 0, slots := 0, locals := 0 } : Room).cells ({ frames := 0, cells := 0, slots := 0, locals := 0 } : Room).slots) := by
  refine MetFree.of_bodySF (plainFor_of_name pn_0) hisR ?_
  intro p e s m args below meth c s₁ Bd hml0 hP hK
  obtain ⟨rfl, hZ, hh⟩ := hP
  have hx := Bd.exec
  have hby := Bd.bytes
  have hml : c.maxLocals = 3 := hml0
  have hown : s.vm.findClass "com/example/prefixwood/prefixwood/huffman/TwoQueues" = some m.cls := findClass_of_methodNamed Bd.named
  have hnm := (name_of_methodNamed Bd.named Bd.method).1
  have hlk : meth.locks = false := BodyLoose.notSynchronized Bd
  have X0 : Stand p l e ({ frames := 0, cells := 0, slots := 0, locals := 0 } : Room) s m #[(.long q1), (.int p2)] below meth c s₁ [] 0 0 := Stand.of_body Bd
  have e0 : s₁.heap = h0 := by rw [← hh, Bd.state]; rfl
  have N0 := Fr.nil n0
  show Go p e below s ({ frames := 0, cells := 0, slots := 0, locals := 0 } : Room).cells ({ frames := 0, cells := 0, slots := 0, locals := 0 } : Room).slots (Q4 Z q1 p2 h0 n0) s₁ (entryFrame m #[(.long q1), (.int p2)] 3)
  rw [ef_rm4 m q1 p2]
  refine g_lloadN 1 X0 hx (hb hby d4_0) rfl (v := q1) rfl ?_
  refine g_iloadN 2 X0 hx (hb hby d4_1) rfl (v := p2) rfl ?_
  refine g_lushr 3 X0 hx (hb hby d4_2) rfl (z := ((q1.toUInt64 >>> (p2 &&& 0x3f).toInt64.toUInt64).toInt64)) rfl ?_
  refine g_l2i 4 X0 hx (hb hby d4_3) rfl (z := (((q1.toUInt64 >>> (p2 &&& 0x3f).toInt64.toUInt64).toInt64).toInt32)) rfl ?_
  refine g_sipush 7 X0 hx (hb hby d4_4) rfl (z := (255 : Int32)) rfl ?_
  refine g_iand 8 X0 hx (hb hby d4_7) rfl (z := ((((q1.toUInt64 >>> (p2 &&& 0x3f).toInt64.toUInt64).toInt64).toInt32) &&& (255 : Int32))) rfl ?_
  exact g_retI X0 hx Bd.returns hlk (hb hby d4_8) (by decide) (by decide) ⟨((((q1.toUInt64 >>> (p2 &&& 0x3f).toInt64.toUInt64).toInt64).toInt32) &&& (255 : Int32)), rfl, (own_digL q1 p2 _ _ (by rw [own_parN p2 (by omega)]; omega) hq rfl), N0, e0⟩
theorem pd_0 : parseMethodDescriptor "(JI)I" = some ⟨[.long, .int], some .int⟩ := by decide +kernel
theorem d3_0 : decode prog_51_method_4_code 0 = .ok (.aload_n 0, 1) := by decide +kernel
theorem d3_1 : decode prog_51_method_4_code 1 = .ok (.arraylength, 1) := by decide +kernel
theorem d3_2 : decode prog_51_method_4_code 2 = .ok (.newarray .int, 2) := by decide +kernel
theorem d3_4 : decode prog_51_method_4_code 4 = .ok (.astore_n 1, 1) := by decide +kernel
theorem d3_5 : decode prog_51_method_4_code 5 = .ok (.lconst 0, 1) := by decide +kernel
theorem d3_6 : decode prog_51_method_4_code 6 = .ok (.lstore_n 2, 1) := by decide +kernel
theorem d3_7 : decode prog_51_method_4_code 7 = .ok (.iconst 0, 1) := by decide +kernel
theorem d3_8 : decode prog_51_method_4_code 8 = .ok (.istore 4, 2) := by decide +kernel
theorem d3_10 : decode prog_51_method_4_code 10 = .ok (.iload 4, 2) := by decide +kernel
theorem d3_12 : decode prog_51_method_4_code 12 = .ok (.aload_n 0, 1) := by decide +kernel
theorem d3_13 : decode prog_51_method_4_code 13 = .ok (.arraylength, 1) := by decide +kernel
theorem d3_14 : decode prog_51_method_4_code 14 = .ok (.if_icmp .ge 22, 3) := by decide +kernel
theorem d3_17 : decode prog_51_method_4_code 17 = .ok (.aload_n 1, 1) := by decide +kernel
theorem d3_18 : decode prog_51_method_4_code 18 = .ok (.iload 4, 2) := by decide +kernel
theorem d3_20 : decode prog_51_method_4_code 20 = .ok (.iload 4, 2) := by decide +kernel
theorem d3_22 : decode prog_51_method_4_code 22 = .ok (.iastore, 1) := by decide +kernel
theorem d3_23 : decode prog_51_method_4_code 23 = .ok (.lload_n 2, 1) := by decide +kernel
theorem d3_24 : decode prog_51_method_4_code 24 = .ok (.aload_n 0, 1) := by decide +kernel
theorem d3_25 : decode prog_51_method_4_code 25 = .ok (.iload 4, 2) := by decide +kernel
theorem d3_27 : decode prog_51_method_4_code 27 = .ok (.laload, 1) := by decide +kernel
theorem d3_28 : decode prog_51_method_4_code 28 = .ok (.lor, 1) := by decide +kernel
theorem d3_29 : decode prog_51_method_4_code 29 = .ok (.lstore_n 2, 1) := by decide +kernel
theorem d3_30 : decode prog_51_method_4_code 30 = .ok (.iinc 4 1, 3) := by decide +kernel
theorem d3_33 : decode prog_51_method_4_code 33 = .ok (.goto (-23), 3) := by decide +kernel
theorem d3_36 : decode prog_51_method_4_code 36 = .ok (.aload_n 0, 1) := by decide +kernel
theorem d3_37 : decode prog_51_method_4_code 37 = .ok (.arraylength, 1) := by decide +kernel
theorem d3_38 : decode prog_51_method_4_code 38 = .ok (.newarray .int, 2) := by decide +kernel
theorem d3_40 : decode prog_51_method_4_code 40 = .ok (.astore 4, 2) := by decide +kernel
theorem d3_42 : decode prog_51_method_4_code 42 = .ok (.iconst 0, 1) := by decide +kernel
theorem d3_43 : decode prog_51_method_4_code 43 = .ok (.istore 5, 2) := by decide +kernel
theorem d3_45 : decode prog_51_method_4_code 45 = .ok (.iload 5, 2) := by decide +kernel
theorem d3_47 : decode prog_51_method_4_code 47 = .ok (.bipush 64, 2) := by decide +kernel
theorem d3_49 : decode prog_51_method_4_code 49 = .ok (.if_icmp .ge 169, 3) := by decide +kernel
theorem d3_52 : decode prog_51_method_4_code 52 = .ok (.lload_n 2, 1) := by decide +kernel
theorem d3_53 : decode prog_51_method_4_code 53 = .ok (.iload 5, 2) := by decide +kernel
theorem d3_55 : decode prog_51_method_4_code 55 = .ok (.lushr, 1) := by decide +kernel
theorem d3_56 : decode prog_51_method_4_code 56 = .ok (.lconst 0, 1) := by decide +kernel
theorem d3_57 : decode prog_51_method_4_code 57 = .ok (.lcmp, 1) := by decide +kernel
theorem d3_58 : decode prog_51_method_4_code 58 = .ok (.ifCond .eq 160, 3) := by decide +kernel
theorem d3_61 : decode prog_51_method_4_code 61 = .ok (.sipush 257, 3) := by decide +kernel
theorem d3_64 : decode prog_51_method_4_code 64 = .ok (.newarray .int, 2) := by decide +kernel
theorem d3_66 : decode prog_51_method_4_code 66 = .ok (.astore 6, 2) := by decide +kernel
theorem d3_68 : decode prog_51_method_4_code 68 = .ok (.aload_n 1, 1) := by decide +kernel
theorem d3_69 : decode prog_51_method_4_code 69 = .ok (.astore 7, 2) := by decide +kernel
theorem d3_71 : decode prog_51_method_4_code 71 = .ok (.aload 7, 2) := by decide +kernel
theorem d3_73 : decode prog_51_method_4_code 73 = .ok (.arraylength, 1) := by decide +kernel
theorem d3_74 : decode prog_51_method_4_code 74 = .ok (.istore 8, 2) := by decide +kernel
theorem d3_76 : decode prog_51_method_4_code 76 = .ok (.iconst 0, 1) := by decide +kernel
theorem d3_77 : decode prog_51_method_4_code 77 = .ok (.istore 9, 2) := by decide +kernel
theorem d3_79 : decode prog_51_method_4_code 79 = .ok (.iload 9, 2) := by decide +kernel
theorem d3_81 : decode prog_51_method_4_code 81 = .ok (.iload 8, 2) := by decide +kernel
theorem d3_83 : decode prog_51_method_4_code 83 = .ok (.if_icmp .ge 34, 3) := by decide +kernel
theorem d3_86 : decode prog_51_method_4_code 86 = .ok (.aload 7, 2) := by decide +kernel
theorem d3_88 : decode prog_51_method_4_code 88 = .ok (.iload 9, 2) := by decide +kernel
theorem d3_90 : decode prog_51_method_4_code 90 = .ok (.iaload, 1) := by decide +kernel
theorem d3_91 : decode prog_51_method_4_code 91 = .ok (.istore 10, 2) := by decide +kernel
theorem d3_93 : decode prog_51_method_4_code 93 = .ok (.aload 6, 2) := by decide +kernel
theorem d3_95 : decode prog_51_method_4_code 95 = .ok (.aload_n 0, 1) := by decide +kernel
theorem d3_96 : decode prog_51_method_4_code 96 = .ok (.iload 10, 2) := by decide +kernel
theorem d3_98 : decode prog_51_method_4_code 98 = .ok (.laload, 1) := by decide +kernel
theorem d3_99 : decode prog_51_method_4_code 99 = .ok (.iload 5, 2) := by decide +kernel
theorem d3_101 : decode prog_51_method_4_code 101 = .ok (.invokestatic 44, 3) := by decide +kernel
theorem d3_104 : decode prog_51_method_4_code 104 = .ok (.iconst 1, 1) := by decide +kernel
theorem d3_105 : decode prog_51_method_4_code 105 = .ok (.iadd, 1) := by decide +kernel
theorem d3_106 : decode prog_51_method_4_code 106 = .ok (.dup2, 1) := by decide +kernel
theorem d3_107 : decode prog_51_method_4_code 107 = .ok (.iaload, 1) := by decide +kernel
theorem d3_108 : decode prog_51_method_4_code 108 = .ok (.iconst 1, 1) := by decide +kernel
theorem d3_109 : decode prog_51_method_4_code 109 = .ok (.iadd, 1) := by decide +kernel
theorem d3_110 : decode prog_51_method_4_code 110 = .ok (.iastore, 1) := by decide +kernel
theorem d3_111 : decode prog_51_method_4_code 111 = .ok (.iinc 9 1, 3) := by decide +kernel
theorem d3_114 : decode prog_51_method_4_code 114 = .ok (.goto (-35), 3) := by decide +kernel
theorem d3_117 : decode prog_51_method_4_code 117 = .ok (.iconst 1, 1) := by decide +kernel
theorem d3_118 : decode prog_51_method_4_code 118 = .ok (.istore 7, 2) := by decide +kernel
theorem d3_120 : decode prog_51_method_4_code 120 = .ok (.iload 7, 2) := by decide +kernel
theorem d3_122 : decode prog_51_method_4_code 122 = .ok (.aload 6, 2) := by decide +kernel
theorem d3_124 : decode prog_51_method_4_code 124 = .ok (.arraylength, 1) := by decide +kernel
theorem d3_125 : decode prog_51_method_4_code 125 = .ok (.if_icmp .ge 24, 3) := by decide +kernel
theorem d3_128 : decode prog_51_method_4_code 128 = .ok (.aload 6, 2) := by decide +kernel
theorem d3_130 : decode prog_51_method_4_code 130 = .ok (.iload 7, 2) := by decide +kernel
theorem d3_132 : decode prog_51_method_4_code 132 = .ok (.dup2, 1) := by decide +kernel
theorem d3_133 : decode prog_51_method_4_code 133 = .ok (.iaload, 1) := by decide +kernel
theorem d3_134 : decode prog_51_method_4_code 134 = .ok (.aload 6, 2) := by decide +kernel
theorem d3_136 : decode prog_51_method_4_code 136 = .ok (.iload 7, 2) := by decide +kernel
theorem d3_138 : decode prog_51_method_4_code 138 = .ok (.iconst 1, 1) := by decide +kernel
theorem d3_139 : decode prog_51_method_4_code 139 = .ok (.isub, 1) := by decide +kernel
theorem d3_140 : decode prog_51_method_4_code 140 = .ok (.iaload, 1) := by decide +kernel
theorem d3_141 : decode prog_51_method_4_code 141 = .ok (.iadd, 1) := by decide +kernel
theorem d3_142 : decode prog_51_method_4_code 142 = .ok (.iastore, 1) := by decide +kernel
theorem d3_143 : decode prog_51_method_4_code 143 = .ok (.iinc 7 1, 3) := by decide +kernel
theorem d3_146 : decode prog_51_method_4_code 146 = .ok (.goto (-26), 3) := by decide +kernel
theorem d3_149 : decode prog_51_method_4_code 149 = .ok (.aload_n 1, 1) := by decide +kernel
theorem d3_150 : decode prog_51_method_4_code 150 = .ok (.astore 7, 2) := by decide +kernel
theorem d3_152 : decode prog_51_method_4_code 152 = .ok (.aload 7, 2) := by decide +kernel
theorem d3_154 : decode prog_51_method_4_code 154 = .ok (.arraylength, 1) := by decide +kernel
theorem d3_155 : decode prog_51_method_4_code 155 = .ok (.istore 8, 2) := by decide +kernel
theorem d3_157 : decode prog_51_method_4_code 157 = .ok (.iconst 0, 1) := by decide +kernel
theorem d3_158 : decode prog_51_method_4_code 158 = .ok (.istore 9, 2) := by decide +kernel
theorem d3_160 : decode prog_51_method_4_code 160 = .ok (.iload 9, 2) := by decide +kernel
theorem d3_162 : decode prog_51_method_4_code 162 = .ok (.iload 8, 2) := by decide +kernel
theorem d3_164 : decode prog_51_method_4_code 164 = .ok (.if_icmp .ge 38, 3) := by decide +kernel
theorem d3_167 : decode prog_51_method_4_code 167 = .ok (.aload 7, 2) := by decide +kernel
theorem d3_169 : decode prog_51_method_4_code 169 = .ok (.iload 9, 2) := by decide +kernel
theorem d3_171 : decode prog_51_method_4_code 171 = .ok (.iaload, 1) := by decide +kernel
theorem d3_172 : decode prog_51_method_4_code 172 = .ok (.istore 10, 2) := by decide +kernel
theorem d3_174 : decode prog_51_method_4_code 174 = .ok (.aload 4, 2) := by decide +kernel
theorem d3_176 : decode prog_51_method_4_code 176 = .ok (.aload 6, 2) := by decide +kernel
theorem d3_178 : decode prog_51_method_4_code 178 = .ok (.aload_n 0, 1) := by decide +kernel
theorem d3_179 : decode prog_51_method_4_code 179 = .ok (.iload 10, 2) := by decide +kernel
theorem d3_181 : decode prog_51_method_4_code 181 = .ok (.laload, 1) := by decide +kernel
theorem d3_182 : decode prog_51_method_4_code 182 = .ok (.iload 5, 2) := by decide +kernel
theorem d3_184 : decode prog_51_method_4_code 184 = .ok (.invokestatic 44, 3) := by decide +kernel
theorem d3_187 : decode prog_51_method_4_code 187 = .ok (.dup2, 1) := by decide +kernel
theorem d3_188 : decode prog_51_method_4_code 188 = .ok (.iaload, 1) := by decide +kernel
theorem d3_189 : decode prog_51_method_4_code 189 = .ok (.dup_x2, 1) := by decide +kernel
theorem d3_190 : decode prog_51_method_4_code 190 = .ok (.iconst 1, 1) := by decide +kernel
theorem d3_191 : decode prog_51_method_4_code 191 = .ok (.iadd, 1) := by decide +kernel
theorem d3_192 : decode prog_51_method_4_code 192 = .ok (.iastore, 1) := by decide +kernel
theorem d3_193 : decode prog_51_method_4_code 193 = .ok (.iload 10, 2) := by decide +kernel
theorem d3_195 : decode prog_51_method_4_code 195 = .ok (.iastore, 1) := by decide +kernel
theorem d3_196 : decode prog_51_method_4_code 196 = .ok (.iinc 9 1, 3) := by decide +kernel
theorem d3_199 : decode prog_51_method_4_code 199 = .ok (.goto (-39), 3) := by decide +kernel
theorem d3_202 : decode prog_51_method_4_code 202 = .ok (.aload_n 1, 1) := by decide +kernel
theorem d3_203 : decode prog_51_method_4_code 203 = .ok (.astore 7, 2) := by decide +kernel
theorem d3_205 : decode prog_51_method_4_code 205 = .ok (.aload 4, 2) := by decide +kernel
theorem d3_207 : decode prog_51_method_4_code 207 = .ok (.astore_n 1, 1) := by decide +kernel
theorem d3_208 : decode prog_51_method_4_code 208 = .ok (.aload 7, 2) := by decide +kernel
theorem d3_210 : decode prog_51_method_4_code 210 = .ok (.astore 4, 2) := by decide +kernel
theorem d3_212 : decode prog_51_method_4_code 212 = .ok (.iinc 5 8, 3) := by decide +kernel
theorem d3_215 : decode prog_51_method_4_code 215 = .ok (.goto (-170), 3) := by decide +kernel
theorem d3_218 : decode prog_51_method_4_code 218 = .ok (.aload_n 1, 1) := by decide +kernel
theorem d3_219 : decode prog_51_method_4_code 219 = .ok (.areturn, 1) := by decide +kernel
def Q3 (Z : State) (a1 : Addr) (w0 w1 w2 : Int64) (h0 : Heap) (n0 : Nat) (v : Option Value) (h : Heap) (L : List Loc) : Prop := ∃ b : Addr, v = some (.ref b) ∧ Fr n0 L ∧ Keep h0 h [] ∧ n0 ≤ b ∧ h0.size ≤ b ∧ AI Z h b .int (own_Srt w0 w1 w2)
set_option maxRecDepth 65536 in
set_option maxHeartbeats 40000000 in
theorem pass_64 (l : Launch) (Z : State) (a0 : Array Value) (hw : ∀ d ∈ tables_1, d.before a0 Z = true) (a1 : Addr) (w0 w1 w2 : Int64) (h0 : Heap) (n0 : Nat) (hW0 : 0 ≤ w0.toInt) (hW1 : 0 ≤ w1.toInt) (hW2 : 0 ≤ w2.toInt) {p : Program} {e : Env} {s : State} {m : MethodId} {below : List Frame} {meth : Method} {c : Code} (hret : meth.sig.returnType = some FieldType.int.array) (hZ : Z.Warmed39 s.vm) (hx : p.tables.exec = Jvm.exec) (hby : c.code = prog_51_method_4_code) (hml : c.maxLocals = 11) (hown : s.vm.findClass "com/example/prefixwood/prefixwood/huffman/TwoQueues" = some m.cls) (hlk : meth.locks = false) (bt : Int64) (hbt : bt.toBitVec = (w0.toBitVec ||| w1.toBitVec) ||| w2.toBitVec) :
    ∀ (bb64 cc64 ea64 eb64 : Addr) (yy64 : Int32) (MM64 : List Int32) (Tp_64 : State) (hp_64 : Heap) (lp_64 : List Loc), (MM64.length = 3) → (bb64 ≠ cc64) → (a1 ≠ bb64) → (a1 ≠ cc64) → (n0 ≤ bb64) → (n0 ≤ cc64) → (h0.size ≤ bb64) → (h0.size ≤ cc64) → (Stand p l e ({ frames := 1, cells := 10, slots := 2062, locals := 16 } : Room) s m #[(.ref a1)] below meth c Tp_64 lp_64 10 2062) → (Tp_64.heap = hp_64) → (Fr n0 lp_64) → (n0 ≤ hp_64.size) → (Keep h0 hp_64 []) → (AJ Z hp_64 a1 [w0, w1, w2]) → (AI Z hp_64 bb64 .int (own_K w0 w1 w2 64)) → (AI Z hp_64 cc64 .int MM64) → Go p e below s ({ frames := 1, cells := 10, slots := 2062, locals := 16 } : Room).cells ({ frames := 1, cells := 10, slots := 2062, locals := 16 } : Room).slots (Q3 Z a1 w0 w1 w2 h0 n0) Tp_64 (mkF m 45 #[.val (.ref a1), .val (.ref bb64), .val (.long bt), .second, .val (.ref cc64), .val (.int (64 : Int32)), .val (.ref ea64), .val (.ref eb64), .val (.int (3 : Int32)), .val (.int (3 : Int32)), .val (.int yy64)] []) := by
  intro bb64 cc64 ea64 eb64 yy64 MM64 Tp_64 hp_64 lp_64 hM64 nbc_64 nab_64 nac_64 g_bb64 g_cc64 sz_bb64 sz_cc64 Xp_64 ep_64 Np_64 Zp_64 Kp_64 fa_64 fb_64 fc_64
  obtain ⟨x0_64, x1_64, x2_64, hk64, hX64⟩ := own_KX w0 w1 w2 64
  have AX64 : AI Z hp_64 bb64 .int [x0_64, x1_64, x2_64] := by rw [← hk64]; exact fb_64
  have hR64 := own_sixR _ _ _ _ _ _ hX64
  have hB64 := own_sixB _ _ _ _ _ _ hX64
  refine g_iload 47 Xp_64 hx (hb hby d3_45) rfl (v := (64 : Int32)) rfl ?_
  refine g_bipush 49 Xp_64 hx (hb hby d3_47) rfl (z := (64 : Int32)) rfl ?_
  refine g_icmpYes 218 Xp_64 hx (hb hby d3_49)  (flt (Int32.lt_irrefl)).2.1 (by decide) (by decide) ?_
  refine g_aloadN 219 Xp_64 hx (hb hby d3_218) rfl (v := (.ref bb64)) rfl rfl ?_
  have hend : own_K w0 w1 w2 64 = own_Srt w0 w1 w2 := own_KS w0 w1 w2 64 (own_bits64 w0 hW0) (own_bits64 w1 hW1) (own_bits64 w2 hW2)
  rw [hend] at fb_64
  exact g_retA Xp_64 hx hret hlk rfl rfl rfl (hb hby d3_219) (by decide) (by decide) (by
        show Q3 Z a1 w0 w1 w2 h0 n0 _ Tp_64.heap _
        rw [ep_64]
        exact ⟨bb64, rfl, Np_64, Kp_64, g_bb64, sz_bb64, fb_64⟩)
set_option maxRecDepth 65536 in
set_option maxHeartbeats 40000000 in
theorem pass_56 (l : Launch) (Z : State) (a0 : Array Value) (hw : ∀ d ∈ tables_1, d.before a0 Z = true) (a1 : Addr) (w0 w1 w2 : Int64) (h0 : Heap) (n0 : Nat) (hW0 : 0 ≤ w0.toInt) (hW1 : 0 ≤ w1.toInt) (hW2 : 0 ≤ w2.toInt) {p : Program} {e : Env} {s : State} {m : MethodId} {below : List Frame} {meth : Method} {c : Code} (hret : meth.sig.returnType = some FieldType.int.array) (hZ : Z.Warmed39 s.vm) (hx : p.tables.exec = Jvm.exec) (hby : c.code = prog_51_method_4_code) (hml : c.maxLocals = 11) (hown : s.vm.findClass "com/example/prefixwood/prefixwood/huffman/TwoQueues" = some m.cls) (hlk : meth.locks = false) (bt : Int64) (hbt : bt.toBitVec = (w0.toBitVec ||| w1.toBitVec) ||| w2.toBitVec) :
    ∀ (bb56 cc56 ea56 eb56 : Addr) (yy56 : Int32) (MM56 : List Int32) (Tp_56 : State) (hp_56 : Heap) (lp_56 : List Loc), (MM56.length = 3) → (bb56 ≠ cc56) → (a1 ≠ bb56) → (a1 ≠ cc56) → (n0 ≤ bb56) → (n0 ≤ cc56) → (h0.size ≤ bb56) → (h0.size ≤ cc56) → (Stand p l e ({ frames := 1, cells := 10, slots := 2062, locals := 16 } : Room) s m #[(.ref a1)] below meth c Tp_56 lp_56 9 1805) → (Tp_56.heap = hp_56) → (Fr n0 lp_56) → (n0 ≤ hp_56.size) → (Keep h0 hp_56 []) → (AJ Z hp_56 a1 [w0, w1, w2]) → (AI Z hp_56 bb56 .int (own_K w0 w1 w2 56)) → (AI Z hp_56 cc56 .int MM56) → Go p e below s ({ frames := 1, cells := 10, slots := 2062, locals := 16 } : Room).cells ({ frames := 1, cells := 10, slots := 2062, locals := 16 } : Room).slots (Q3 Z a1 w0 w1 w2 h0 n0) Tp_56 (mkF m 45 #[.val (.ref a1), .val (.ref bb56), .val (.long bt), .second, .val (.ref cc56), .val (.int (56 : Int32)), .val (.ref ea56), .val (.ref eb56), .val (.int (3 : Int32)), .val (.int (3 : Int32)), .val (.int yy56)] []) := by
  intro bb56 cc56 ea56 eb56 yy56 MM56 Tp_56 hp_56 lp_56 hM56 nbc_56 nab_56 nac_56 g_bb56 g_cc56 sz_bb56 sz_cc56 Xp_56 ep_56 Np_56 Zp_56 Kp_56 fa_56 fb_56 fc_56
  obtain ⟨x0_56, x1_56, x2_56, hk56, hX56⟩ := own_KX w0 w1 w2 56
  have AX56 : AI Z hp_56 bb56 .int [x0_56, x1_56, x2_56] := by rw [← hk56]; exact fb_56
  have hR56 := own_sixR _ _ _ _ _ _ hX56
  have hB56 := own_sixB _ _ _ _ _ _ hX56
  refine g_iload 47 Xp_56 hx (hb hby d3_45) rfl (v := (56 : Int32)) rfl ?_
  refine g_bipush 49 Xp_56 hx (hb hby d3_47) rfl (z := (64 : Int32)) rfl ?_
  refine g_icmpNo 52 Xp_56 hx (hb hby d3_49)  (tlt (by decide : (56 : Int32) < (64 : Int32))).2.1 rfl ?_
  refine g_lloadN 53 Xp_56 hx (hb hby d3_52) rfl (v := bt) rfl ?_
  refine g_iload 55 Xp_56 hx (hb hby d3_53) rfl (v := (56 : Int32)) rfl ?_
  refine g_lushr 56 Xp_56 hx (hb hby d3_55) rfl (z := ((bt.toUInt64 >>> ((56 : Int32) &&& 0x3f).toInt64.toUInt64).toInt64)) rfl ?_
  refine g_lconst 57 Xp_56 hx (hb hby d3_56) rfl (z := (0 : Int64)) rfl ?_
  by_cases hc57_24 : ((bt.toUInt64 >>> ((56 : Int32) &&& 0x3f).toInt64.toUInt64).toInt64) = (0 : Int64)
  ·
    refine g_lcmpYes 218 Xp_56 hx (hb hby d3_57) rfl (hb hby d3_58) (teqL hc57_24).1 (by decide) (by decide) ?_
    refine g_aloadN 219 Xp_56 hx (hb hby d3_218) rfl (v := (.ref bb56)) rfl rfl ?_
    have hend : own_K w0 w1 w2 56 = own_Srt w0 w1 w2 := (fun q => own_KS w0 w1 w2 56 q.1 q.2.1 q.2.2) (own_bitsL w0 w1 w2 (56 : Int32) 56 (by decide) hW0 hW1 hW2 bt hbt hc57_24)
    rw [hend] at fb_56
    exact g_retA Xp_56 hx hret hlk rfl rfl rfl (hb hby d3_219) (by decide) (by decide) (by
        show Q3 Z a1 w0 w1 w2 h0 n0 _ Tp_56.heap _
        rw [ep_56]
        exact ⟨bb56, rfl, Np_56, Kp_56, g_bb56, sz_bb56, fb_56⟩)
  ·
    refine g_lcmpNo 61 Xp_56 hx (hb hby d3_57) rfl (hb hby d3_58) (feqL hc57_24).1 rfl ?_
    refine g_sipush 64 Xp_56 hx (hb hby d3_61) rfl (z := (257 : Int32)) rfl ?_
    refine g_new_int 66 Xp_56 hx hZ (hw _ (List.mem_of_getElem? (i := 16) rfl)) ep_56 257 257 (by decide) rfl (by decide) (by decide) (by decide) (by decide) (hb hby d3_64) rfl ?_
    intro T26 h26 b26 X26 e26 E26 g26 A26
    have f27 := fa_56.ext E26
    have f28 := AX56.ext E26
    have f29 := fc_56.ext E26
    have Zs30 : n0 ≤ h26.size := (Nat.le_trans Zp_56 E26.1)
    have K31 : Keep h0 h26 [] := Kp_56.ext E26
    have g_b26 : n0 ≤ b26 := Nat.le_trans Zp_56 (Nat.le_of_eq g26.symm)
    have sz_b26 : h0.size ≤ b26 := Nat.le_trans Kp_56.1 (Nat.le_of_eq g26.symm)
    refine g_astore 68 X26 hx (hb hby d3_66) rfl (Ls' := #[.val (.ref a1), .val (.ref bb56), .val (.long bt), .second, .val (.ref cc56), .val (.int (56 : Int32)), .val (.ref b26), .val (.ref eb56), .val (.int (3 : Int32)), .val (.int (3 : Int32)), .val (.int yy56)]) rfl rfl ?_
    refine g_aloadN 69 X26 hx (hb hby d3_68) rfl (v := (.ref bb56)) rfl rfl ?_
    refine g_astore 71 X26 hx (hb hby d3_69) rfl (Ls' := #[.val (.ref a1), .val (.ref bb56), .val (.long bt), .second, .val (.ref cc56), .val (.int (56 : Int32)), .val (.ref b26), .val (.ref bb56), .val (.int (3 : Int32)), .val (.int (3 : Int32)), .val (.int yy56)]) rfl rfl ?_
    refine g_aload 73 X26 hx (hb hby d3_71) rfl (v := (.ref bb56)) rfl rfl ?_
    refine g_arraylengthI 74 X26 hx hZ e26 f28 (z := (3 : Int32)) rfl (hb hby d3_73) rfl ?_
    refine g_istore 76 X26 hx (hb hby d3_74) rfl (Ls' := #[.val (.ref a1), .val (.ref bb56), .val (.long bt), .second, .val (.ref cc56), .val (.int (56 : Int32)), .val (.ref b26), .val (.ref bb56), .val (.int (3 : Int32)), .val (.int (3 : Int32)), .val (.int yy56)]) rfl ?_
    refine g_iconst 77 X26 hx (hb hby d3_76) rfl (z := (0 : Int32)) rfl ?_
    refine g_istore 79 X26 hx (hb hby d3_77) rfl (Ls' := #[.val (.ref a1), .val (.ref bb56), .val (.long bt), .second, .val (.ref cc56), .val (.int (56 : Int32)), .val (.ref b26), .val (.ref bb56), .val (.int (3 : Int32)), .val (.int (0 : Int32)), .val (.int yy56)]) rfl ?_
    refine g_iload 81 X26 hx (hb hby d3_79) rfl (v := (0 : Int32)) rfl ?_
    refine g_iload 83 X26 hx (hb hby d3_81) rfl (v := (3 : Int32)) rfl ?_
    refine g_icmpNo 86 X26 hx (hb hby d3_83)  (tlt (by decide : (0 : Int32) < (3 : Int32))).2.1 rfl ?_
    refine g_aload 88 X26 hx (hb hby d3_86) rfl (v := (.ref bb56)) rfl rfl ?_
    refine g_iload 90 X26 hx (hb hby d3_88) rfl (v := (0 : Int32)) rfl ?_
    refine g_iaload 91 X26 hx hZ e26 f28 0 (by decide) rfl (z := x0_56) rfl (hb hby d3_90) rfl ?_
    refine g_istore 93 X26 hx (hb hby d3_91) rfl (Ls' := #[.val (.ref a1), .val (.ref bb56), .val (.long bt), .second, .val (.ref cc56), .val (.int (56 : Int32)), .val (.ref b26), .val (.ref bb56), .val (.int (3 : Int32)), .val (.int (0 : Int32)), .val (.int x0_56)]) rfl ?_
    refine g_aload 95 X26 hx (hb hby d3_93) rfl (v := (.ref b26)) rfl rfl ?_
    refine g_aloadN 96 X26 hx (hb hby d3_95) rfl (v := (.ref a1)) rfl rfl ?_
    refine g_iload 98 X26 hx (hb hby d3_96) rfl (v := x0_56) rfl ?_
    refine g_laload 99 X26 hx hZ e26 f27 (x0_56.toInt.toNat) (own_nat0 hB56.1.1) rfl (z := (([w0, w1, w2] : List Int64).getD x0_56.toInt.toNat 0)) (own_getJ (by have q := hB56.1; show _ < 3; omega)) (hb hby d3_98) rfl ?_
    refine g_iload 101 X26 hx (hb hby d3_99) rfl (v := (56 : Int32)) rfl ?_
    have hq101_hq_32 : 0 ≤ (([w0, w1, w2] : List Int64).getD x0_56.toInt.toNat 0).toInt := (own_wN w0 w1 w2 hW0 hW1 hW2 x0_56 hR56.1)
    have hq101_hp_33 : 0 ≤ (56 : Int32).toInt ∧ (56 : Int32).toInt ≤ 63 := by decide
    refine g_callS 104 X26 hx hZ (y := (⟨"com/example/prefixwood/prefixwood/huffman/TwoQueues", "digit", "(JI)I"⟩ : MethodName)) hown (hw _ (List.mem_of_getElem? (i := 17) rfl)) (hw _ (List.mem_of_getElem? (i := 18) rfl)) (hw _ (List.mem_of_getElem? (i := 4) rfl)) (hw _ (List.mem_of_getElem? (i := 19) rfl)) (by decide) e26 (rm4 l Z a0 hw [] (([w0, w1, w2] : List Int64).getD x0_56.toInt.toNat 0) (56 : Int32)  h26 n0 Zs30 hq101_hq_32 hq101_hp_33) (by rw [hml]; rfl) [(.long (([w0, w1, w2] : List Int64).getD x0_56.toInt.toNat 0)), (.int (56 : Int32))] [(.ref b26)] rfl rfl (lenOf pd_0 rfl) 1 (Nat.le_of_eq rfl) (hb hby d3_101) (by decide) (by decide) (by decide) (by decide) rfl ?_
    intro v32 T32 L32 X32 hQ32
    obtain ⟨r32, rfl, hr32, N32q, e32⟩ := hQ32
    have N32 := Fr.app Np_56 N32q
    show Go p e below s ({ frames := 1, cells := 10, slots := 2062, locals := 16 } : Room).cells ({ frames := 1, cells := 10, slots := 2062, locals := 16 } : Room).slots (Q3 Z a1 w0 w1 w2 h0 n0) T32 (mkF m 104 #[.val (.ref a1), .val (.ref bb56), .val (.long bt), .second, .val (.ref cc56), .val (.int (56 : Int32)), .val (.ref b26), .val (.ref bb56), .val (.int (3 : Int32)), .val (.int (0 : Int32)), .val (.int x0_56)] [(.int r32), (.ref b26)])
    have hD0_56 : own_dig (([w0, w1, w2] : List Int64).getD x0_56.toInt.toNat 0) 56 r32 := hr32
    have hE0_56 := own_dgB _ _ _ hD0_56
    refine g_iconst 105 X32 hx (hb hby d3_104) rfl (z := (1 : Int32)) rfl ?_
    refine g_iadd 106 X32 hx (hb hby d3_105) rfl (z := (r32 + (1 : Int32))) rfl ?_
    refine g_dup2 107 X32 hx (hb hby d3_106) rfl rfl rfl ?_
    refine g_iaload 108 X32 hx hZ e32 A26 (r32.toInt.toNat + 1) (own_nat0 (by have q := hE0_56; rw [own_inc (by omega)]; omega)) (by have q := hE0_56; show (Int32.toInt _).toNat = _; rw [own_inc (by omega)]; omega) (z := ((List.replicate 257 (0 : Int32)).getD (r32.toInt.toNat + 1) 0)) (own_get (by have q := hE0_56; simp only [own_upl, List.length_replicate]; omega)) (hb hby d3_107) rfl ?_
    refine g_iconst 109 X32 hx (hb hby d3_108) rfl (z := (1 : Int32)) rfl ?_
    refine g_iadd 110 X32 hx (hb hby d3_109) rfl (z := (((List.replicate 257 (0 : Int32)).getD (r32.toInt.toNat + 1) 0) + (1 : Int32))) rfl ?_
    refine g_iastore 111 X32 hx hZ e32 A26 (r32.toInt.toNat + 1) (own_nat0 (by have q := hE0_56; rw [own_inc (by omega)]; omega)) (by have q := hE0_56; show (Int32.toInt _).toNat = _; rw [own_inc (by omega)]; omega) (by have q := hE0_56; simp only [own_upl, List.length_replicate]; omega) (z := (((List.replicate 257 (0 : Int32)).getD (r32.toInt.toNat + 1) 0) + (1 : Int32))) rfl (hb hby d3_110) rfl ?_
    intro T35 h35 X35 e35 W35 A35
    have f36 := f27.other W35 (Nat.ne_of_lt (Nat.lt_of_lt_of_le fa_56.lt (Nat.le_of_eq g26.symm)))
    have f37 := f28.other W35 (Nat.ne_of_lt (Nat.lt_of_lt_of_le AX56.lt (Nat.le_of_eq g26.symm)))
    have f38 := f29.other W35 (Nat.ne_of_lt (Nat.lt_of_lt_of_le fc_56.lt (Nat.le_of_eq g26.symm)))
    have Zs39 : n0 ≤ h35.size := (Nat.le_trans Zs30 (Keep.of_wr W35).1)
    have K40 : Keep h0 h35 [] := K31.wr W35 (Or.inr sz_b26)
    have N41 := Fr.snoc X35 N32 g_b26
    have AU42 : AI Z h35 b26 .int (own_up (List.replicate 257 (0 : Int32)) (r32.toInt.toNat + 1)) := A35
    refine g_iinc 114 X35 hx (hb hby d3_111) rfl (x := (0 : Int32)) rfl (z := (1 : Int32)) (by decide) (Ls' := #[.val (.ref a1), .val (.ref bb56), .val (.long bt), .second, .val (.ref cc56), .val (.int (56 : Int32)), .val (.ref b26), .val (.ref bb56), .val (.int (3 : Int32)), .val (.int (1 : Int32)), .val (.int x0_56)]) rfl ?_
    refine g_goto 79 X35 hx (hb hby d3_114) (by decide) (by decide) ?_
    refine g_iload 81 X35 hx (hb hby d3_79) rfl (v := (1 : Int32)) rfl ?_
    refine g_iload 83 X35 hx (hb hby d3_81) rfl (v := (3 : Int32)) rfl ?_
    refine g_icmpNo 86 X35 hx (hb hby d3_83)  (tlt (by decide : (1 : Int32) < (3 : Int32))).2.1 rfl ?_
    refine g_aload 88 X35 hx (hb hby d3_86) rfl (v := (.ref bb56)) rfl rfl ?_
    refine g_iload 90 X35 hx (hb hby d3_88) rfl (v := (1 : Int32)) rfl ?_
    refine g_iaload 91 X35 hx hZ e35 f37 1 (by decide) rfl (z := x1_56) rfl (hb hby d3_90) rfl ?_
    refine g_istore 93 X35 hx (hb hby d3_91) rfl (Ls' := #[.val (.ref a1), .val (.ref bb56), .val (.long bt), .second, .val (.ref cc56), .val (.int (56 : Int32)), .val (.ref b26), .val (.ref bb56), .val (.int (3 : Int32)), .val (.int (1 : Int32)), .val (.int x1_56)]) rfl ?_
    refine g_aload 95 X35 hx (hb hby d3_93) rfl (v := (.ref b26)) rfl rfl ?_
    refine g_aloadN 96 X35 hx (hb hby d3_95) rfl (v := (.ref a1)) rfl rfl ?_
    refine g_iload 98 X35 hx (hb hby d3_96) rfl (v := x1_56) rfl ?_
    refine g_laload 99 X35 hx hZ e35 f36 (x1_56.toInt.toNat) (own_nat0 hB56.2.1.1) rfl (z := (([w0, w1, w2] : List Int64).getD x1_56.toInt.toNat 0)) (own_getJ (by have q := hB56.2.1; show _ < 3; omega)) (hb hby d3_98) rfl ?_
    refine g_iload 101 X35 hx (hb hby d3_99) rfl (v := (56 : Int32)) rfl ?_
    have hq101_hq_43 : 0 ≤ (([w0, w1, w2] : List Int64).getD x1_56.toInt.toNat 0).toInt := (own_wN w0 w1 w2 hW0 hW1 hW2 x1_56 hR56.2.1)
    have hq101_hp_44 : 0 ≤ (56 : Int32).toInt ∧ (56 : Int32).toInt ≤ 63 := by decide
    refine g_callS 104 X35 hx hZ (y := (⟨"com/example/prefixwood/prefixwood/huffman/TwoQueues", "digit", "(JI)I"⟩ : MethodName)) hown (hw _ (List.mem_of_getElem? (i := 17) rfl)) (hw _ (List.mem_of_getElem? (i := 18) rfl)) (hw _ (List.mem_of_getElem? (i := 4) rfl)) (hw _ (List.mem_of_getElem? (i := 19) rfl)) (by decide) e35 (rm4 l Z a0 hw [] (([w0, w1, w2] : List Int64).getD x1_56.toInt.toNat 0) (56 : Int32)  h35 n0 Zs39 hq101_hq_43 hq101_hp_44) (by rw [hml]; rfl) [(.long (([w0, w1, w2] : List Int64).getD x1_56.toInt.toNat 0)), (.int (56 : Int32))] [(.ref b26)] rfl rfl (lenOf pd_0 rfl) 1 (Nat.le_of_eq rfl) (hb hby d3_101) (by decide) (by decide) (by decide) (by decide) rfl ?_
    intro v43 T43 L43 X43 hQ43
    obtain ⟨r43, rfl, hr43, N43q, e43⟩ := hQ43
    have N43 := Fr.app N41 N43q
    show Go p e below s ({ frames := 1, cells := 10, slots := 2062, locals := 16 } : Room).cells ({ frames := 1, cells := 10, slots := 2062, locals := 16 } : Room).slots (Q3 Z a1 w0 w1 w2 h0 n0) T43 (mkF m 104 #[.val (.ref a1), .val (.ref bb56), .val (.long bt), .second, .val (.ref cc56), .val (.int (56 : Int32)), .val (.ref b26), .val (.ref bb56), .val (.int (3 : Int32)), .val (.int (1 : Int32)), .val (.int x1_56)] [(.int r43), (.ref b26)])
    have hD1_56 : own_dig (([w0, w1, w2] : List Int64).getD x1_56.toInt.toNat 0) 56 r43 := hr43
    have hE1_56 := own_dgB _ _ _ hD1_56
    refine g_iconst 105 X43 hx (hb hby d3_104) rfl (z := (1 : Int32)) rfl ?_
    refine g_iadd 106 X43 hx (hb hby d3_105) rfl (z := (r43 + (1 : Int32))) rfl ?_
    refine g_dup2 107 X43 hx (hb hby d3_106) rfl rfl rfl ?_
    refine g_iaload 108 X43 hx hZ e43 AU42 (r43.toInt.toNat + 1) (own_nat0 (by have q := hE1_56; rw [own_inc (by omega)]; omega)) (by have q := hE1_56; show (Int32.toInt _).toNat = _; rw [own_inc (by omega)]; omega) (z := ((own_up (List.replicate 257 (0 : Int32)) (r32.toInt.toNat + 1)).getD (r43.toInt.toNat + 1) 0)) (own_get (by have q := hE1_56; simp only [own_upl, List.length_replicate]; omega)) (hb hby d3_107) rfl ?_
    refine g_iconst 109 X43 hx (hb hby d3_108) rfl (z := (1 : Int32)) rfl ?_
    refine g_iadd 110 X43 hx (hb hby d3_109) rfl (z := (((own_up (List.replicate 257 (0 : Int32)) (r32.toInt.toNat + 1)).getD (r43.toInt.toNat + 1) 0) + (1 : Int32))) rfl ?_
    refine g_iastore 111 X43 hx hZ e43 AU42 (r43.toInt.toNat + 1) (own_nat0 (by have q := hE1_56; rw [own_inc (by omega)]; omega)) (by have q := hE1_56; show (Int32.toInt _).toNat = _; rw [own_inc (by omega)]; omega) (by have q := hE1_56; simp only [own_upl, List.length_replicate]; omega) (z := (((own_up (List.replicate 257 (0 : Int32)) (r32.toInt.toNat + 1)).getD (r43.toInt.toNat + 1) 0) + (1 : Int32))) rfl (hb hby d3_110) rfl ?_
    intro T46 h46 X46 e46 W46 A46
    have f47 := f36.other W46 (Nat.ne_of_lt (Nat.lt_of_lt_of_le fa_56.lt (Nat.le_of_eq g26.symm)))
    have f48 := f37.other W46 (Nat.ne_of_lt (Nat.lt_of_lt_of_le AX56.lt (Nat.le_of_eq g26.symm)))
    have f49 := f38.other W46 (Nat.ne_of_lt (Nat.lt_of_lt_of_le fc_56.lt (Nat.le_of_eq g26.symm)))
    have Zs50 : n0 ≤ h46.size := (Nat.le_trans Zs39 (Keep.of_wr W46).1)
    have K51 : Keep h0 h46 [] := K40.wr W46 (Or.inr sz_b26)
    have N52 := Fr.snoc X46 N43 g_b26
    have AU53 : AI Z h46 b26 .int (own_up (own_up (List.replicate 257 (0 : Int32)) (r32.toInt.toNat + 1)) (r43.toInt.toNat + 1)) := A46
    refine g_iinc 114 X46 hx (hb hby d3_111) rfl (x := (1 : Int32)) rfl (z := (2 : Int32)) (by decide) (Ls' := #[.val (.ref a1), .val (.ref bb56), .val (.long bt), .second, .val (.ref cc56), .val (.int (56 : Int32)), .val (.ref b26), .val (.ref bb56), .val (.int (3 : Int32)), .val (.int (2 : Int32)), .val (.int x1_56)]) rfl ?_
    refine g_goto 79 X46 hx (hb hby d3_114) (by decide) (by decide) ?_
    refine g_iload 81 X46 hx (hb hby d3_79) rfl (v := (2 : Int32)) rfl ?_
    refine g_iload 83 X46 hx (hb hby d3_81) rfl (v := (3 : Int32)) rfl ?_
    refine g_icmpNo 86 X46 hx (hb hby d3_83)  (tlt (by decide : (2 : Int32) < (3 : Int32))).2.1 rfl ?_
    refine g_aload 88 X46 hx (hb hby d3_86) rfl (v := (.ref bb56)) rfl rfl ?_
    refine g_iload 90 X46 hx (hb hby d3_88) rfl (v := (2 : Int32)) rfl ?_
    refine g_iaload 91 X46 hx hZ e46 f48 2 (by decide) rfl (z := x2_56) rfl (hb hby d3_90) rfl ?_
    refine g_istore 93 X46 hx (hb hby d3_91) rfl (Ls' := #[.val (.ref a1), .val (.ref bb56), .val (.long bt), .second, .val (.ref cc56), .val (.int (56 : Int32)), .val (.ref b26), .val (.ref bb56), .val (.int (3 : Int32)), .val (.int (2 : Int32)), .val (.int x2_56)]) rfl ?_
    refine g_aload 95 X46 hx (hb hby d3_93) rfl (v := (.ref b26)) rfl rfl ?_
    refine g_aloadN 96 X46 hx (hb hby d3_95) rfl (v := (.ref a1)) rfl rfl ?_
    refine g_iload 98 X46 hx (hb hby d3_96) rfl (v := x2_56) rfl ?_
    refine g_laload 99 X46 hx hZ e46 f47 (x2_56.toInt.toNat) (own_nat0 hB56.2.2.1) rfl (z := (([w0, w1, w2] : List Int64).getD x2_56.toInt.toNat 0)) (own_getJ (by have q := hB56.2.2; show _ < 3; omega)) (hb hby d3_98) rfl ?_
    refine g_iload 101 X46 hx (hb hby d3_99) rfl (v := (56 : Int32)) rfl ?_
    have hq101_hq_54 : 0 ≤ (([w0, w1, w2] : List Int64).getD x2_56.toInt.toNat 0).toInt := (own_wN w0 w1 w2 hW0 hW1 hW2 x2_56 hR56.2.2)
    have hq101_hp_55 : 0 ≤ (56 : Int32).toInt ∧ (56 : Int32).toInt ≤ 63 := by decide
    refine g_callS 104 X46 hx hZ (y := (⟨"com/example/prefixwood/prefixwood/huffman/TwoQueues", "digit", "(JI)I"⟩ : MethodName)) hown (hw _ (List.mem_of_getElem? (i := 17) rfl)) (hw _ (List.mem_of_getElem? (i := 18) rfl)) (hw _ (List.mem_of_getElem? (i := 4) rfl)) (hw _ (List.mem_of_getElem? (i := 19) rfl)) (by decide) e46 (rm4 l Z a0 hw [] (([w0, w1, w2] : List Int64).getD x2_56.toInt.toNat 0) (56 : Int32)  h46 n0 Zs50 hq101_hq_54 hq101_hp_55) (by rw [hml]; rfl) [(.long (([w0, w1, w2] : List Int64).getD x2_56.toInt.toNat 0)), (.int (56 : Int32))] [(.ref b26)] rfl rfl (lenOf pd_0 rfl) 1 (Nat.le_of_eq rfl) (hb hby d3_101) (by decide) (by decide) (by decide) (by decide) rfl ?_
    intro v54 T54 L54 X54 hQ54
    obtain ⟨r54, rfl, hr54, N54q, e54⟩ := hQ54
    have N54 := Fr.app N52 N54q
    show Go p e below s ({ frames := 1, cells := 10, slots := 2062, locals := 16 } : Room).cells ({ frames := 1, cells := 10, slots := 2062, locals := 16 } : Room).slots (Q3 Z a1 w0 w1 w2 h0 n0) T54 (mkF m 104 #[.val (.ref a1), .val (.ref bb56), .val (.long bt), .second, .val (.ref cc56), .val (.int (56 : Int32)), .val (.ref b26), .val (.ref bb56), .val (.int (3 : Int32)), .val (.int (2 : Int32)), .val (.int x2_56)] [(.int r54), (.ref b26)])
    have hD2_56 : own_dig (([w0, w1, w2] : List Int64).getD x2_56.toInt.toNat 0) 56 r54 := hr54
    have hE2_56 := own_dgB _ _ _ hD2_56
    refine g_iconst 105 X54 hx (hb hby d3_104) rfl (z := (1 : Int32)) rfl ?_
    refine g_iadd 106 X54 hx (hb hby d3_105) rfl (z := (r54 + (1 : Int32))) rfl ?_
    refine g_dup2 107 X54 hx (hb hby d3_106) rfl rfl rfl ?_
    refine g_iaload 108 X54 hx hZ e54 AU53 (r54.toInt.toNat + 1) (own_nat0 (by have q := hE2_56; rw [own_inc (by omega)]; omega)) (by have q := hE2_56; show (Int32.toInt _).toNat = _; rw [own_inc (by omega)]; omega) (z := ((own_up (own_up (List.replicate 257 (0 : Int32)) (r32.toInt.toNat + 1)) (r43.toInt.toNat + 1)).getD (r54.toInt.toNat + 1) 0)) (own_get (by have q := hE2_56; simp only [own_upl, List.length_replicate]; omega)) (hb hby d3_107) rfl ?_
    refine g_iconst 109 X54 hx (hb hby d3_108) rfl (z := (1 : Int32)) rfl ?_
    refine g_iadd 110 X54 hx (hb hby d3_109) rfl (z := (((own_up (own_up (List.replicate 257 (0 : Int32)) (r32.toInt.toNat + 1)) (r43.toInt.toNat + 1)).getD (r54.toInt.toNat + 1) 0) + (1 : Int32))) rfl ?_
    refine g_iastore 111 X54 hx hZ e54 AU53 (r54.toInt.toNat + 1) (own_nat0 (by have q := hE2_56; rw [own_inc (by omega)]; omega)) (by have q := hE2_56; show (Int32.toInt _).toNat = _; rw [own_inc (by omega)]; omega) (by have q := hE2_56; simp only [own_upl, List.length_replicate]; omega) (z := (((own_up (own_up (List.replicate 257 (0 : Int32)) (r32.toInt.toNat + 1)) (r43.toInt.toNat + 1)).getD (r54.toInt.toNat + 1) 0) + (1 : Int32))) rfl (hb hby d3_110) rfl ?_
    intro T57 h57 X57 e57 W57 A57
    have f58 := f47.other W57 (Nat.ne_of_lt (Nat.lt_of_lt_of_le fa_56.lt (Nat.le_of_eq g26.symm)))
    have f59 := f48.other W57 (Nat.ne_of_lt (Nat.lt_of_lt_of_le AX56.lt (Nat.le_of_eq g26.symm)))
    have f60 := f49.other W57 (Nat.ne_of_lt (Nat.lt_of_lt_of_le fc_56.lt (Nat.le_of_eq g26.symm)))
    have Zs61 : n0 ≤ h57.size := (Nat.le_trans Zs50 (Keep.of_wr W57).1)
    have K62 : Keep h0 h57 [] := K51.wr W57 (Or.inr sz_b26)
    have N63 := Fr.snoc X57 N54 g_b26
    have AU64 : AI Z h57 b26 .int (own_up (own_up (own_up (List.replicate 257 (0 : Int32)) (r32.toInt.toNat + 1)) (r43.toInt.toNat + 1)) (r54.toInt.toNat + 1)) := A57
    refine g_iinc 114 X57 hx (hb hby d3_111) rfl (x := (2 : Int32)) rfl (z := (3 : Int32)) (by decide) (Ls' := #[.val (.ref a1), .val (.ref bb56), .val (.long bt), .second, .val (.ref cc56), .val (.int (56 : Int32)), .val (.ref b26), .val (.ref bb56), .val (.int (3 : Int32)), .val (.int (3 : Int32)), .val (.int x2_56)]) rfl ?_
    refine g_goto 79 X57 hx (hb hby d3_114) (by decide) (by decide) ?_
    refine g_iload 81 X57 hx (hb hby d3_79) rfl (v := (3 : Int32)) rfl ?_
    refine g_iload 83 X57 hx (hb hby d3_81) rfl (v := (3 : Int32)) rfl ?_
    refine g_icmpYes 117 X57 hx (hb hby d3_83)  (flt (Int32.lt_irrefl)).2.1 (by decide) (by decide) ?_
    refine g_iconst 118 X57 hx (hb hby d3_117) rfl (z := (1 : Int32)) rfl ?_
    refine g_istore 120 X57 hx (hb hby d3_118) rfl (Ls' := #[.val (.ref a1), .val (.ref bb56), .val (.long bt), .second, .val (.ref cc56), .val (.int (56 : Int32)), .val (.ref b26), .val (.int (1 : Int32)), .val (.int (3 : Int32)), .val (.int (3 : Int32)), .val (.int x2_56)]) rfl ?_
    have LOOP120_56 : ∀ (fuel_56 : Nat) (lv56 : Int32) (gF56 : List Int32) (Tl_56 : State) (hl_56 : Heap) (lo_56 : List Loc), (257 - lv56.toInt).toNat < fuel_56 → (1 ≤ lv56.toInt ∧ lv56.toInt ≤ 257) → (gF56.length = 257) → (own_pfx (257 - lv56.toInt).toNat lv56.toInt.toNat gF56 = own_pfx 256 1 (own_C r32.toInt.toNat r43.toInt.toNat r54.toInt.toNat)) → (Stand p l e ({ frames := 1, cells := 10, slots := 2062, locals := 16 } : Room) s m #[(.ref a1)] below meth c Tl_56 lo_56 10 2062) → (Tl_56.heap = hl_56) → (Fr n0 lo_56) → (n0 ≤ hl_56.size) → (Keep h0 hl_56 []) → (AJ Z hl_56 a1 [w0, w1, w2]) → (AI Z hl_56 bb56 .int [x0_56, x1_56, x2_56]) → (AI Z hl_56 cc56 .int MM56) → (AI Z hl_56 b26 .int gF56) → Go p e below s ({ frames := 1, cells := 10, slots := 2062, locals := 16 } : Room).cells ({ frames := 1, cells := 10, slots := 2062, locals := 16 } : Room).slots (Q3 Z a1 w0 w1 w2 h0 n0) Tl_56 (mkF m 120 #[.val (.ref a1), .val (.ref bb56), .val (.long bt), .second, .val (.ref cc56), .val (.int (56 : Int32)), .val (.ref b26), .val (.int lv56), .val (.int (3 : Int32)), .val (.int (3 : Int32)), .val (.int x2_56)] []) := by
      intro fuel_56
      induction fuel_56 with
      | zero => intro lv56 gF56 Tl_56 hl_56 lo_56 hm; exact absurd hm (Nat.not_lt_zero _)
      | succ fuel_56 ih_56 =>
        intro lv56 gF56 Tl_56 hl_56 lo_56 hm_56 hv56 hgl56 hgF56 Xl_56 el_56 Nl_56 Zl_56 Kl_56 fl_56_0 fl_56_1 fl_56_2 fl_56_3
        refine g_iload 122 Xl_56 hx (hb hby d3_120) rfl (v := lv56) rfl ?_
        refine g_aload 124 Xl_56 hx (hb hby d3_122) rfl (v := (.ref b26)) rfl rfl ?_
        refine g_arraylengthI 125 Xl_56 hx hZ el_56 fl_56_3 (z := (257 : Int32)) (by rw [hgl56]; rfl) (hb hby d3_124) rfl ?_
        by_cases hc125_64 : lv56 < (257 : Int32)
        ·
          refine g_icmpNo 128 Xl_56 hx (hb hby d3_125)  (tlt hc125_64).2.1 rfl ?_
          refine g_aload 130 Xl_56 hx (hb hby d3_128) rfl (v := (.ref b26)) rfl rfl ?_
          refine g_iload 132 Xl_56 hx (hb hby d3_130) rfl (v := lv56) rfl ?_
          refine g_dup2 133 Xl_56 hx (hb hby d3_132) rfl rfl rfl ?_
          refine g_iaload 134 Xl_56 hx hZ el_56 fl_56_3 (lv56.toInt.toNat) (own_nat0 (by omega)) rfl (z := (gF56.getD lv56.toInt.toNat 0)) (own_get (by have q := Int32.lt_iff_toInt_lt.mp hc125_64; simp only [Int32.reduceToInt] at q; rw [hgl56]; omega)) (hb hby d3_133) rfl ?_
          refine g_aload 136 Xl_56 hx (hb hby d3_134) rfl (v := (.ref b26)) rfl rfl ?_
          refine g_iload 138 Xl_56 hx (hb hby d3_136) rfl (v := lv56) rfl ?_
          refine g_iconst 139 Xl_56 hx (hb hby d3_138) rfl (z := (1 : Int32)) rfl ?_
          refine g_isub 140 Xl_56 hx (hb hby d3_139) rfl (z := (lv56 - (1 : Int32))) rfl ?_
          refine g_iaload 141 Xl_56 hx hZ el_56 fl_56_3 (lv56.toInt.toNat - 1) (own_nat0 (by have q := Int32.lt_iff_toInt_lt.mp hc125_64; simp only [Int32.reduceToInt] at q; rw [own_dec1 (by omega)]; omega)) (by have q := Int32.lt_iff_toInt_lt.mp hc125_64; simp only [Int32.reduceToInt] at q; show (Int32.toInt _).toNat = _; rw [own_dec1 (by omega)]; omega) (z := (gF56.getD (lv56.toInt.toNat - 1) 0)) (own_get (by have q := Int32.lt_iff_toInt_lt.mp hc125_64; simp only [Int32.reduceToInt] at q; rw [hgl56]; omega)) (hb hby d3_140) rfl ?_
          refine g_iadd 142 Xl_56 hx (hb hby d3_141) rfl (z := ((gF56.getD lv56.toInt.toNat 0) + (gF56.getD (lv56.toInt.toNat - 1) 0))) rfl ?_
          refine g_iastore 143 Xl_56 hx hZ el_56 fl_56_3 (lv56.toInt.toNat) (own_nat0 (by omega)) rfl (by have q := Int32.lt_iff_toInt_lt.mp hc125_64; simp only [Int32.reduceToInt] at q; rw [hgl56]; omega) (z := ((gF56.getD lv56.toInt.toNat 0) + (gF56.getD (lv56.toInt.toNat - 1) 0))) rfl (hb hby d3_142) rfl ?_
          intro T66 h66 X66 e66 W66 A66
          have f67 := fl_56_0.other W66 (Nat.ne_of_lt (Nat.lt_of_lt_of_le fa_56.lt (Nat.le_of_eq g26.symm)))
          have f68 := fl_56_1.other W66 (Nat.ne_of_lt (Nat.lt_of_lt_of_le AX56.lt (Nat.le_of_eq g26.symm)))
          have f69 := fl_56_2.other W66 (Nat.ne_of_lt (Nat.lt_of_lt_of_le fc_56.lt (Nat.le_of_eq g26.symm)))
          have Zs70 : n0 ≤ h66.size := (Nat.le_trans Zl_56 (Keep.of_wr W66).1)
          have K71 : Keep h0 h66 [] := Kl_56.wr W66 (Or.inr sz_b26)
          have N72 := Fr.snoc X66 Nl_56 g_b26
          refine g_iinc 146 X66 hx (hb hby d3_143) rfl (x := lv56) rfl (z := (lv56 + (1 : Int32))) rfl (Ls' := #[.val (.ref a1), .val (.ref bb56), .val (.long bt), .second, .val (.ref cc56), .val (.int (56 : Int32)), .val (.ref b26), .val (.int (lv56 + (1 : Int32))), .val (.int (3 : Int32)), .val (.int (3 : Int32)), .val (.int x2_56)]) rfl ?_
          refine g_goto 120 X66 hx (hb hby d3_146) (by decide) (by decide) ?_
          exact ih_56 (lv56 + (1 : Int32)) (List.set gF56 (lv56.toInt.toNat) ((gF56.getD lv56.toInt.toNat 0) + (gF56.getD (lv56.toInt.toNat - 1) 0))) T66 h66 _ (by have q := Int32.lt_iff_toInt_lt.mp hc125_64; simp only [Int32.reduceToInt] at q; rw [own_inc (by omega)]; omega) (by have q := Int32.lt_iff_toInt_lt.mp hc125_64; simp only [Int32.reduceToInt] at q; rw [own_inc (by omega)]; omega) (by rw [List.length_set]; exact hgl56) (own_pfxstep lv56 gF56 _ (by have q := Int32.lt_iff_toInt_lt.mp hc125_64; simp only [Int32.reduceToInt] at q; omega) hgF56) X66 e66 N72 Zs70 K71 f67 f68 f69 A66
        ·
          refine g_icmpYes 149 Xl_56 hx (hb hby d3_125)  (flt hc125_64).2.1 (by decide) (by decide) ?_
          have hG56 : gF56 = own_pfx 256 1 (own_C r32.toInt.toNat r43.toInt.toNat r54.toInt.toNat) := by have q := mt Int32.lt_iff_toInt_lt.mpr hc125_64; simp only [Int32.reduceToInt] at q; rw [← hgF56, show (257 - lv56.toInt).toNat = 0 by omega]; rfl
          have hH56 := own_PS r32.toInt.toNat r43.toInt.toNat r54.toInt.toNat (by omega) (by omega) (by omega)
          rw [← hG56] at hH56
          have hQ56_ := own_qs gF56 r32.toInt.toNat r43.toInt.toNat r54.toInt.toNat (by omega) (by omega) (by omega) hH56
          have hq56_ := own_qB r32.toInt.toNat r43.toInt.toNat r54.toInt.toNat
          refine g_aloadN 150 Xl_56 hx (hb hby d3_149) rfl (v := (.ref bb56)) rfl rfl ?_
          refine g_astore 152 Xl_56 hx (hb hby d3_150) rfl (Ls' := #[.val (.ref a1), .val (.ref bb56), .val (.long bt), .second, .val (.ref cc56), .val (.int (56 : Int32)), .val (.ref b26), .val (.ref bb56), .val (.int (3 : Int32)), .val (.int (3 : Int32)), .val (.int x2_56)]) rfl rfl ?_
          refine g_aload 154 Xl_56 hx (hb hby d3_152) rfl (v := (.ref bb56)) rfl rfl ?_
          refine g_arraylengthI 155 Xl_56 hx hZ el_56 fl_56_1 (z := (3 : Int32)) rfl (hb hby d3_154) rfl ?_
          refine g_istore 157 Xl_56 hx (hb hby d3_155) rfl (Ls' := #[.val (.ref a1), .val (.ref bb56), .val (.long bt), .second, .val (.ref cc56), .val (.int (56 : Int32)), .val (.ref b26), .val (.ref bb56), .val (.int (3 : Int32)), .val (.int (3 : Int32)), .val (.int x2_56)]) rfl ?_
          refine g_iconst 158 Xl_56 hx (hb hby d3_157) rfl (z := (0 : Int32)) rfl ?_
          refine g_istore 160 Xl_56 hx (hb hby d3_158) rfl (Ls' := #[.val (.ref a1), .val (.ref bb56), .val (.long bt), .second, .val (.ref cc56), .val (.int (56 : Int32)), .val (.ref b26), .val (.ref bb56), .val (.int (3 : Int32)), .val (.int (0 : Int32)), .val (.int x2_56)]) rfl ?_
          refine g_iload 162 Xl_56 hx (hb hby d3_160) rfl (v := (0 : Int32)) rfl ?_
          refine g_iload 164 Xl_56 hx (hb hby d3_162) rfl (v := (3 : Int32)) rfl ?_
          refine g_icmpNo 167 Xl_56 hx (hb hby d3_164)  (tlt (by decide : (0 : Int32) < (3 : Int32))).2.1 rfl ?_
          refine g_aload 169 Xl_56 hx (hb hby d3_167) rfl (v := (.ref bb56)) rfl rfl ?_
          refine g_iload 171 Xl_56 hx (hb hby d3_169) rfl (v := (0 : Int32)) rfl ?_
          refine g_iaload 172 Xl_56 hx hZ el_56 fl_56_1 0 (by decide) rfl (z := x0_56) rfl (hb hby d3_171) rfl ?_
          refine g_istore 174 Xl_56 hx (hb hby d3_172) rfl (Ls' := #[.val (.ref a1), .val (.ref bb56), .val (.long bt), .second, .val (.ref cc56), .val (.int (56 : Int32)), .val (.ref b26), .val (.ref bb56), .val (.int (3 : Int32)), .val (.int (0 : Int32)), .val (.int x0_56)]) rfl ?_
          refine g_aload 176 Xl_56 hx (hb hby d3_174) rfl (v := (.ref cc56)) rfl rfl ?_
          refine g_aload 178 Xl_56 hx (hb hby d3_176) rfl (v := (.ref b26)) rfl rfl ?_
          refine g_aloadN 179 Xl_56 hx (hb hby d3_178) rfl (v := (.ref a1)) rfl rfl ?_
          refine g_iload 181 Xl_56 hx (hb hby d3_179) rfl (v := x0_56) rfl ?_
          refine g_laload 182 Xl_56 hx hZ el_56 fl_56_0 (x0_56.toInt.toNat) (own_nat0 hB56.1.1) rfl (z := (([w0, w1, w2] : List Int64).getD x0_56.toInt.toNat 0)) (own_getJ (by have q := hB56.1; show _ < 3; omega)) (hb hby d3_181) rfl ?_
          refine g_iload 184 Xl_56 hx (hb hby d3_182) rfl (v := (56 : Int32)) rfl ?_
          have hq184_hq_73 : 0 ≤ (([w0, w1, w2] : List Int64).getD x0_56.toInt.toNat 0).toInt := (own_wN w0 w1 w2 hW0 hW1 hW2 x0_56 hR56.1)
          have hq184_hp_74 : 0 ≤ (56 : Int32).toInt ∧ (56 : Int32).toInt ≤ 63 := by decide
          refine g_callS 187 Xl_56 hx hZ (y := (⟨"com/example/prefixwood/prefixwood/huffman/TwoQueues", "digit", "(JI)I"⟩ : MethodName)) hown (hw _ (List.mem_of_getElem? (i := 17) rfl)) (hw _ (List.mem_of_getElem? (i := 18) rfl)) (hw _ (List.mem_of_getElem? (i := 4) rfl)) (hw _ (List.mem_of_getElem? (i := 19) rfl)) (by decide) el_56 (rm4 l Z a0 hw [] (([w0, w1, w2] : List Int64).getD x0_56.toInt.toNat 0) (56 : Int32)  hl_56 n0 Zl_56 hq184_hq_73 hq184_hp_74) (by rw [hml]; rfl) [(.long (([w0, w1, w2] : List Int64).getD x0_56.toInt.toNat 0)), (.int (56 : Int32))] [(.ref b26), (.ref cc56)] rfl rfl (lenOf pd_0 rfl) 2 (Nat.le_of_eq rfl) (hb hby d3_184) (by decide) (by decide) (by decide) (by decide) rfl ?_
          intro v73 T73 L73 X73 hQ73
          obtain ⟨r73, rfl, hr73, N73q, e73⟩ := hQ73
          have N73 := Fr.app Nl_56 N73q
          show Go p e below s ({ frames := 1, cells := 10, slots := 2062, locals := 16 } : Room).cells ({ frames := 1, cells := 10, slots := 2062, locals := 16 } : Room).slots (Q3 Z a1 w0 w1 w2 h0 n0) T73 (mkF m 187 #[.val (.ref a1), .val (.ref bb56), .val (.long bt), .second, .val (.ref cc56), .val (.int (56 : Int32)), .val (.ref b26), .val (.ref bb56), .val (.int (3 : Int32)), .val (.int (0 : Int32)), .val (.int x0_56)] [(.int r73), (.ref b26), (.ref cc56)])
          have hs0_56 : r32 = r73 := own_z _ ((hD0_56 : _ = _).trans (hr73 : _ = _).symm)
          subst hs0_56
          refine g_dup2 188 X73 hx (hb hby d3_187) rfl rfl rfl ?_
          refine g_iaload 189 X73 hx hZ e73 fl_56_3 (r32.toInt.toNat) (own_nat0 (by omega)) rfl (z := (gF56.getD r32.toInt.toNat 0)) (own_get (by first | (simp only [own_upl]; rw [hgl56]; omega) | (rw [hgl56]; omega))) (hb hby d3_188) rfl ?_
          refine g_dup_x2 190 X73 hx (hb hby d3_189) rfl rfl rfl rfl ?_
          refine g_iconst 191 X73 hx (hb hby d3_190) rfl (z := (1 : Int32)) rfl ?_
          refine g_iadd 192 X73 hx (hb hby d3_191) rfl (z := ((gF56.getD r32.toInt.toNat 0) + (1 : Int32))) rfl ?_
          refine g_iastore 193 X73 hx hZ e73 fl_56_3 (r32.toInt.toNat) (own_nat0 (by omega)) rfl (by first | (simp only [own_upl]; rw [hgl56]; omega) | (rw [hgl56]; omega)) (z := ((gF56.getD r32.toInt.toNat 0) + (1 : Int32))) rfl (hb hby d3_192) rfl ?_
          intro T76 h76 X76 e76 W76 A76
          have f77 := fl_56_0.other W76 (Nat.ne_of_lt (Nat.lt_of_lt_of_le fa_56.lt (Nat.le_of_eq g26.symm)))
          have f78 := fl_56_1.other W76 (Nat.ne_of_lt (Nat.lt_of_lt_of_le AX56.lt (Nat.le_of_eq g26.symm)))
          have f79 := fl_56_2.other W76 (Nat.ne_of_lt (Nat.lt_of_lt_of_le fc_56.lt (Nat.le_of_eq g26.symm)))
          have Zs80 : n0 ≤ h76.size := (Nat.le_trans Zl_56 (Keep.of_wr W76).1)
          have K81 : Keep h0 h76 [] := Kl_56.wr W76 (Or.inr sz_b26)
          have N82 := Fr.snoc X76 N73 g_b26
          have AV83 : AI Z h76 b26 .int (own_up gF56 r32.toInt.toNat) := A76
          refine g_iload 195 X76 hx (hb hby d3_193) rfl (v := x0_56) rfl ?_
          refine g_iastore 196 X76 hx hZ e76 f79 (own_q0 r32.toInt.toNat r43.toInt.toNat r54.toInt.toNat) (own_nat0 (by rw [hQ56_.1]; exact Int.natCast_nonneg _)) (by show (Int32.toInt _).toNat = _; rw [hQ56_.1]; rfl) (by have q := hq56_.1; rw [hM56]; omega) (z := x0_56) rfl (hb hby d3_195) rfl ?_
          intro T84 h84 X84 e84 W84 A84
          have f85 := f77.other W84 nac_56
          have f86 := f78.other W84 nbc_56
          have f87 := AV83.other W84 (Ne.symm (Nat.ne_of_lt (Nat.lt_of_lt_of_le fc_56.lt (Nat.le_of_eq g26.symm))))
          have Zs88 : n0 ≤ h84.size := (Nat.le_trans Zs80 (Keep.of_wr W84).1)
          have K89 : Keep h0 h84 [] := K81.wr W84 (Or.inr sz_cc56)
          have N90 := Fr.snoc X84 N82 g_cc56
          refine g_iinc 199 X84 hx (hb hby d3_196) rfl (x := (0 : Int32)) rfl (z := (1 : Int32)) (by decide) (Ls' := #[.val (.ref a1), .val (.ref bb56), .val (.long bt), .second, .val (.ref cc56), .val (.int (56 : Int32)), .val (.ref b26), .val (.ref bb56), .val (.int (3 : Int32)), .val (.int (1 : Int32)), .val (.int x0_56)]) rfl ?_
          refine g_goto 160 X84 hx (hb hby d3_199) (by decide) (by decide) ?_
          refine g_iload 162 X84 hx (hb hby d3_160) rfl (v := (1 : Int32)) rfl ?_
          refine g_iload 164 X84 hx (hb hby d3_162) rfl (v := (3 : Int32)) rfl ?_
          refine g_icmpNo 167 X84 hx (hb hby d3_164)  (tlt (by decide : (1 : Int32) < (3 : Int32))).2.1 rfl ?_
          refine g_aload 169 X84 hx (hb hby d3_167) rfl (v := (.ref bb56)) rfl rfl ?_
          refine g_iload 171 X84 hx (hb hby d3_169) rfl (v := (1 : Int32)) rfl ?_
          refine g_iaload 172 X84 hx hZ e84 f86 1 (by decide) rfl (z := x1_56) rfl (hb hby d3_171) rfl ?_
          refine g_istore 174 X84 hx (hb hby d3_172) rfl (Ls' := #[.val (.ref a1), .val (.ref bb56), .val (.long bt), .second, .val (.ref cc56), .val (.int (56 : Int32)), .val (.ref b26), .val (.ref bb56), .val (.int (3 : Int32)), .val (.int (1 : Int32)), .val (.int x1_56)]) rfl ?_
          refine g_aload 176 X84 hx (hb hby d3_174) rfl (v := (.ref cc56)) rfl rfl ?_
          refine g_aload 178 X84 hx (hb hby d3_176) rfl (v := (.ref b26)) rfl rfl ?_
          refine g_aloadN 179 X84 hx (hb hby d3_178) rfl (v := (.ref a1)) rfl rfl ?_
          refine g_iload 181 X84 hx (hb hby d3_179) rfl (v := x1_56) rfl ?_
          refine g_laload 182 X84 hx hZ e84 f85 (x1_56.toInt.toNat) (own_nat0 hB56.2.1.1) rfl (z := (([w0, w1, w2] : List Int64).getD x1_56.toInt.toNat 0)) (own_getJ (by have q := hB56.2.1; show _ < 3; omega)) (hb hby d3_181) rfl ?_
          refine g_iload 184 X84 hx (hb hby d3_182) rfl (v := (56 : Int32)) rfl ?_
          have hq184_hq_91 : 0 ≤ (([w0, w1, w2] : List Int64).getD x1_56.toInt.toNat 0).toInt := (own_wN w0 w1 w2 hW0 hW1 hW2 x1_56 hR56.2.1)
          have hq184_hp_92 : 0 ≤ (56 : Int32).toInt ∧ (56 : Int32).toInt ≤ 63 := by decide
          refine g_callS 187 X84 hx hZ (y := (⟨"com/example/prefixwood/prefixwood/huffman/TwoQueues", "digit", "(JI)I"⟩ : MethodName)) hown (hw _ (List.mem_of_getElem? (i := 17) rfl)) (hw _ (List.mem_of_getElem? (i := 18) rfl)) (hw _ (List.mem_of_getElem? (i := 4) rfl)) (hw _ (List.mem_of_getElem? (i := 19) rfl)) (by decide) e84 (rm4 l Z a0 hw [] (([w0, w1, w2] : List Int64).getD x1_56.toInt.toNat 0) (56 : Int32)  h84 n0 Zs88 hq184_hq_91 hq184_hp_92) (by rw [hml]; rfl) [(.long (([w0, w1, w2] : List Int64).getD x1_56.toInt.toNat 0)), (.int (56 : Int32))] [(.ref b26), (.ref cc56)] rfl rfl (lenOf pd_0 rfl) 2 (Nat.le_of_eq rfl) (hb hby d3_184) (by decide) (by decide) (by decide) (by decide) rfl ?_
          intro v91 T91 L91 X91 hQ91
          obtain ⟨r91, rfl, hr91, N91q, e91⟩ := hQ91
          have N91 := Fr.app N90 N91q
          show Go p e below s ({ frames := 1, cells := 10, slots := 2062, locals := 16 } : Room).cells ({ frames := 1, cells := 10, slots := 2062, locals := 16 } : Room).slots (Q3 Z a1 w0 w1 w2 h0 n0) T91 (mkF m 187 #[.val (.ref a1), .val (.ref bb56), .val (.long bt), .second, .val (.ref cc56), .val (.int (56 : Int32)), .val (.ref b26), .val (.ref bb56), .val (.int (3 : Int32)), .val (.int (1 : Int32)), .val (.int x1_56)] [(.int r91), (.ref b26), (.ref cc56)])
          have hs1_56 : r43 = r91 := own_z _ ((hD1_56 : _ = _).trans (hr91 : _ = _).symm)
          subst hs1_56
          refine g_dup2 188 X91 hx (hb hby d3_187) rfl rfl rfl ?_
          refine g_iaload 189 X91 hx hZ e91 f87 (r43.toInt.toNat) (own_nat0 (by omega)) rfl (z := ((own_up gF56 r32.toInt.toNat).getD r43.toInt.toNat 0)) (own_get (by first | (simp only [own_upl]; rw [hgl56]; omega) | (rw [hgl56]; omega))) (hb hby d3_188) rfl ?_
          refine g_dup_x2 190 X91 hx (hb hby d3_189) rfl rfl rfl rfl ?_
          refine g_iconst 191 X91 hx (hb hby d3_190) rfl (z := (1 : Int32)) rfl ?_
          refine g_iadd 192 X91 hx (hb hby d3_191) rfl (z := (((own_up gF56 r32.toInt.toNat).getD r43.toInt.toNat 0) + (1 : Int32))) rfl ?_
          refine g_iastore 193 X91 hx hZ e91 f87 (r43.toInt.toNat) (own_nat0 (by omega)) rfl (by first | (simp only [own_upl]; rw [hgl56]; omega) | (rw [hgl56]; omega)) (z := (((own_up gF56 r32.toInt.toNat).getD r43.toInt.toNat 0) + (1 : Int32))) rfl (hb hby d3_192) rfl ?_
          intro T94 h94 X94 e94 W94 A94
          have f95 := f85.other W94 (Nat.ne_of_lt (Nat.lt_of_lt_of_le fa_56.lt (Nat.le_of_eq g26.symm)))
          have f96 := f86.other W94 (Nat.ne_of_lt (Nat.lt_of_lt_of_le AX56.lt (Nat.le_of_eq g26.symm)))
          have f97 := A84.other W94 (Nat.ne_of_lt (Nat.lt_of_lt_of_le fc_56.lt (Nat.le_of_eq g26.symm)))
          have Zs98 : n0 ≤ h94.size := (Nat.le_trans Zs88 (Keep.of_wr W94).1)
          have K99 : Keep h0 h94 [] := K89.wr W94 (Or.inr sz_b26)
          have N100 := Fr.snoc X94 N91 g_b26
          have AV101 : AI Z h94 b26 .int (own_up (own_up gF56 r32.toInt.toNat) r43.toInt.toNat) := A94
          refine g_iload 195 X94 hx (hb hby d3_193) rfl (v := x1_56) rfl ?_
          refine g_iastore 196 X94 hx hZ e94 f97 (own_q1 r32.toInt.toNat r43.toInt.toNat r54.toInt.toNat) (own_nat0 (by rw [hQ56_.2.1]; exact Int.natCast_nonneg _)) (by show (Int32.toInt _).toNat = _; rw [hQ56_.2.1]; rfl) (by have q := hq56_.2.1; rw [List.length_set, hM56]; omega) (z := x1_56) rfl (hb hby d3_195) rfl ?_
          intro T102 h102 X102 e102 W102 A102
          have f103 := f95.other W102 nac_56
          have f104 := f96.other W102 nbc_56
          have f105 := AV101.other W102 (Ne.symm (Nat.ne_of_lt (Nat.lt_of_lt_of_le fc_56.lt (Nat.le_of_eq g26.symm))))
          have Zs106 : n0 ≤ h102.size := (Nat.le_trans Zs98 (Keep.of_wr W102).1)
          have K107 : Keep h0 h102 [] := K99.wr W102 (Or.inr sz_cc56)
          have N108 := Fr.snoc X102 N100 g_cc56
          refine g_iinc 199 X102 hx (hb hby d3_196) rfl (x := (1 : Int32)) rfl (z := (2 : Int32)) (by decide) (Ls' := #[.val (.ref a1), .val (.ref bb56), .val (.long bt), .second, .val (.ref cc56), .val (.int (56 : Int32)), .val (.ref b26), .val (.ref bb56), .val (.int (3 : Int32)), .val (.int (2 : Int32)), .val (.int x1_56)]) rfl ?_
          refine g_goto 160 X102 hx (hb hby d3_199) (by decide) (by decide) ?_
          refine g_iload 162 X102 hx (hb hby d3_160) rfl (v := (2 : Int32)) rfl ?_
          refine g_iload 164 X102 hx (hb hby d3_162) rfl (v := (3 : Int32)) rfl ?_
          refine g_icmpNo 167 X102 hx (hb hby d3_164)  (tlt (by decide : (2 : Int32) < (3 : Int32))).2.1 rfl ?_
          refine g_aload 169 X102 hx (hb hby d3_167) rfl (v := (.ref bb56)) rfl rfl ?_
          refine g_iload 171 X102 hx (hb hby d3_169) rfl (v := (2 : Int32)) rfl ?_
          refine g_iaload 172 X102 hx hZ e102 f104 2 (by decide) rfl (z := x2_56) rfl (hb hby d3_171) rfl ?_
          refine g_istore 174 X102 hx (hb hby d3_172) rfl (Ls' := #[.val (.ref a1), .val (.ref bb56), .val (.long bt), .second, .val (.ref cc56), .val (.int (56 : Int32)), .val (.ref b26), .val (.ref bb56), .val (.int (3 : Int32)), .val (.int (2 : Int32)), .val (.int x2_56)]) rfl ?_
          refine g_aload 176 X102 hx (hb hby d3_174) rfl (v := (.ref cc56)) rfl rfl ?_
          refine g_aload 178 X102 hx (hb hby d3_176) rfl (v := (.ref b26)) rfl rfl ?_
          refine g_aloadN 179 X102 hx (hb hby d3_178) rfl (v := (.ref a1)) rfl rfl ?_
          refine g_iload 181 X102 hx (hb hby d3_179) rfl (v := x2_56) rfl ?_
          refine g_laload 182 X102 hx hZ e102 f103 (x2_56.toInt.toNat) (own_nat0 hB56.2.2.1) rfl (z := (([w0, w1, w2] : List Int64).getD x2_56.toInt.toNat 0)) (own_getJ (by have q := hB56.2.2; show _ < 3; omega)) (hb hby d3_181) rfl ?_
          refine g_iload 184 X102 hx (hb hby d3_182) rfl (v := (56 : Int32)) rfl ?_
          have hq184_hq_109 : 0 ≤ (([w0, w1, w2] : List Int64).getD x2_56.toInt.toNat 0).toInt := (own_wN w0 w1 w2 hW0 hW1 hW2 x2_56 hR56.2.2)
          have hq184_hp_110 : 0 ≤ (56 : Int32).toInt ∧ (56 : Int32).toInt ≤ 63 := by decide
          refine g_callS 187 X102 hx hZ (y := (⟨"com/example/prefixwood/prefixwood/huffman/TwoQueues", "digit", "(JI)I"⟩ : MethodName)) hown (hw _ (List.mem_of_getElem? (i := 17) rfl)) (hw _ (List.mem_of_getElem? (i := 18) rfl)) (hw _ (List.mem_of_getElem? (i := 4) rfl)) (hw _ (List.mem_of_getElem? (i := 19) rfl)) (by decide) e102 (rm4 l Z a0 hw [] (([w0, w1, w2] : List Int64).getD x2_56.toInt.toNat 0) (56 : Int32)  h102 n0 Zs106 hq184_hq_109 hq184_hp_110) (by rw [hml]; rfl) [(.long (([w0, w1, w2] : List Int64).getD x2_56.toInt.toNat 0)), (.int (56 : Int32))] [(.ref b26), (.ref cc56)] rfl rfl (lenOf pd_0 rfl) 2 (Nat.le_of_eq rfl) (hb hby d3_184) (by decide) (by decide) (by decide) (by decide) rfl ?_
          intro v109 T109 L109 X109 hQ109
          obtain ⟨r109, rfl, hr109, N109q, e109⟩ := hQ109
          have N109 := Fr.app N108 N109q
          show Go p e below s ({ frames := 1, cells := 10, slots := 2062, locals := 16 } : Room).cells ({ frames := 1, cells := 10, slots := 2062, locals := 16 } : Room).slots (Q3 Z a1 w0 w1 w2 h0 n0) T109 (mkF m 187 #[.val (.ref a1), .val (.ref bb56), .val (.long bt), .second, .val (.ref cc56), .val (.int (56 : Int32)), .val (.ref b26), .val (.ref bb56), .val (.int (3 : Int32)), .val (.int (2 : Int32)), .val (.int x2_56)] [(.int r109), (.ref b26), (.ref cc56)])
          have hs2_56 : r54 = r109 := own_z _ ((hD2_56 : _ = _).trans (hr109 : _ = _).symm)
          subst hs2_56
          refine g_dup2 188 X109 hx (hb hby d3_187) rfl rfl rfl ?_
          refine g_iaload 189 X109 hx hZ e109 f105 (r54.toInt.toNat) (own_nat0 (by omega)) rfl (z := ((own_up (own_up gF56 r32.toInt.toNat) r43.toInt.toNat).getD r54.toInt.toNat 0)) (own_get (by first | (simp only [own_upl]; rw [hgl56]; omega) | (rw [hgl56]; omega))) (hb hby d3_188) rfl ?_
          refine g_dup_x2 190 X109 hx (hb hby d3_189) rfl rfl rfl rfl ?_
          refine g_iconst 191 X109 hx (hb hby d3_190) rfl (z := (1 : Int32)) rfl ?_
          refine g_iadd 192 X109 hx (hb hby d3_191) rfl (z := (((own_up (own_up gF56 r32.toInt.toNat) r43.toInt.toNat).getD r54.toInt.toNat 0) + (1 : Int32))) rfl ?_
          refine g_iastore 193 X109 hx hZ e109 f105 (r54.toInt.toNat) (own_nat0 (by omega)) rfl (by first | (simp only [own_upl]; rw [hgl56]; omega) | (rw [hgl56]; omega)) (z := (((own_up (own_up gF56 r32.toInt.toNat) r43.toInt.toNat).getD r54.toInt.toNat 0) + (1 : Int32))) rfl (hb hby d3_192) rfl ?_
          intro T112 h112 X112 e112 W112 A112
          have f113 := f103.other W112 (Nat.ne_of_lt (Nat.lt_of_lt_of_le fa_56.lt (Nat.le_of_eq g26.symm)))
          have f114 := f104.other W112 (Nat.ne_of_lt (Nat.lt_of_lt_of_le AX56.lt (Nat.le_of_eq g26.symm)))
          have f115 := A102.other W112 (Nat.ne_of_lt (Nat.lt_of_lt_of_le fc_56.lt (Nat.le_of_eq g26.symm)))
          have Zs116 : n0 ≤ h112.size := (Nat.le_trans Zs106 (Keep.of_wr W112).1)
          have K117 : Keep h0 h112 [] := K107.wr W112 (Or.inr sz_b26)
          have N118 := Fr.snoc X112 N109 g_b26
          have AV119 : AI Z h112 b26 .int (own_up (own_up (own_up gF56 r32.toInt.toNat) r43.toInt.toNat) r54.toInt.toNat) := A112
          refine g_iload 195 X112 hx (hb hby d3_193) rfl (v := x2_56) rfl ?_
          refine g_iastore 196 X112 hx hZ e112 f115 (own_q2 r32.toInt.toNat r43.toInt.toNat r54.toInt.toNat) (own_nat0 (by rw [hQ56_.2.2]; exact Int.natCast_nonneg _)) (by show (Int32.toInt _).toNat = _; rw [hQ56_.2.2]; rfl) (by have q := hq56_.2.2; rw [List.length_set, List.length_set, hM56]; omega) (z := x2_56) rfl (hb hby d3_195) rfl ?_
          intro T120 h120 X120 e120 W120 A120
          have f121 := f113.other W120 nac_56
          have f122 := f114.other W120 nbc_56
          have f123 := AV119.other W120 (Ne.symm (Nat.ne_of_lt (Nat.lt_of_lt_of_le fc_56.lt (Nat.le_of_eq g26.symm))))
          have Zs124 : n0 ≤ h120.size := (Nat.le_trans Zs116 (Keep.of_wr W120).1)
          have K125 : Keep h0 h120 [] := K117.wr W120 (Or.inr sz_cc56)
          have N126 := Fr.snoc X120 N118 g_cc56
          refine g_iinc 199 X120 hx (hb hby d3_196) rfl (x := (2 : Int32)) rfl (z := (3 : Int32)) (by decide) (Ls' := #[.val (.ref a1), .val (.ref bb56), .val (.long bt), .second, .val (.ref cc56), .val (.int (56 : Int32)), .val (.ref b26), .val (.ref bb56), .val (.int (3 : Int32)), .val (.int (3 : Int32)), .val (.int x2_56)]) rfl ?_
          refine g_goto 160 X120 hx (hb hby d3_199) (by decide) (by decide) ?_
          refine g_iload 162 X120 hx (hb hby d3_160) rfl (v := (3 : Int32)) rfl ?_
          refine g_iload 164 X120 hx (hb hby d3_162) rfl (v := (3 : Int32)) rfl ?_
          refine g_icmpYes 202 X120 hx (hb hby d3_164)  (flt (Int32.lt_irrefl)).2.1 (by decide) (by decide) ?_
          refine g_aloadN 203 X120 hx (hb hby d3_202) rfl (v := (.ref bb56)) rfl rfl ?_
          refine g_astore 205 X120 hx (hb hby d3_203) rfl (Ls' := #[.val (.ref a1), .val (.ref bb56), .val (.long bt), .second, .val (.ref cc56), .val (.int (56 : Int32)), .val (.ref b26), .val (.ref bb56), .val (.int (3 : Int32)), .val (.int (3 : Int32)), .val (.int x2_56)]) rfl rfl ?_
          refine g_aload 207 X120 hx (hb hby d3_205) rfl (v := (.ref cc56)) rfl rfl ?_
          refine g_astoreN 208 X120 hx (hb hby d3_207) rfl (Ls' := #[.val (.ref a1), .val (.ref cc56), .val (.long bt), .second, .val (.ref cc56), .val (.int (56 : Int32)), .val (.ref b26), .val (.ref bb56), .val (.int (3 : Int32)), .val (.int (3 : Int32)), .val (.int x2_56)]) rfl rfl ?_
          refine g_aload 210 X120 hx (hb hby d3_208) rfl (v := (.ref bb56)) rfl rfl ?_
          refine g_astore 212 X120 hx (hb hby d3_210) rfl (Ls' := #[.val (.ref a1), .val (.ref cc56), .val (.long bt), .second, .val (.ref bb56), .val (.int (56 : Int32)), .val (.ref b26), .val (.ref bb56), .val (.int (3 : Int32)), .val (.int (3 : Int32)), .val (.int x2_56)]) rfl rfl ?_
          refine g_iinc 215 X120 hx (hb hby d3_212) rfl (x := (56 : Int32)) rfl (z := (64 : Int32)) (by decide) (Ls' := #[.val (.ref a1), .val (.ref cc56), .val (.long bt), .second, .val (.ref bb56), .val (.int (64 : Int32)), .val (.ref b26), .val (.ref bb56), .val (.int (3 : Int32)), .val (.int (3 : Int32)), .val (.int x2_56)]) rfl ?_
          refine g_goto 45 X120 hx (hb hby d3_215) (by decide) (by decide) ?_
          have AK64 : AI Z h120 cc56 .int (own_K w0 w1 w2 64) := by rw [← own_passL w0 w1 w2 56 x0_56 x1_56 x2_56 r32 r43 r54 MM56 hM56 hX56 hD0_56 hD1_56 hD2_56]; exact A120
          exact pass_64 l Z a0 hw a1 w0 w1 w2 h0 n0 hW0 hW1 hW2 hret hZ hx hby hml hown hlk bt hbt cc56 bb56 b26 bb56 x2_56 [x0_56, x1_56, x2_56] T120 h120 _ rfl (Ne.symm nbc_56) nac_56 nab_56 g_cc56 g_bb56 sz_cc56 sz_bb56 X120 e120 N126 Zs124 K125 f121 AK64 f122
    exact LOOP120_56 _ (1 : Int32) (own_C r32.toInt.toNat r43.toInt.toNat r54.toInt.toNat) T57 h57 _ (Nat.lt_succ_self _) (by decide) ((own_CS r32.toInt.toNat r43.toInt.toNat r54.toInt.toNat (by omega) (by omega) (by omega)).1) rfl X57 e57 N63 Zs61 K62 f58 f59 f60 AU64
set_option maxRecDepth 65536 in
set_option maxHeartbeats 40000000 in
theorem pass_48 (l : Launch) (Z : State) (a0 : Array Value) (hw : ∀ d ∈ tables_1, d.before a0 Z = true) (a1 : Addr) (w0 w1 w2 : Int64) (h0 : Heap) (n0 : Nat) (hW0 : 0 ≤ w0.toInt) (hW1 : 0 ≤ w1.toInt) (hW2 : 0 ≤ w2.toInt) {p : Program} {e : Env} {s : State} {m : MethodId} {below : List Frame} {meth : Method} {c : Code} (hret : meth.sig.returnType = some FieldType.int.array) (hZ : Z.Warmed39 s.vm) (hx : p.tables.exec = Jvm.exec) (hby : c.code = prog_51_method_4_code) (hml : c.maxLocals = 11) (hown : s.vm.findClass "com/example/prefixwood/prefixwood/huffman/TwoQueues" = some m.cls) (hlk : meth.locks = false) (bt : Int64) (hbt : bt.toBitVec = (w0.toBitVec ||| w1.toBitVec) ||| w2.toBitVec) :
    ∀ (bb48 cc48 ea48 eb48 : Addr) (yy48 : Int32) (MM48 : List Int32) (Tp_48 : State) (hp_48 : Heap) (lp_48 : List Loc), (MM48.length = 3) → (bb48 ≠ cc48) → (a1 ≠ bb48) → (a1 ≠ cc48) → (n0 ≤ bb48) → (n0 ≤ cc48) → (h0.size ≤ bb48) → (h0.size ≤ cc48) → (Stand p l e ({ frames := 1, cells := 10, slots := 2062, locals := 16 } : Room) s m #[(.ref a1)] below meth c Tp_48 lp_48 8 1548) → (Tp_48.heap = hp_48) → (Fr n0 lp_48) → (n0 ≤ hp_48.size) → (Keep h0 hp_48 []) → (AJ Z hp_48 a1 [w0, w1, w2]) → (AI Z hp_48 bb48 .int (own_K w0 w1 w2 48)) → (AI Z hp_48 cc48 .int MM48) → Go p e below s ({ frames := 1, cells := 10, slots := 2062, locals := 16 } : Room).cells ({ frames := 1, cells := 10, slots := 2062, locals := 16 } : Room).slots (Q3 Z a1 w0 w1 w2 h0 n0) Tp_48 (mkF m 45 #[.val (.ref a1), .val (.ref bb48), .val (.long bt), .second, .val (.ref cc48), .val (.int (48 : Int32)), .val (.ref ea48), .val (.ref eb48), .val (.int (3 : Int32)), .val (.int (3 : Int32)), .val (.int yy48)] []) := by
  intro bb48 cc48 ea48 eb48 yy48 MM48 Tp_48 hp_48 lp_48 hM48 nbc_48 nab_48 nac_48 g_bb48 g_cc48 sz_bb48 sz_cc48 Xp_48 ep_48 Np_48 Zp_48 Kp_48 fa_48 fb_48 fc_48
  obtain ⟨x0_48, x1_48, x2_48, hk48, hX48⟩ := own_KX w0 w1 w2 48
  have AX48 : AI Z hp_48 bb48 .int [x0_48, x1_48, x2_48] := by rw [← hk48]; exact fb_48
  have hR48 := own_sixR _ _ _ _ _ _ hX48
  have hB48 := own_sixB _ _ _ _ _ _ hX48
  refine g_iload 47 Xp_48 hx (hb hby d3_45) rfl (v := (48 : Int32)) rfl ?_
  refine g_bipush 49 Xp_48 hx (hb hby d3_47) rfl (z := (64 : Int32)) rfl ?_
  refine g_icmpNo 52 Xp_48 hx (hb hby d3_49)  (tlt (by decide : (48 : Int32) < (64 : Int32))).2.1 rfl ?_
  refine g_lloadN 53 Xp_48 hx (hb hby d3_52) rfl (v := bt) rfl ?_
  refine g_iload 55 Xp_48 hx (hb hby d3_53) rfl (v := (48 : Int32)) rfl ?_
  refine g_lushr 56 Xp_48 hx (hb hby d3_55) rfl (z := ((bt.toUInt64 >>> ((48 : Int32) &&& 0x3f).toInt64.toUInt64).toInt64)) rfl ?_
  refine g_lconst 57 Xp_48 hx (hb hby d3_56) rfl (z := (0 : Int64)) rfl ?_
  by_cases hc57_126 : ((bt.toUInt64 >>> ((48 : Int32) &&& 0x3f).toInt64.toUInt64).toInt64) = (0 : Int64)
  ·
    refine g_lcmpYes 218 Xp_48 hx (hb hby d3_57) rfl (hb hby d3_58) (teqL hc57_126).1 (by decide) (by decide) ?_
    refine g_aloadN 219 Xp_48 hx (hb hby d3_218) rfl (v := (.ref bb48)) rfl rfl ?_
    have hend : own_K w0 w1 w2 48 = own_Srt w0 w1 w2 := (fun q => own_KS w0 w1 w2 48 q.1 q.2.1 q.2.2) (own_bitsL w0 w1 w2 (48 : Int32) 48 (by decide) hW0 hW1 hW2 bt hbt hc57_126)
    rw [hend] at fb_48
    exact g_retA Xp_48 hx hret hlk rfl rfl rfl (hb hby d3_219) (by decide) (by decide) (by
        show Q3 Z a1 w0 w1 w2 h0 n0 _ Tp_48.heap _
        rw [ep_48]
        exact ⟨bb48, rfl, Np_48, Kp_48, g_bb48, sz_bb48, fb_48⟩)
  ·
    refine g_lcmpNo 61 Xp_48 hx (hb hby d3_57) rfl (hb hby d3_58) (feqL hc57_126).1 rfl ?_
    refine g_sipush 64 Xp_48 hx (hb hby d3_61) rfl (z := (257 : Int32)) rfl ?_
    refine g_new_int 66 Xp_48 hx hZ (hw _ (List.mem_of_getElem? (i := 16) rfl)) ep_48 257 257 (by decide) rfl (by decide) (by decide) (by decide) (by decide) (hb hby d3_64) rfl ?_
    intro T128 h128 b128 X128 e128 E128 g128 A128
    have f129 := fa_48.ext E128
    have f130 := AX48.ext E128
    have f131 := fc_48.ext E128
    have Zs132 : n0 ≤ h128.size := (Nat.le_trans Zp_48 E128.1)
    have K133 : Keep h0 h128 [] := Kp_48.ext E128
    have g_b128 : n0 ≤ b128 := Nat.le_trans Zp_48 (Nat.le_of_eq g128.symm)
    have sz_b128 : h0.size ≤ b128 := Nat.le_trans Kp_48.1 (Nat.le_of_eq g128.symm)
    refine g_astore 68 X128 hx (hb hby d3_66) rfl (Ls' := #[.val (.ref a1), .val (.ref bb48), .val (.long bt), .second, .val (.ref cc48), .val (.int (48 : Int32)), .val (.ref b128), .val (.ref eb48), .val (.int (3 : Int32)), .val (.int (3 : Int32)), .val (.int yy48)]) rfl rfl ?_
    refine g_aloadN 69 X128 hx (hb hby d3_68) rfl (v := (.ref bb48)) rfl rfl ?_
    refine g_astore 71 X128 hx (hb hby d3_69) rfl (Ls' := #[.val (.ref a1), .val (.ref bb48), .val (.long bt), .second, .val (.ref cc48), .val (.int (48 : Int32)), .val (.ref b128), .val (.ref bb48), .val (.int (3 : Int32)), .val (.int (3 : Int32)), .val (.int yy48)]) rfl rfl ?_
    refine g_aload 73 X128 hx (hb hby d3_71) rfl (v := (.ref bb48)) rfl rfl ?_
    refine g_arraylengthI 74 X128 hx hZ e128 f130 (z := (3 : Int32)) rfl (hb hby d3_73) rfl ?_
    refine g_istore 76 X128 hx (hb hby d3_74) rfl (Ls' := #[.val (.ref a1), .val (.ref bb48), .val (.long bt), .second, .val (.ref cc48), .val (.int (48 : Int32)), .val (.ref b128), .val (.ref bb48), .val (.int (3 : Int32)), .val (.int (3 : Int32)), .val (.int yy48)]) rfl ?_
    refine g_iconst 77 X128 hx (hb hby d3_76) rfl (z := (0 : Int32)) rfl ?_
    refine g_istore 79 X128 hx (hb hby d3_77) rfl (Ls' := #[.val (.ref a1), .val (.ref bb48), .val (.long bt), .second, .val (.ref cc48), .val (.int (48 : Int32)), .val (.ref b128), .val (.ref bb48), .val (.int (3 : Int32)), .val (.int (0 : Int32)), .val (.int yy48)]) rfl ?_
    refine g_iload 81 X128 hx (hb hby d3_79) rfl (v := (0 : Int32)) rfl ?_
    refine g_iload 83 X128 hx (hb hby d3_81) rfl (v := (3 : Int32)) rfl ?_
    refine g_icmpNo 86 X128 hx (hb hby d3_83)  (tlt (by decide : (0 : Int32) < (3 : Int32))).2.1 rfl ?_
    refine g_aload 88 X128 hx (hb hby d3_86) rfl (v := (.ref bb48)) rfl rfl ?_
    refine g_iload 90 X128 hx (hb hby d3_88) rfl (v := (0 : Int32)) rfl ?_
    refine g_iaload 91 X128 hx hZ e128 f130 0 (by decide) rfl (z := x0_48) rfl (hb hby d3_90) rfl ?_
    refine g_istore 93 X128 hx (hb hby d3_91) rfl (Ls' := #[.val (.ref a1), .val (.ref bb48), .val (.long bt), .second, .val (.ref cc48), .val (.int (48 : Int32)), .val (.ref b128), .val (.ref bb48), .val (.int (3 : Int32)), .val (.int (0 : Int32)), .val (.int x0_48)]) rfl ?_
    refine g_aload 95 X128 hx (hb hby d3_93) rfl (v := (.ref b128)) rfl rfl ?_
    refine g_aloadN 96 X128 hx (hb hby d3_95) rfl (v := (.ref a1)) rfl rfl ?_
    refine g_iload 98 X128 hx (hb hby d3_96) rfl (v := x0_48) rfl ?_
    refine g_laload 99 X128 hx hZ e128 f129 (x0_48.toInt.toNat) (own_nat0 hB48.1.1) rfl (z := (([w0, w1, w2] : List Int64).getD x0_48.toInt.toNat 0)) (own_getJ (by have q := hB48.1; show _ < 3; omega)) (hb hby d3_98) rfl ?_
    refine g_iload 101 X128 hx (hb hby d3_99) rfl (v := (48 : Int32)) rfl ?_
    have hq101_hq_134 : 0 ≤ (([w0, w1, w2] : List Int64).getD x0_48.toInt.toNat 0).toInt := (own_wN w0 w1 w2 hW0 hW1 hW2 x0_48 hR48.1)
    have hq101_hp_135 : 0 ≤ (48 : Int32).toInt ∧ (48 : Int32).toInt ≤ 63 := by decide
    refine g_callS 104 X128 hx hZ (y := (⟨"com/example/prefixwood/prefixwood/huffman/TwoQueues", "digit", "(JI)I"⟩ : MethodName)) hown (hw _ (List.mem_of_getElem? (i := 17) rfl)) (hw _ (List.mem_of_getElem? (i := 18) rfl)) (hw _ (List.mem_of_getElem? (i := 4) rfl)) (hw _ (List.mem_of_getElem? (i := 19) rfl)) (by decide) e128 (rm4 l Z a0 hw [] (([w0, w1, w2] : List Int64).getD x0_48.toInt.toNat 0) (48 : Int32)  h128 n0 Zs132 hq101_hq_134 hq101_hp_135) (by rw [hml]; rfl) [(.long (([w0, w1, w2] : List Int64).getD x0_48.toInt.toNat 0)), (.int (48 : Int32))] [(.ref b128)] rfl rfl (lenOf pd_0 rfl) 1 (Nat.le_of_eq rfl) (hb hby d3_101) (by decide) (by decide) (by decide) (by decide) rfl ?_
    intro v134 T134 L134 X134 hQ134
    obtain ⟨r134, rfl, hr134, N134q, e134⟩ := hQ134
    have N134 := Fr.app Np_48 N134q
    show Go p e below s ({ frames := 1, cells := 10, slots := 2062, locals := 16 } : Room).cells ({ frames := 1, cells := 10, slots := 2062, locals := 16 } : Room).slots (Q3 Z a1 w0 w1 w2 h0 n0) T134 (mkF m 104 #[.val (.ref a1), .val (.ref bb48), .val (.long bt), .second, .val (.ref cc48), .val (.int (48 : Int32)), .val (.ref b128), .val (.ref bb48), .val (.int (3 : Int32)), .val (.int (0 : Int32)), .val (.int x0_48)] [(.int r134), (.ref b128)])
    have hD0_48 : own_dig (([w0, w1, w2] : List Int64).getD x0_48.toInt.toNat 0) 48 r134 := hr134
    have hE0_48 := own_dgB _ _ _ hD0_48
    refine g_iconst 105 X134 hx (hb hby d3_104) rfl (z := (1 : Int32)) rfl ?_
    refine g_iadd 106 X134 hx (hb hby d3_105) rfl (z := (r134 + (1 : Int32))) rfl ?_
    refine g_dup2 107 X134 hx (hb hby d3_106) rfl rfl rfl ?_
    refine g_iaload 108 X134 hx hZ e134 A128 (r134.toInt.toNat + 1) (own_nat0 (by have q := hE0_48; rw [own_inc (by omega)]; omega)) (by have q := hE0_48; show (Int32.toInt _).toNat = _; rw [own_inc (by omega)]; omega) (z := ((List.replicate 257 (0 : Int32)).getD (r134.toInt.toNat + 1) 0)) (own_get (by have q := hE0_48; simp only [own_upl, List.length_replicate]; omega)) (hb hby d3_107) rfl ?_
    refine g_iconst 109 X134 hx (hb hby d3_108) rfl (z := (1 : Int32)) rfl ?_
    refine g_iadd 110 X134 hx (hb hby d3_109) rfl (z := (((List.replicate 257 (0 : Int32)).getD (r134.toInt.toNat + 1) 0) + (1 : Int32))) rfl ?_
    refine g_iastore 111 X134 hx hZ e134 A128 (r134.toInt.toNat + 1) (own_nat0 (by have q := hE0_48; rw [own_inc (by omega)]; omega)) (by have q := hE0_48; show (Int32.toInt _).toNat = _; rw [own_inc (by omega)]; omega) (by have q := hE0_48; simp only [own_upl, List.length_replicate]; omega) (z := (((List.replicate 257 (0 : Int32)).getD (r134.toInt.toNat + 1) 0) + (1 : Int32))) rfl (hb hby d3_110) rfl ?_
    intro T137 h137 X137 e137 W137 A137
    have f138 := f129.other W137 (Nat.ne_of_lt (Nat.lt_of_lt_of_le fa_48.lt (Nat.le_of_eq g128.symm)))
    have f139 := f130.other W137 (Nat.ne_of_lt (Nat.lt_of_lt_of_le AX48.lt (Nat.le_of_eq g128.symm)))
    have f140 := f131.other W137 (Nat.ne_of_lt (Nat.lt_of_lt_of_le fc_48.lt (Nat.le_of_eq g128.symm)))
    have Zs141 : n0 ≤ h137.size := (Nat.le_trans Zs132 (Keep.of_wr W137).1)
    have K142 : Keep h0 h137 [] := K133.wr W137 (Or.inr sz_b128)
    have N143 := Fr.snoc X137 N134 g_b128
    have AU144 : AI Z h137 b128 .int (own_up (List.replicate 257 (0 : Int32)) (r134.toInt.toNat + 1)) := A137
    refine g_iinc 114 X137 hx (hb hby d3_111) rfl (x := (0 : Int32)) rfl (z := (1 : Int32)) (by decide) (Ls' := #[.val (.ref a1), .val (.ref bb48), .val (.long bt), .second, .val (.ref cc48), .val (.int (48 : Int32)), .val (.ref b128), .val (.ref bb48), .val (.int (3 : Int32)), .val (.int (1 : Int32)), .val (.int x0_48)]) rfl ?_
    refine g_goto 79 X137 hx (hb hby d3_114) (by decide) (by decide) ?_
    refine g_iload 81 X137 hx (hb hby d3_79) rfl (v := (1 : Int32)) rfl ?_
    refine g_iload 83 X137 hx (hb hby d3_81) rfl (v := (3 : Int32)) rfl ?_
    refine g_icmpNo 86 X137 hx (hb hby d3_83)  (tlt (by decide : (1 : Int32) < (3 : Int32))).2.1 rfl ?_
    refine g_aload 88 X137 hx (hb hby d3_86) rfl (v := (.ref bb48)) rfl rfl ?_
    refine g_iload 90 X137 hx (hb hby d3_88) rfl (v := (1 : Int32)) rfl ?_
    refine g_iaload 91 X137 hx hZ e137 f139 1 (by decide) rfl (z := x1_48) rfl (hb hby d3_90) rfl ?_
    refine g_istore 93 X137 hx (hb hby d3_91) rfl (Ls' := #[.val (.ref a1), .val (.ref bb48), .val (.long bt), .second, .val (.ref cc48), .val (.int (48 : Int32)), .val (.ref b128), .val (.ref bb48), .val (.int (3 : Int32)), .val (.int (1 : Int32)), .val (.int x1_48)]) rfl ?_
    refine g_aload 95 X137 hx (hb hby d3_93) rfl (v := (.ref b128)) rfl rfl ?_
    refine g_aloadN 96 X137 hx (hb hby d3_95) rfl (v := (.ref a1)) rfl rfl ?_
    refine g_iload 98 X137 hx (hb hby d3_96) rfl (v := x1_48) rfl ?_
    refine g_laload 99 X137 hx hZ e137 f138 (x1_48.toInt.toNat) (own_nat0 hB48.2.1.1) rfl (z := (([w0, w1, w2] : List Int64).getD x1_48.toInt.toNat 0)) (own_getJ (by have q := hB48.2.1; show _ < 3; omega)) (hb hby d3_98) rfl ?_
    refine g_iload 101 X137 hx (hb hby d3_99) rfl (v := (48 : Int32)) rfl ?_
    have hq101_hq_145 : 0 ≤ (([w0, w1, w2] : List Int64).getD x1_48.toInt.toNat 0).toInt := (own_wN w0 w1 w2 hW0 hW1 hW2 x1_48 hR48.2.1)
    have hq101_hp_146 : 0 ≤ (48 : Int32).toInt ∧ (48 : Int32).toInt ≤ 63 := by decide
    refine g_callS 104 X137 hx hZ (y := (⟨"com/example/prefixwood/prefixwood/huffman/TwoQueues", "digit", "(JI)I"⟩ : MethodName)) hown (hw _ (List.mem_of_getElem? (i := 17) rfl)) (hw _ (List.mem_of_getElem? (i := 18) rfl)) (hw _ (List.mem_of_getElem? (i := 4) rfl)) (hw _ (List.mem_of_getElem? (i := 19) rfl)) (by decide) e137 (rm4 l Z a0 hw [] (([w0, w1, w2] : List Int64).getD x1_48.toInt.toNat 0) (48 : Int32)  h137 n0 Zs141 hq101_hq_145 hq101_hp_146) (by rw [hml]; rfl) [(.long (([w0, w1, w2] : List Int64).getD x1_48.toInt.toNat 0)), (.int (48 : Int32))] [(.ref b128)] rfl rfl (lenOf pd_0 rfl) 1 (Nat.le_of_eq rfl) (hb hby d3_101) (by decide) (by decide) (by decide) (by decide) rfl ?_
    intro v145 T145 L145 X145 hQ145
    obtain ⟨r145, rfl, hr145, N145q, e145⟩ := hQ145
    have N145 := Fr.app N143 N145q
    show Go p e below s ({ frames := 1, cells := 10, slots := 2062, locals := 16 } : Room).cells ({ frames := 1, cells := 10, slots := 2062, locals := 16 } : Room).slots (Q3 Z a1 w0 w1 w2 h0 n0) T145 (mkF m 104 #[.val (.ref a1), .val (.ref bb48), .val (.long bt), .second, .val (.ref cc48), .val (.int (48 : Int32)), .val (.ref b128), .val (.ref bb48), .val (.int (3 : Int32)), .val (.int (1 : Int32)), .val (.int x1_48)] [(.int r145), (.ref b128)])
    have hD1_48 : own_dig (([w0, w1, w2] : List Int64).getD x1_48.toInt.toNat 0) 48 r145 := hr145
    have hE1_48 := own_dgB _ _ _ hD1_48
    refine g_iconst 105 X145 hx (hb hby d3_104) rfl (z := (1 : Int32)) rfl ?_
    refine g_iadd 106 X145 hx (hb hby d3_105) rfl (z := (r145 + (1 : Int32))) rfl ?_
    refine g_dup2 107 X145 hx (hb hby d3_106) rfl rfl rfl ?_
    refine g_iaload 108 X145 hx hZ e145 AU144 (r145.toInt.toNat + 1) (own_nat0 (by have q := hE1_48; rw [own_inc (by omega)]; omega)) (by have q := hE1_48; show (Int32.toInt _).toNat = _; rw [own_inc (by omega)]; omega) (z := ((own_up (List.replicate 257 (0 : Int32)) (r134.toInt.toNat + 1)).getD (r145.toInt.toNat + 1) 0)) (own_get (by have q := hE1_48; simp only [own_upl, List.length_replicate]; omega)) (hb hby d3_107) rfl ?_
    refine g_iconst 109 X145 hx (hb hby d3_108) rfl (z := (1 : Int32)) rfl ?_
    refine g_iadd 110 X145 hx (hb hby d3_109) rfl (z := (((own_up (List.replicate 257 (0 : Int32)) (r134.toInt.toNat + 1)).getD (r145.toInt.toNat + 1) 0) + (1 : Int32))) rfl ?_
    refine g_iastore 111 X145 hx hZ e145 AU144 (r145.toInt.toNat + 1) (own_nat0 (by have q := hE1_48; rw [own_inc (by omega)]; omega)) (by have q := hE1_48; show (Int32.toInt _).toNat = _; rw [own_inc (by omega)]; omega) (by have q := hE1_48; simp only [own_upl, List.length_replicate]; omega) (z := (((own_up (List.replicate 257 (0 : Int32)) (r134.toInt.toNat + 1)).getD (r145.toInt.toNat + 1) 0) + (1 : Int32))) rfl (hb hby d3_110) rfl ?_
    intro T148 h148 X148 e148 W148 A148
    have f149 := f138.other W148 (Nat.ne_of_lt (Nat.lt_of_lt_of_le fa_48.lt (Nat.le_of_eq g128.symm)))
    have f150 := f139.other W148 (Nat.ne_of_lt (Nat.lt_of_lt_of_le AX48.lt (Nat.le_of_eq g128.symm)))
    have f151 := f140.other W148 (Nat.ne_of_lt (Nat.lt_of_lt_of_le fc_48.lt (Nat.le_of_eq g128.symm)))
    have Zs152 : n0 ≤ h148.size := (Nat.le_trans Zs141 (Keep.of_wr W148).1)
    have K153 : Keep h0 h148 [] := K142.wr W148 (Or.inr sz_b128)
    have N154 := Fr.snoc X148 N145 g_b128
    have AU155 : AI Z h148 b128 .int (own_up (own_up (List.replicate 257 (0 : Int32)) (r134.toInt.toNat + 1)) (r145.toInt.toNat + 1)) := A148
    refine g_iinc 114 X148 hx (hb hby d3_111) rfl (x := (1 : Int32)) rfl (z := (2 : Int32)) (by decide) (Ls' := #[.val (.ref a1), .val (.ref bb48), .val (.long bt), .second, .val (.ref cc48), .val (.int (48 : Int32)), .val (.ref b128), .val (.ref bb48), .val (.int (3 : Int32)), .val (.int (2 : Int32)), .val (.int x1_48)]) rfl ?_
    refine g_goto 79 X148 hx (hb hby d3_114) (by decide) (by decide) ?_
    refine g_iload 81 X148 hx (hb hby d3_79) rfl (v := (2 : Int32)) rfl ?_
    refine g_iload 83 X148 hx (hb hby d3_81) rfl (v := (3 : Int32)) rfl ?_
    refine g_icmpNo 86 X148 hx (hb hby d3_83)  (tlt (by decide : (2 : Int32) < (3 : Int32))).2.1 rfl ?_
    refine g_aload 88 X148 hx (hb hby d3_86) rfl (v := (.ref bb48)) rfl rfl ?_
    refine g_iload 90 X148 hx (hb hby d3_88) rfl (v := (2 : Int32)) rfl ?_
    refine g_iaload 91 X148 hx hZ e148 f150 2 (by decide) rfl (z := x2_48) rfl (hb hby d3_90) rfl ?_
    refine g_istore 93 X148 hx (hb hby d3_91) rfl (Ls' := #[.val (.ref a1), .val (.ref bb48), .val (.long bt), .second, .val (.ref cc48), .val (.int (48 : Int32)), .val (.ref b128), .val (.ref bb48), .val (.int (3 : Int32)), .val (.int (2 : Int32)), .val (.int x2_48)]) rfl ?_
    refine g_aload 95 X148 hx (hb hby d3_93) rfl (v := (.ref b128)) rfl rfl ?_
    refine g_aloadN 96 X148 hx (hb hby d3_95) rfl (v := (.ref a1)) rfl rfl ?_
    refine g_iload 98 X148 hx (hb hby d3_96) rfl (v := x2_48) rfl ?_
    refine g_laload 99 X148 hx hZ e148 f149 (x2_48.toInt.toNat) (own_nat0 hB48.2.2.1) rfl (z := (([w0, w1, w2] : List Int64).getD x2_48.toInt.toNat 0)) (own_getJ (by have q := hB48.2.2; show _ < 3; omega)) (hb hby d3_98) rfl ?_
    refine g_iload 101 X148 hx (hb hby d3_99) rfl (v := (48 : Int32)) rfl ?_
    have hq101_hq_156 : 0 ≤ (([w0, w1, w2] : List Int64).getD x2_48.toInt.toNat 0).toInt := (own_wN w0 w1 w2 hW0 hW1 hW2 x2_48 hR48.2.2)
    have hq101_hp_157 : 0 ≤ (48 : Int32).toInt ∧ (48 : Int32).toInt ≤ 63 := by decide
    refine g_callS 104 X148 hx hZ (y := (⟨"com/example/prefixwood/prefixwood/huffman/TwoQueues", "digit", "(JI)I"⟩ : MethodName)) hown (hw _ (List.mem_of_getElem? (i := 17) rfl)) (hw _ (List.mem_of_getElem? (i := 18) rfl)) (hw _ (List.mem_of_getElem? (i := 4) rfl)) (hw _ (List.mem_of_getElem? (i := 19) rfl)) (by decide) e148 (rm4 l Z a0 hw [] (([w0, w1, w2] : List Int64).getD x2_48.toInt.toNat 0) (48 : Int32)  h148 n0 Zs152 hq101_hq_156 hq101_hp_157) (by rw [hml]; rfl) [(.long (([w0, w1, w2] : List Int64).getD x2_48.toInt.toNat 0)), (.int (48 : Int32))] [(.ref b128)] rfl rfl (lenOf pd_0 rfl) 1 (Nat.le_of_eq rfl) (hb hby d3_101) (by decide) (by decide) (by decide) (by decide) rfl ?_
    intro v156 T156 L156 X156 hQ156
    obtain ⟨r156, rfl, hr156, N156q, e156⟩ := hQ156
    have N156 := Fr.app N154 N156q
    show Go p e below s ({ frames := 1, cells := 10, slots := 2062, locals := 16 } : Room).cells ({ frames := 1, cells := 10, slots := 2062, locals := 16 } : Room).slots (Q3 Z a1 w0 w1 w2 h0 n0) T156 (mkF m 104 #[.val (.ref a1), .val (.ref bb48), .val (.long bt), .second, .val (.ref cc48), .val (.int (48 : Int32)), .val (.ref b128), .val (.ref bb48), .val (.int (3 : Int32)), .val (.int (2 : Int32)), .val (.int x2_48)] [(.int r156), (.ref b128)])
    have hD2_48 : own_dig (([w0, w1, w2] : List Int64).getD x2_48.toInt.toNat 0) 48 r156 := hr156
    have hE2_48 := own_dgB _ _ _ hD2_48
    refine g_iconst 105 X156 hx (hb hby d3_104) rfl (z := (1 : Int32)) rfl ?_
    refine g_iadd 106 X156 hx (hb hby d3_105) rfl (z := (r156 + (1 : Int32))) rfl ?_
    refine g_dup2 107 X156 hx (hb hby d3_106) rfl rfl rfl ?_
    refine g_iaload 108 X156 hx hZ e156 AU155 (r156.toInt.toNat + 1) (own_nat0 (by have q := hE2_48; rw [own_inc (by omega)]; omega)) (by have q := hE2_48; show (Int32.toInt _).toNat = _; rw [own_inc (by omega)]; omega) (z := ((own_up (own_up (List.replicate 257 (0 : Int32)) (r134.toInt.toNat + 1)) (r145.toInt.toNat + 1)).getD (r156.toInt.toNat + 1) 0)) (own_get (by have q := hE2_48; simp only [own_upl, List.length_replicate]; omega)) (hb hby d3_107) rfl ?_
    refine g_iconst 109 X156 hx (hb hby d3_108) rfl (z := (1 : Int32)) rfl ?_
    refine g_iadd 110 X156 hx (hb hby d3_109) rfl (z := (((own_up (own_up (List.replicate 257 (0 : Int32)) (r134.toInt.toNat + 1)) (r145.toInt.toNat + 1)).getD (r156.toInt.toNat + 1) 0) + (1 : Int32))) rfl ?_
    refine g_iastore 111 X156 hx hZ e156 AU155 (r156.toInt.toNat + 1) (own_nat0 (by have q := hE2_48; rw [own_inc (by omega)]; omega)) (by have q := hE2_48; show (Int32.toInt _).toNat = _; rw [own_inc (by omega)]; omega) (by have q := hE2_48; simp only [own_upl, List.length_replicate]; omega) (z := (((own_up (own_up (List.replicate 257 (0 : Int32)) (r134.toInt.toNat + 1)) (r145.toInt.toNat + 1)).getD (r156.toInt.toNat + 1) 0) + (1 : Int32))) rfl (hb hby d3_110) rfl ?_
    intro T159 h159 X159 e159 W159 A159
    have f160 := f149.other W159 (Nat.ne_of_lt (Nat.lt_of_lt_of_le fa_48.lt (Nat.le_of_eq g128.symm)))
    have f161 := f150.other W159 (Nat.ne_of_lt (Nat.lt_of_lt_of_le AX48.lt (Nat.le_of_eq g128.symm)))
    have f162 := f151.other W159 (Nat.ne_of_lt (Nat.lt_of_lt_of_le fc_48.lt (Nat.le_of_eq g128.symm)))
    have Zs163 : n0 ≤ h159.size := (Nat.le_trans Zs152 (Keep.of_wr W159).1)
    have K164 : Keep h0 h159 [] := K153.wr W159 (Or.inr sz_b128)
    have N165 := Fr.snoc X159 N156 g_b128
    have AU166 : AI Z h159 b128 .int (own_up (own_up (own_up (List.replicate 257 (0 : Int32)) (r134.toInt.toNat + 1)) (r145.toInt.toNat + 1)) (r156.toInt.toNat + 1)) := A159
    refine g_iinc 114 X159 hx (hb hby d3_111) rfl (x := (2 : Int32)) rfl (z := (3 : Int32)) (by decide) (Ls' := #[.val (.ref a1), .val (.ref bb48), .val (.long bt), .second, .val (.ref cc48), .val (.int (48 : Int32)), .val (.ref b128), .val (.ref bb48), .val (.int (3 : Int32)), .val (.int (3 : Int32)), .val (.int x2_48)]) rfl ?_
    refine g_goto 79 X159 hx (hb hby d3_114) (by decide) (by decide) ?_
    refine g_iload 81 X159 hx (hb hby d3_79) rfl (v := (3 : Int32)) rfl ?_
    refine g_iload 83 X159 hx (hb hby d3_81) rfl (v := (3 : Int32)) rfl ?_
    refine g_icmpYes 117 X159 hx (hb hby d3_83)  (flt (Int32.lt_irrefl)).2.1 (by decide) (by decide) ?_
    refine g_iconst 118 X159 hx (hb hby d3_117) rfl (z := (1 : Int32)) rfl ?_
    refine g_istore 120 X159 hx (hb hby d3_118) rfl (Ls' := #[.val (.ref a1), .val (.ref bb48), .val (.long bt), .second, .val (.ref cc48), .val (.int (48 : Int32)), .val (.ref b128), .val (.int (1 : Int32)), .val (.int (3 : Int32)), .val (.int (3 : Int32)), .val (.int x2_48)]) rfl ?_
    have LOOP120_48 : ∀ (fuel_48 : Nat) (lv48 : Int32) (gF48 : List Int32) (Tl_48 : State) (hl_48 : Heap) (lo_48 : List Loc), (257 - lv48.toInt).toNat < fuel_48 → (1 ≤ lv48.toInt ∧ lv48.toInt ≤ 257) → (gF48.length = 257) → (own_pfx (257 - lv48.toInt).toNat lv48.toInt.toNat gF48 = own_pfx 256 1 (own_C r134.toInt.toNat r145.toInt.toNat r156.toInt.toNat)) → (Stand p l e ({ frames := 1, cells := 10, slots := 2062, locals := 16 } : Room) s m #[(.ref a1)] below meth c Tl_48 lo_48 9 1805) → (Tl_48.heap = hl_48) → (Fr n0 lo_48) → (n0 ≤ hl_48.size) → (Keep h0 hl_48 []) → (AJ Z hl_48 a1 [w0, w1, w2]) → (AI Z hl_48 bb48 .int [x0_48, x1_48, x2_48]) → (AI Z hl_48 cc48 .int MM48) → (AI Z hl_48 b128 .int gF48) → Go p e below s ({ frames := 1, cells := 10, slots := 2062, locals := 16 } : Room).cells ({ frames := 1, cells := 10, slots := 2062, locals := 16 } : Room).slots (Q3 Z a1 w0 w1 w2 h0 n0) Tl_48 (mkF m 120 #[.val (.ref a1), .val (.ref bb48), .val (.long bt), .second, .val (.ref cc48), .val (.int (48 : Int32)), .val (.ref b128), .val (.int lv48), .val (.int (3 : Int32)), .val (.int (3 : Int32)), .val (.int x2_48)] []) := by
      intro fuel_48
      induction fuel_48 with
      | zero => intro lv48 gF48 Tl_48 hl_48 lo_48 hm; exact absurd hm (Nat.not_lt_zero _)
      | succ fuel_48 ih_48 =>
        intro lv48 gF48 Tl_48 hl_48 lo_48 hm_48 hv48 hgl48 hgF48 Xl_48 el_48 Nl_48 Zl_48 Kl_48 fl_48_0 fl_48_1 fl_48_2 fl_48_3
        refine g_iload 122 Xl_48 hx (hb hby d3_120) rfl (v := lv48) rfl ?_
        refine g_aload 124 Xl_48 hx (hb hby d3_122) rfl (v := (.ref b128)) rfl rfl ?_
        refine g_arraylengthI 125 Xl_48 hx hZ el_48 fl_48_3 (z := (257 : Int32)) (by rw [hgl48]; rfl) (hb hby d3_124) rfl ?_
        by_cases hc125_166 : lv48 < (257 : Int32)
        ·
          refine g_icmpNo 128 Xl_48 hx (hb hby d3_125)  (tlt hc125_166).2.1 rfl ?_
          refine g_aload 130 Xl_48 hx (hb hby d3_128) rfl (v := (.ref b128)) rfl rfl ?_
          refine g_iload 132 Xl_48 hx (hb hby d3_130) rfl (v := lv48) rfl ?_
          refine g_dup2 133 Xl_48 hx (hb hby d3_132) rfl rfl rfl ?_
          refine g_iaload 134 Xl_48 hx hZ el_48 fl_48_3 (lv48.toInt.toNat) (own_nat0 (by omega)) rfl (z := (gF48.getD lv48.toInt.toNat 0)) (own_get (by have q := Int32.lt_iff_toInt_lt.mp hc125_166; simp only [Int32.reduceToInt] at q; rw [hgl48]; omega)) (hb hby d3_133) rfl ?_
          refine g_aload 136 Xl_48 hx (hb hby d3_134) rfl (v := (.ref b128)) rfl rfl ?_
          refine g_iload 138 Xl_48 hx (hb hby d3_136) rfl (v := lv48) rfl ?_
          refine g_iconst 139 Xl_48 hx (hb hby d3_138) rfl (z := (1 : Int32)) rfl ?_
          refine g_isub 140 Xl_48 hx (hb hby d3_139) rfl (z := (lv48 - (1 : Int32))) rfl ?_
          refine g_iaload 141 Xl_48 hx hZ el_48 fl_48_3 (lv48.toInt.toNat - 1) (own_nat0 (by have q := Int32.lt_iff_toInt_lt.mp hc125_166; simp only [Int32.reduceToInt] at q; rw [own_dec1 (by omega)]; omega)) (by have q := Int32.lt_iff_toInt_lt.mp hc125_166; simp only [Int32.reduceToInt] at q; show (Int32.toInt _).toNat = _; rw [own_dec1 (by omega)]; omega) (z := (gF48.getD (lv48.toInt.toNat - 1) 0)) (own_get (by have q := Int32.lt_iff_toInt_lt.mp hc125_166; simp only [Int32.reduceToInt] at q; rw [hgl48]; omega)) (hb hby d3_140) rfl ?_
          refine g_iadd 142 Xl_48 hx (hb hby d3_141) rfl (z := ((gF48.getD lv48.toInt.toNat 0) + (gF48.getD (lv48.toInt.toNat - 1) 0))) rfl ?_
          refine g_iastore 143 Xl_48 hx hZ el_48 fl_48_3 (lv48.toInt.toNat) (own_nat0 (by omega)) rfl (by have q := Int32.lt_iff_toInt_lt.mp hc125_166; simp only [Int32.reduceToInt] at q; rw [hgl48]; omega) (z := ((gF48.getD lv48.toInt.toNat 0) + (gF48.getD (lv48.toInt.toNat - 1) 0))) rfl (hb hby d3_142) rfl ?_
          intro T168 h168 X168 e168 W168 A168
          have f169 := fl_48_0.other W168 (Nat.ne_of_lt (Nat.lt_of_lt_of_le fa_48.lt (Nat.le_of_eq g128.symm)))
          have f170 := fl_48_1.other W168 (Nat.ne_of_lt (Nat.lt_of_lt_of_le AX48.lt (Nat.le_of_eq g128.symm)))
          have f171 := fl_48_2.other W168 (Nat.ne_of_lt (Nat.lt_of_lt_of_le fc_48.lt (Nat.le_of_eq g128.symm)))
          have Zs172 : n0 ≤ h168.size := (Nat.le_trans Zl_48 (Keep.of_wr W168).1)
          have K173 : Keep h0 h168 [] := Kl_48.wr W168 (Or.inr sz_b128)
          have N174 := Fr.snoc X168 Nl_48 g_b128
          refine g_iinc 146 X168 hx (hb hby d3_143) rfl (x := lv48) rfl (z := (lv48 + (1 : Int32))) rfl (Ls' := #[.val (.ref a1), .val (.ref bb48), .val (.long bt), .second, .val (.ref cc48), .val (.int (48 : Int32)), .val (.ref b128), .val (.int (lv48 + (1 : Int32))), .val (.int (3 : Int32)), .val (.int (3 : Int32)), .val (.int x2_48)]) rfl ?_
          refine g_goto 120 X168 hx (hb hby d3_146) (by decide) (by decide) ?_
          exact ih_48 (lv48 + (1 : Int32)) (List.set gF48 (lv48.toInt.toNat) ((gF48.getD lv48.toInt.toNat 0) + (gF48.getD (lv48.toInt.toNat - 1) 0))) T168 h168 _ (by have q := Int32.lt_iff_toInt_lt.mp hc125_166; simp only [Int32.reduceToInt] at q; rw [own_inc (by omega)]; omega) (by have q := Int32.lt_iff_toInt_lt.mp hc125_166; simp only [Int32.reduceToInt] at q; rw [own_inc (by omega)]; omega) (by rw [List.length_set]; exact hgl48) (own_pfxstep lv48 gF48 _ (by have q := Int32.lt_iff_toInt_lt.mp hc125_166; simp only [Int32.reduceToInt] at q; omega) hgF48) X168 e168 N174 Zs172 K173 f169 f170 f171 A168
        ·
          refine g_icmpYes 149 Xl_48 hx (hb hby d3_125)  (flt hc125_166).2.1 (by decide) (by decide) ?_
          have hG48 : gF48 = own_pfx 256 1 (own_C r134.toInt.toNat r145.toInt.toNat r156.toInt.toNat) := by have q := mt Int32.lt_iff_toInt_lt.mpr hc125_166; simp only [Int32.reduceToInt] at q; rw [← hgF48, show (257 - lv48.toInt).toNat = 0 by omega]; rfl
          have hH48 := own_PS r134.toInt.toNat r145.toInt.toNat r156.toInt.toNat (by omega) (by omega) (by omega)
          rw [← hG48] at hH48
          have hQ48_ := own_qs gF48 r134.toInt.toNat r145.toInt.toNat r156.toInt.toNat (by omega) (by omega) (by omega) hH48
          have hq48_ := own_qB r134.toInt.toNat r145.toInt.toNat r156.toInt.toNat
          refine g_aloadN 150 Xl_48 hx (hb hby d3_149) rfl (v := (.ref bb48)) rfl rfl ?_
          refine g_astore 152 Xl_48 hx (hb hby d3_150) rfl (Ls' := #[.val (.ref a1), .val (.ref bb48), .val (.long bt), .second, .val (.ref cc48), .val (.int (48 : Int32)), .val (.ref b128), .val (.ref bb48), .val (.int (3 : Int32)), .val (.int (3 : Int32)), .val (.int x2_48)]) rfl rfl ?_
          refine g_aload 154 Xl_48 hx (hb hby d3_152) rfl (v := (.ref bb48)) rfl rfl ?_
          refine g_arraylengthI 155 Xl_48 hx hZ el_48 fl_48_1 (z := (3 : Int32)) rfl (hb hby d3_154) rfl ?_
          refine g_istore 157 Xl_48 hx (hb hby d3_155) rfl (Ls' := #[.val (.ref a1), .val (.ref bb48), .val (.long bt), .second, .val (.ref cc48), .val (.int (48 : Int32)), .val (.ref b128), .val (.ref bb48), .val (.int (3 : Int32)), .val (.int (3 : Int32)), .val (.int x2_48)]) rfl ?_
          refine g_iconst 158 Xl_48 hx (hb hby d3_157) rfl (z := (0 : Int32)) rfl ?_
          refine g_istore 160 Xl_48 hx (hb hby d3_158) rfl (Ls' := #[.val (.ref a1), .val (.ref bb48), .val (.long bt), .second, .val (.ref cc48), .val (.int (48 : Int32)), .val (.ref b128), .val (.ref bb48), .val (.int (3 : Int32)), .val (.int (0 : Int32)), .val (.int x2_48)]) rfl ?_
          refine g_iload 162 Xl_48 hx (hb hby d3_160) rfl (v := (0 : Int32)) rfl ?_
          refine g_iload 164 Xl_48 hx (hb hby d3_162) rfl (v := (3 : Int32)) rfl ?_
          refine g_icmpNo 167 Xl_48 hx (hb hby d3_164)  (tlt (by decide : (0 : Int32) < (3 : Int32))).2.1 rfl ?_
          refine g_aload 169 Xl_48 hx (hb hby d3_167) rfl (v := (.ref bb48)) rfl rfl ?_
          refine g_iload 171 Xl_48 hx (hb hby d3_169) rfl (v := (0 : Int32)) rfl ?_
          refine g_iaload 172 Xl_48 hx hZ el_48 fl_48_1 0 (by decide) rfl (z := x0_48) rfl (hb hby d3_171) rfl ?_
          refine g_istore 174 Xl_48 hx (hb hby d3_172) rfl (Ls' := #[.val (.ref a1), .val (.ref bb48), .val (.long bt), .second, .val (.ref cc48), .val (.int (48 : Int32)), .val (.ref b128), .val (.ref bb48), .val (.int (3 : Int32)), .val (.int (0 : Int32)), .val (.int x0_48)]) rfl ?_
          refine g_aload 176 Xl_48 hx (hb hby d3_174) rfl (v := (.ref cc48)) rfl rfl ?_
          refine g_aload 178 Xl_48 hx (hb hby d3_176) rfl (v := (.ref b128)) rfl rfl ?_
          refine g_aloadN 179 Xl_48 hx (hb hby d3_178) rfl (v := (.ref a1)) rfl rfl ?_
          refine g_iload 181 Xl_48 hx (hb hby d3_179) rfl (v := x0_48) rfl ?_
          refine g_laload 182 Xl_48 hx hZ el_48 fl_48_0 (x0_48.toInt.toNat) (own_nat0 hB48.1.1) rfl (z := (([w0, w1, w2] : List Int64).getD x0_48.toInt.toNat 0)) (own_getJ (by have q := hB48.1; show _ < 3; omega)) (hb hby d3_181) rfl ?_
          refine g_iload 184 Xl_48 hx (hb hby d3_182) rfl (v := (48 : Int32)) rfl ?_
          have hq184_hq_175 : 0 ≤ (([w0, w1, w2] : List Int64).getD x0_48.toInt.toNat 0).toInt := (own_wN w0 w1 w2 hW0 hW1 hW2 x0_48 hR48.1)
          have hq184_hp_176 : 0 ≤ (48 : Int32).toInt ∧ (48 : Int32).toInt ≤ 63 := by decide
          refine g_callS 187 Xl_48 hx hZ (y := (⟨"com/example/prefixwood/prefixwood/huffman/TwoQueues", "digit", "(JI)I"⟩ : MethodName)) hown (hw _ (List.mem_of_getElem? (i := 17) rfl)) (hw _ (List.mem_of_getElem? (i := 18) rfl)) (hw _ (List.mem_of_getElem? (i := 4) rfl)) (hw _ (List.mem_of_getElem? (i := 19) rfl)) (by decide) el_48 (rm4 l Z a0 hw [] (([w0, w1, w2] : List Int64).getD x0_48.toInt.toNat 0) (48 : Int32)  hl_48 n0 Zl_48 hq184_hq_175 hq184_hp_176) (by rw [hml]; rfl) [(.long (([w0, w1, w2] : List Int64).getD x0_48.toInt.toNat 0)), (.int (48 : Int32))] [(.ref b128), (.ref cc48)] rfl rfl (lenOf pd_0 rfl) 2 (Nat.le_of_eq rfl) (hb hby d3_184) (by decide) (by decide) (by decide) (by decide) rfl ?_
          intro v175 T175 L175 X175 hQ175
          obtain ⟨r175, rfl, hr175, N175q, e175⟩ := hQ175
          have N175 := Fr.app Nl_48 N175q
          show Go p e below s ({ frames := 1, cells := 10, slots := 2062, locals := 16 } : Room).cells ({ frames := 1, cells := 10, slots := 2062, locals := 16 } : Room).slots (Q3 Z a1 w0 w1 w2 h0 n0) T175 (mkF m 187 #[.val (.ref a1), .val (.ref bb48), .val (.long bt), .second, .val (.ref cc48), .val (.int (48 : Int32)), .val (.ref b128), .val (.ref bb48), .val (.int (3 : Int32)), .val (.int (0 : Int32)), .val (.int x0_48)] [(.int r175), (.ref b128), (.ref cc48)])
          have hs0_48 : r134 = r175 := own_z _ ((hD0_48 : _ = _).trans (hr175 : _ = _).symm)
          subst hs0_48
          refine g_dup2 188 X175 hx (hb hby d3_187) rfl rfl rfl ?_
          refine g_iaload 189 X175 hx hZ e175 fl_48_3 (r134.toInt.toNat) (own_nat0 (by omega)) rfl (z := (gF48.getD r134.toInt.toNat 0)) (own_get (by first | (simp only [own_upl]; rw [hgl48]; omega) | (rw [hgl48]; omega))) (hb hby d3_188) rfl ?_
          refine g_dup_x2 190 X175 hx (hb hby d3_189) rfl rfl rfl rfl ?_
          refine g_iconst 191 X175 hx (hb hby d3_190) rfl (z := (1 : Int32)) rfl ?_
          refine g_iadd 192 X175 hx (hb hby d3_191) rfl (z := ((gF48.getD r134.toInt.toNat 0) + (1 : Int32))) rfl ?_
          refine g_iastore 193 X175 hx hZ e175 fl_48_3 (r134.toInt.toNat) (own_nat0 (by omega)) rfl (by first | (simp only [own_upl]; rw [hgl48]; omega) | (rw [hgl48]; omega)) (z := ((gF48.getD r134.toInt.toNat 0) + (1 : Int32))) rfl (hb hby d3_192) rfl ?_
          intro T178 h178 X178 e178 W178 A178
          have f179 := fl_48_0.other W178 (Nat.ne_of_lt (Nat.lt_of_lt_of_le fa_48.lt (Nat.le_of_eq g128.symm)))
          have f180 := fl_48_1.other W178 (Nat.ne_of_lt (Nat.lt_of_lt_of_le AX48.lt (Nat.le_of_eq g128.symm)))
          have f181 := fl_48_2.other W178 (Nat.ne_of_lt (Nat.lt_of_lt_of_le fc_48.lt (Nat.le_of_eq g128.symm)))
          have Zs182 : n0 ≤ h178.size := (Nat.le_trans Zl_48 (Keep.of_wr W178).1)
          have K183 : Keep h0 h178 [] := Kl_48.wr W178 (Or.inr sz_b128)
          have N184 := Fr.snoc X178 N175 g_b128
          have AV185 : AI Z h178 b128 .int (own_up gF48 r134.toInt.toNat) := A178
          refine g_iload 195 X178 hx (hb hby d3_193) rfl (v := x0_48) rfl ?_
          refine g_iastore 196 X178 hx hZ e178 f181 (own_q0 r134.toInt.toNat r145.toInt.toNat r156.toInt.toNat) (own_nat0 (by rw [hQ48_.1]; exact Int.natCast_nonneg _)) (by show (Int32.toInt _).toNat = _; rw [hQ48_.1]; rfl) (by have q := hq48_.1; rw [hM48]; omega) (z := x0_48) rfl (hb hby d3_195) rfl ?_
          intro T186 h186 X186 e186 W186 A186
          have f187 := f179.other W186 nac_48
          have f188 := f180.other W186 nbc_48
          have f189 := AV185.other W186 (Ne.symm (Nat.ne_of_lt (Nat.lt_of_lt_of_le fc_48.lt (Nat.le_of_eq g128.symm))))
          have Zs190 : n0 ≤ h186.size := (Nat.le_trans Zs182 (Keep.of_wr W186).1)
          have K191 : Keep h0 h186 [] := K183.wr W186 (Or.inr sz_cc48)
          have N192 := Fr.snoc X186 N184 g_cc48
          refine g_iinc 199 X186 hx (hb hby d3_196) rfl (x := (0 : Int32)) rfl (z := (1 : Int32)) (by decide) (Ls' := #[.val (.ref a1), .val (.ref bb48), .val (.long bt), .second, .val (.ref cc48), .val (.int (48 : Int32)), .val (.ref b128), .val (.ref bb48), .val (.int (3 : Int32)), .val (.int (1 : Int32)), .val (.int x0_48)]) rfl ?_
          refine g_goto 160 X186 hx (hb hby d3_199) (by decide) (by decide) ?_
          refine g_iload 162 X186 hx (hb hby d3_160) rfl (v := (1 : Int32)) rfl ?_
          refine g_iload 164 X186 hx (hb hby d3_162) rfl (v := (3 : Int32)) rfl ?_
          refine g_icmpNo 167 X186 hx (hb hby d3_164)  (tlt (by decide : (1 : Int32) < (3 : Int32))).2.1 rfl ?_
          refine g_aload 169 X186 hx (hb hby d3_167) rfl (v := (.ref bb48)) rfl rfl ?_
          refine g_iload 171 X186 hx (hb hby d3_169) rfl (v := (1 : Int32)) rfl ?_
          refine g_iaload 172 X186 hx hZ e186 f188 1 (by decide) rfl (z := x1_48) rfl (hb hby d3_171) rfl ?_
          refine g_istore 174 X186 hx (hb hby d3_172) rfl (Ls' := #[.val (.ref a1), .val (.ref bb48), .val (.long bt), .second, .val (.ref cc48), .val (.int (48 : Int32)), .val (.ref b128), .val (.ref bb48), .val (.int (3 : Int32)), .val (.int (1 : Int32)), .val (.int x1_48)]) rfl ?_
          refine g_aload 176 X186 hx (hb hby d3_174) rfl (v := (.ref cc48)) rfl rfl ?_
          refine g_aload 178 X186 hx (hb hby d3_176) rfl (v := (.ref b128)) rfl rfl ?_
          refine g_aloadN 179 X186 hx (hb hby d3_178) rfl (v := (.ref a1)) rfl rfl ?_
          refine g_iload 181 X186 hx (hb hby d3_179) rfl (v := x1_48) rfl ?_
          refine g_laload 182 X186 hx hZ e186 f187 (x1_48.toInt.toNat) (own_nat0 hB48.2.1.1) rfl (z := (([w0, w1, w2] : List Int64).getD x1_48.toInt.toNat 0)) (own_getJ (by have q := hB48.2.1; show _ < 3; omega)) (hb hby d3_181) rfl ?_
          refine g_iload 184 X186 hx (hb hby d3_182) rfl (v := (48 : Int32)) rfl ?_
          have hq184_hq_193 : 0 ≤ (([w0, w1, w2] : List Int64).getD x1_48.toInt.toNat 0).toInt := (own_wN w0 w1 w2 hW0 hW1 hW2 x1_48 hR48.2.1)
          have hq184_hp_194 : 0 ≤ (48 : Int32).toInt ∧ (48 : Int32).toInt ≤ 63 := by decide
          refine g_callS 187 X186 hx hZ (y := (⟨"com/example/prefixwood/prefixwood/huffman/TwoQueues", "digit", "(JI)I"⟩ : MethodName)) hown (hw _ (List.mem_of_getElem? (i := 17) rfl)) (hw _ (List.mem_of_getElem? (i := 18) rfl)) (hw _ (List.mem_of_getElem? (i := 4) rfl)) (hw _ (List.mem_of_getElem? (i := 19) rfl)) (by decide) e186 (rm4 l Z a0 hw [] (([w0, w1, w2] : List Int64).getD x1_48.toInt.toNat 0) (48 : Int32)  h186 n0 Zs190 hq184_hq_193 hq184_hp_194) (by rw [hml]; rfl) [(.long (([w0, w1, w2] : List Int64).getD x1_48.toInt.toNat 0)), (.int (48 : Int32))] [(.ref b128), (.ref cc48)] rfl rfl (lenOf pd_0 rfl) 2 (Nat.le_of_eq rfl) (hb hby d3_184) (by decide) (by decide) (by decide) (by decide) rfl ?_
          intro v193 T193 L193 X193 hQ193
          obtain ⟨r193, rfl, hr193, N193q, e193⟩ := hQ193
          have N193 := Fr.app N192 N193q
          show Go p e below s ({ frames := 1, cells := 10, slots := 2062, locals := 16 } : Room).cells ({ frames := 1, cells := 10, slots := 2062, locals := 16 } : Room).slots (Q3 Z a1 w0 w1 w2 h0 n0) T193 (mkF m 187 #[.val (.ref a1), .val (.ref bb48), .val (.long bt), .second, .val (.ref cc48), .val (.int (48 : Int32)), .val (.ref b128), .val (.ref bb48), .val (.int (3 : Int32)), .val (.int (1 : Int32)), .val (.int x1_48)] [(.int r193), (.ref b128), (.ref cc48)])
          have hs1_48 : r145 = r193 := own_z _ ((hD1_48 : _ = _).trans (hr193 : _ = _).symm)
          subst hs1_48
          refine g_dup2 188 X193 hx (hb hby d3_187) rfl rfl rfl ?_
          refine g_iaload 189 X193 hx hZ e193 f189 (r145.toInt.toNat) (own_nat0 (by omega)) rfl (z := ((own_up gF48 r134.toInt.toNat).getD r145.toInt.toNat 0)) (own_get (by first | (simp only [own_upl]; rw [hgl48]; omega) | (rw [hgl48]; omega))) (hb hby d3_188) rfl ?_
          refine g_dup_x2 190 X193 hx (hb hby d3_189) rfl rfl rfl rfl ?_
          refine g_iconst 191 X193 hx (hb hby d3_190) rfl (z := (1 : Int32)) rfl ?_
          refine g_iadd 192 X193 hx (hb hby d3_191) rfl (z := (((own_up gF48 r134.toInt.toNat).getD r145.toInt.toNat 0) + (1 : Int32))) rfl ?_
          refine g_iastore 193 X193 hx hZ e193 f189 (r145.toInt.toNat) (own_nat0 (by omega)) rfl (by first | (simp only [own_upl]; rw [hgl48]; omega) | (rw [hgl48]; omega)) (z := (((own_up gF48 r134.toInt.toNat).getD r145.toInt.toNat 0) + (1 : Int32))) rfl (hb hby d3_192) rfl ?_
          intro T196 h196 X196 e196 W196 A196
          have f197 := f187.other W196 (Nat.ne_of_lt (Nat.lt_of_lt_of_le fa_48.lt (Nat.le_of_eq g128.symm)))
          have f198 := f188.other W196 (Nat.ne_of_lt (Nat.lt_of_lt_of_le AX48.lt (Nat.le_of_eq g128.symm)))
          have f199 := A186.other W196 (Nat.ne_of_lt (Nat.lt_of_lt_of_le fc_48.lt (Nat.le_of_eq g128.symm)))
          have Zs200 : n0 ≤ h196.size := (Nat.le_trans Zs190 (Keep.of_wr W196).1)
          have K201 : Keep h0 h196 [] := K191.wr W196 (Or.inr sz_b128)
          have N202 := Fr.snoc X196 N193 g_b128
          have AV203 : AI Z h196 b128 .int (own_up (own_up gF48 r134.toInt.toNat) r145.toInt.toNat) := A196
          refine g_iload 195 X196 hx (hb hby d3_193) rfl (v := x1_48) rfl ?_
          refine g_iastore 196 X196 hx hZ e196 f199 (own_q1 r134.toInt.toNat r145.toInt.toNat r156.toInt.toNat) (own_nat0 (by rw [hQ48_.2.1]; exact Int.natCast_nonneg _)) (by show (Int32.toInt _).toNat = _; rw [hQ48_.2.1]; rfl) (by have q := hq48_.2.1; rw [List.length_set, hM48]; omega) (z := x1_48) rfl (hb hby d3_195) rfl ?_
          intro T204 h204 X204 e204 W204 A204
          have f205 := f197.other W204 nac_48
          have f206 := f198.other W204 nbc_48
          have f207 := AV203.other W204 (Ne.symm (Nat.ne_of_lt (Nat.lt_of_lt_of_le fc_48.lt (Nat.le_of_eq g128.symm))))
          have Zs208 : n0 ≤ h204.size := (Nat.le_trans Zs200 (Keep.of_wr W204).1)
          have K209 : Keep h0 h204 [] := K201.wr W204 (Or.inr sz_cc48)
          have N210 := Fr.snoc X204 N202 g_cc48
          refine g_iinc 199 X204 hx (hb hby d3_196) rfl (x := (1 : Int32)) rfl (z := (2 : Int32)) (by decide) (Ls' := #[.val (.ref a1), .val (.ref bb48), .val (.long bt), .second, .val (.ref cc48), .val (.int (48 : Int32)), .val (.ref b128), .val (.ref bb48), .val (.int (3 : Int32)), .val (.int (2 : Int32)), .val (.int x1_48)]) rfl ?_
          refine g_goto 160 X204 hx (hb hby d3_199) (by decide) (by decide) ?_
          refine g_iload 162 X204 hx (hb hby d3_160) rfl (v := (2 : Int32)) rfl ?_
          refine g_iload 164 X204 hx (hb hby d3_162) rfl (v := (3 : Int32)) rfl ?_
          refine g_icmpNo 167 X204 hx (hb hby d3_164)  (tlt (by decide : (2 : Int32) < (3 : Int32))).2.1 rfl ?_
          refine g_aload 169 X204 hx (hb hby d3_167) rfl (v := (.ref bb48)) rfl rfl ?_
          refine g_iload 171 X204 hx (hb hby d3_169) rfl (v := (2 : Int32)) rfl ?_
          refine g_iaload 172 X204 hx hZ e204 f206 2 (by decide) rfl (z := x2_48) rfl (hb hby d3_171) rfl ?_
          refine g_istore 174 X204 hx (hb hby d3_172) rfl (Ls' := #[.val (.ref a1), .val (.ref bb48), .val (.long bt), .second, .val (.ref cc48), .val (.int (48 : Int32)), .val (.ref b128), .val (.ref bb48), .val (.int (3 : Int32)), .val (.int (2 : Int32)), .val (.int x2_48)]) rfl ?_
          refine g_aload 176 X204 hx (hb hby d3_174) rfl (v := (.ref cc48)) rfl rfl ?_
          refine g_aload 178 X204 hx (hb hby d3_176) rfl (v := (.ref b128)) rfl rfl ?_
          refine g_aloadN 179 X204 hx (hb hby d3_178) rfl (v := (.ref a1)) rfl rfl ?_
          refine g_iload 181 X204 hx (hb hby d3_179) rfl (v := x2_48) rfl ?_
          refine g_laload 182 X204 hx hZ e204 f205 (x2_48.toInt.toNat) (own_nat0 hB48.2.2.1) rfl (z := (([w0, w1, w2] : List Int64).getD x2_48.toInt.toNat 0)) (own_getJ (by have q := hB48.2.2; show _ < 3; omega)) (hb hby d3_181) rfl ?_
          refine g_iload 184 X204 hx (hb hby d3_182) rfl (v := (48 : Int32)) rfl ?_
          have hq184_hq_211 : 0 ≤ (([w0, w1, w2] : List Int64).getD x2_48.toInt.toNat 0).toInt := (own_wN w0 w1 w2 hW0 hW1 hW2 x2_48 hR48.2.2)
          have hq184_hp_212 : 0 ≤ (48 : Int32).toInt ∧ (48 : Int32).toInt ≤ 63 := by decide
          refine g_callS 187 X204 hx hZ (y := (⟨"com/example/prefixwood/prefixwood/huffman/TwoQueues", "digit", "(JI)I"⟩ : MethodName)) hown (hw _ (List.mem_of_getElem? (i := 17) rfl)) (hw _ (List.mem_of_getElem? (i := 18) rfl)) (hw _ (List.mem_of_getElem? (i := 4) rfl)) (hw _ (List.mem_of_getElem? (i := 19) rfl)) (by decide) e204 (rm4 l Z a0 hw [] (([w0, w1, w2] : List Int64).getD x2_48.toInt.toNat 0) (48 : Int32)  h204 n0 Zs208 hq184_hq_211 hq184_hp_212) (by rw [hml]; rfl) [(.long (([w0, w1, w2] : List Int64).getD x2_48.toInt.toNat 0)), (.int (48 : Int32))] [(.ref b128), (.ref cc48)] rfl rfl (lenOf pd_0 rfl) 2 (Nat.le_of_eq rfl) (hb hby d3_184) (by decide) (by decide) (by decide) (by decide) rfl ?_
          intro v211 T211 L211 X211 hQ211
          obtain ⟨r211, rfl, hr211, N211q, e211⟩ := hQ211
          have N211 := Fr.app N210 N211q
          show Go p e below s ({ frames := 1, cells := 10, slots := 2062, locals := 16 } : Room).cells ({ frames := 1, cells := 10, slots := 2062, locals := 16 } : Room).slots (Q3 Z a1 w0 w1 w2 h0 n0) T211 (mkF m 187 #[.val (.ref a1), .val (.ref bb48), .val (.long bt), .second, .val (.ref cc48), .val (.int (48 : Int32)), .val (.ref b128), .val (.ref bb48), .val (.int (3 : Int32)), .val (.int (2 : Int32)), .val (.int x2_48)] [(.int r211), (.ref b128), (.ref cc48)])
          have hs2_48 : r156 = r211 := own_z _ ((hD2_48 : _ = _).trans (hr211 : _ = _).symm)
          subst hs2_48
          refine g_dup2 188 X211 hx (hb hby d3_187) rfl rfl rfl ?_
          refine g_iaload 189 X211 hx hZ e211 f207 (r156.toInt.toNat) (own_nat0 (by omega)) rfl (z := ((own_up (own_up gF48 r134.toInt.toNat) r145.toInt.toNat).getD r156.toInt.toNat 0)) (own_get (by first | (simp only [own_upl]; rw [hgl48]; omega) | (rw [hgl48]; omega))) (hb hby d3_188) rfl ?_
          refine g_dup_x2 190 X211 hx (hb hby d3_189) rfl rfl rfl rfl ?_
          refine g_iconst 191 X211 hx (hb hby d3_190) rfl (z := (1 : Int32)) rfl ?_
          refine g_iadd 192 X211 hx (hb hby d3_191) rfl (z := (((own_up (own_up gF48 r134.toInt.toNat) r145.toInt.toNat).getD r156.toInt.toNat 0) + (1 : Int32))) rfl ?_
          refine g_iastore 193 X211 hx hZ e211 f207 (r156.toInt.toNat) (own_nat0 (by omega)) rfl (by first | (simp only [own_upl]; rw [hgl48]; omega) | (rw [hgl48]; omega)) (z := (((own_up (own_up gF48 r134.toInt.toNat) r145.toInt.toNat).getD r156.toInt.toNat 0) + (1 : Int32))) rfl (hb hby d3_192) rfl ?_
          intro T214 h214 X214 e214 W214 A214
          have f215 := f205.other W214 (Nat.ne_of_lt (Nat.lt_of_lt_of_le fa_48.lt (Nat.le_of_eq g128.symm)))
          have f216 := f206.other W214 (Nat.ne_of_lt (Nat.lt_of_lt_of_le AX48.lt (Nat.le_of_eq g128.symm)))
          have f217 := A204.other W214 (Nat.ne_of_lt (Nat.lt_of_lt_of_le fc_48.lt (Nat.le_of_eq g128.symm)))
          have Zs218 : n0 ≤ h214.size := (Nat.le_trans Zs208 (Keep.of_wr W214).1)
          have K219 : Keep h0 h214 [] := K209.wr W214 (Or.inr sz_b128)
          have N220 := Fr.snoc X214 N211 g_b128
          have AV221 : AI Z h214 b128 .int (own_up (own_up (own_up gF48 r134.toInt.toNat) r145.toInt.toNat) r156.toInt.toNat) := A214
          refine g_iload 195 X214 hx (hb hby d3_193) rfl (v := x2_48) rfl ?_
          refine g_iastore 196 X214 hx hZ e214 f217 (own_q2 r134.toInt.toNat r145.toInt.toNat r156.toInt.toNat) (own_nat0 (by rw [hQ48_.2.2]; exact Int.natCast_nonneg _)) (by show (Int32.toInt _).toNat = _; rw [hQ48_.2.2]; rfl) (by have q := hq48_.2.2; rw [List.length_set, List.length_set, hM48]; omega) (z := x2_48) rfl (hb hby d3_195) rfl ?_
          intro T222 h222 X222 e222 W222 A222
          have f223 := f215.other W222 nac_48
          have f224 := f216.other W222 nbc_48
          have f225 := AV221.other W222 (Ne.symm (Nat.ne_of_lt (Nat.lt_of_lt_of_le fc_48.lt (Nat.le_of_eq g128.symm))))
          have Zs226 : n0 ≤ h222.size := (Nat.le_trans Zs218 (Keep.of_wr W222).1)
          have K227 : Keep h0 h222 [] := K219.wr W222 (Or.inr sz_cc48)
          have N228 := Fr.snoc X222 N220 g_cc48
          refine g_iinc 199 X222 hx (hb hby d3_196) rfl (x := (2 : Int32)) rfl (z := (3 : Int32)) (by decide) (Ls' := #[.val (.ref a1), .val (.ref bb48), .val (.long bt), .second, .val (.ref cc48), .val (.int (48 : Int32)), .val (.ref b128), .val (.ref bb48), .val (.int (3 : Int32)), .val (.int (3 : Int32)), .val (.int x2_48)]) rfl ?_
          refine g_goto 160 X222 hx (hb hby d3_199) (by decide) (by decide) ?_
          refine g_iload 162 X222 hx (hb hby d3_160) rfl (v := (3 : Int32)) rfl ?_
          refine g_iload 164 X222 hx (hb hby d3_162) rfl (v := (3 : Int32)) rfl ?_
          refine g_icmpYes 202 X222 hx (hb hby d3_164)  (flt (Int32.lt_irrefl)).2.1 (by decide) (by decide) ?_
          refine g_aloadN 203 X222 hx (hb hby d3_202) rfl (v := (.ref bb48)) rfl rfl ?_
          refine g_astore 205 X222 hx (hb hby d3_203) rfl (Ls' := #[.val (.ref a1), .val (.ref bb48), .val (.long bt), .second, .val (.ref cc48), .val (.int (48 : Int32)), .val (.ref b128), .val (.ref bb48), .val (.int (3 : Int32)), .val (.int (3 : Int32)), .val (.int x2_48)]) rfl rfl ?_
          refine g_aload 207 X222 hx (hb hby d3_205) rfl (v := (.ref cc48)) rfl rfl ?_
          refine g_astoreN 208 X222 hx (hb hby d3_207) rfl (Ls' := #[.val (.ref a1), .val (.ref cc48), .val (.long bt), .second, .val (.ref cc48), .val (.int (48 : Int32)), .val (.ref b128), .val (.ref bb48), .val (.int (3 : Int32)), .val (.int (3 : Int32)), .val (.int x2_48)]) rfl rfl ?_
          refine g_aload 210 X222 hx (hb hby d3_208) rfl (v := (.ref bb48)) rfl rfl ?_
          refine g_astore 212 X222 hx (hb hby d3_210) rfl (Ls' := #[.val (.ref a1), .val (.ref cc48), .val (.long bt), .second, .val (.ref bb48), .val (.int (48 : Int32)), .val (.ref b128), .val (.ref bb48), .val (.int (3 : Int32)), .val (.int (3 : Int32)), .val (.int x2_48)]) rfl rfl ?_
          refine g_iinc 215 X222 hx (hb hby d3_212) rfl (x := (48 : Int32)) rfl (z := (56 : Int32)) (by decide) (Ls' := #[.val (.ref a1), .val (.ref cc48), .val (.long bt), .second, .val (.ref bb48), .val (.int (56 : Int32)), .val (.ref b128), .val (.ref bb48), .val (.int (3 : Int32)), .val (.int (3 : Int32)), .val (.int x2_48)]) rfl ?_
          refine g_goto 45 X222 hx (hb hby d3_215) (by decide) (by decide) ?_
          have AK56 : AI Z h222 cc48 .int (own_K w0 w1 w2 56) := by rw [← own_passL w0 w1 w2 48 x0_48 x1_48 x2_48 r134 r145 r156 MM48 hM48 hX48 hD0_48 hD1_48 hD2_48]; exact A222
          exact pass_56 l Z a0 hw a1 w0 w1 w2 h0 n0 hW0 hW1 hW2 hret hZ hx hby hml hown hlk bt hbt cc48 bb48 b128 bb48 x2_48 [x0_48, x1_48, x2_48] T222 h222 _ rfl (Ne.symm nbc_48) nac_48 nab_48 g_cc48 g_bb48 sz_cc48 sz_bb48 X222 e222 N228 Zs226 K227 f223 AK56 f224
    exact LOOP120_48 _ (1 : Int32) (own_C r134.toInt.toNat r145.toInt.toNat r156.toInt.toNat) T159 h159 _ (Nat.lt_succ_self _) (by decide) ((own_CS r134.toInt.toNat r145.toInt.toNat r156.toInt.toNat (by omega) (by omega) (by omega)).1) rfl X159 e159 N165 Zs163 K164 f160 f161 f162 AU166
set_option maxRecDepth 65536 in
set_option maxHeartbeats 40000000 in
theorem pass_40 (l : Launch) (Z : State) (a0 : Array Value) (hw : ∀ d ∈ tables_1, d.before a0 Z = true) (a1 : Addr) (w0 w1 w2 : Int64) (h0 : Heap) (n0 : Nat) (hW0 : 0 ≤ w0.toInt) (hW1 : 0 ≤ w1.toInt) (hW2 : 0 ≤ w2.toInt) {p : Program} {e : Env} {s : State} {m : MethodId} {below : List Frame} {meth : Method} {c : Code} (hret : meth.sig.returnType = some FieldType.int.array) (hZ : Z.Warmed39 s.vm) (hx : p.tables.exec = Jvm.exec) (hby : c.code = prog_51_method_4_code) (hml : c.maxLocals = 11) (hown : s.vm.findClass "com/example/prefixwood/prefixwood/huffman/TwoQueues" = some m.cls) (hlk : meth.locks = false) (bt : Int64) (hbt : bt.toBitVec = (w0.toBitVec ||| w1.toBitVec) ||| w2.toBitVec) :
    ∀ (bb40 cc40 ea40 eb40 : Addr) (yy40 : Int32) (MM40 : List Int32) (Tp_40 : State) (hp_40 : Heap) (lp_40 : List Loc), (MM40.length = 3) → (bb40 ≠ cc40) → (a1 ≠ bb40) → (a1 ≠ cc40) → (n0 ≤ bb40) → (n0 ≤ cc40) → (h0.size ≤ bb40) → (h0.size ≤ cc40) → (Stand p l e ({ frames := 1, cells := 10, slots := 2062, locals := 16 } : Room) s m #[(.ref a1)] below meth c Tp_40 lp_40 7 1291) → (Tp_40.heap = hp_40) → (Fr n0 lp_40) → (n0 ≤ hp_40.size) → (Keep h0 hp_40 []) → (AJ Z hp_40 a1 [w0, w1, w2]) → (AI Z hp_40 bb40 .int (own_K w0 w1 w2 40)) → (AI Z hp_40 cc40 .int MM40) → Go p e below s ({ frames := 1, cells := 10, slots := 2062, locals := 16 } : Room).cells ({ frames := 1, cells := 10, slots := 2062, locals := 16 } : Room).slots (Q3 Z a1 w0 w1 w2 h0 n0) Tp_40 (mkF m 45 #[.val (.ref a1), .val (.ref bb40), .val (.long bt), .second, .val (.ref cc40), .val (.int (40 : Int32)), .val (.ref ea40), .val (.ref eb40), .val (.int (3 : Int32)), .val (.int (3 : Int32)), .val (.int yy40)] []) := by
  intro bb40 cc40 ea40 eb40 yy40 MM40 Tp_40 hp_40 lp_40 hM40 nbc_40 nab_40 nac_40 g_bb40 g_cc40 sz_bb40 sz_cc40 Xp_40 ep_40 Np_40 Zp_40 Kp_40 fa_40 fb_40 fc_40
  obtain ⟨x0_40, x1_40, x2_40, hk40, hX40⟩ := own_KX w0 w1 w2 40
  have AX40 : AI Z hp_40 bb40 .int [x0_40, x1_40, x2_40] := by rw [← hk40]; exact fb_40
  have hR40 := own_sixR _ _ _ _ _ _ hX40
  have hB40 := own_sixB _ _ _ _ _ _ hX40
  refine g_iload 47 Xp_40 hx (hb hby d3_45) rfl (v := (40 : Int32)) rfl ?_
  refine g_bipush 49 Xp_40 hx (hb hby d3_47) rfl (z := (64 : Int32)) rfl ?_
  refine g_icmpNo 52 Xp_40 hx (hb hby d3_49)  (tlt (by decide : (40 : Int32) < (64 : Int32))).2.1 rfl ?_
  refine g_lloadN 53 Xp_40 hx (hb hby d3_52) rfl (v := bt) rfl ?_
  refine g_iload 55 Xp_40 hx (hb hby d3_53) rfl (v := (40 : Int32)) rfl ?_
  refine g_lushr 56 Xp_40 hx (hb hby d3_55) rfl (z := ((bt.toUInt64 >>> ((40 : Int32) &&& 0x3f).toInt64.toUInt64).toInt64)) rfl ?_
  refine g_lconst 57 Xp_40 hx (hb hby d3_56) rfl (z := (0 : Int64)) rfl ?_
  by_cases hc57_228 : ((bt.toUInt64 >>> ((40 : Int32) &&& 0x3f).toInt64.toUInt64).toInt64) = (0 : Int64)
  ·
    refine g_lcmpYes 218 Xp_40 hx (hb hby d3_57) rfl (hb hby d3_58) (teqL hc57_228).1 (by decide) (by decide) ?_
    refine g_aloadN 219 Xp_40 hx (hb hby d3_218) rfl (v := (.ref bb40)) rfl rfl ?_
    have hend : own_K w0 w1 w2 40 = own_Srt w0 w1 w2 := (fun q => own_KS w0 w1 w2 40 q.1 q.2.1 q.2.2) (own_bitsL w0 w1 w2 (40 : Int32) 40 (by decide) hW0 hW1 hW2 bt hbt hc57_228)
    rw [hend] at fb_40
    exact g_retA Xp_40 hx hret hlk rfl rfl rfl (hb hby d3_219) (by decide) (by decide) (by
        show Q3 Z a1 w0 w1 w2 h0 n0 _ Tp_40.heap _
        rw [ep_40]
        exact ⟨bb40, rfl, Np_40, Kp_40, g_bb40, sz_bb40, fb_40⟩)
  ·
    refine g_lcmpNo 61 Xp_40 hx (hb hby d3_57) rfl (hb hby d3_58) (feqL hc57_228).1 rfl ?_
    refine g_sipush 64 Xp_40 hx (hb hby d3_61) rfl (z := (257 : Int32)) rfl ?_
    refine g_new_int 66 Xp_40 hx hZ (hw _ (List.mem_of_getElem? (i := 16) rfl)) ep_40 257 257 (by decide) rfl (by decide) (by decide) (by decide) (by decide) (hb hby d3_64) rfl ?_
    intro T230 h230 b230 X230 e230 E230 g230 A230
    have f231 := fa_40.ext E230
    have f232 := AX40.ext E230
    have f233 := fc_40.ext E230
    have Zs234 : n0 ≤ h230.size := (Nat.le_trans Zp_40 E230.1)
    have K235 : Keep h0 h230 [] := Kp_40.ext E230
    have g_b230 : n0 ≤ b230 := Nat.le_trans Zp_40 (Nat.le_of_eq g230.symm)
    have sz_b230 : h0.size ≤ b230 := Nat.le_trans Kp_40.1 (Nat.le_of_eq g230.symm)
    refine g_astore 68 X230 hx (hb hby d3_66) rfl (Ls' := #[.val (.ref a1), .val (.ref bb40), .val (.long bt), .second, .val (.ref cc40), .val (.int (40 : Int32)), .val (.ref b230), .val (.ref eb40), .val (.int (3 : Int32)), .val (.int (3 : Int32)), .val (.int yy40)]) rfl rfl ?_
    refine g_aloadN 69 X230 hx (hb hby d3_68) rfl (v := (.ref bb40)) rfl rfl ?_
    refine g_astore 71 X230 hx (hb hby d3_69) rfl (Ls' := #[.val (.ref a1), .val (.ref bb40), .val (.long bt), .second, .val (.ref cc40), .val (.int (40 : Int32)), .val (.ref b230), .val (.ref bb40), .val (.int (3 : Int32)), .val (.int (3 : Int32)), .val (.int yy40)]) rfl rfl ?_
    refine g_aload 73 X230 hx (hb hby d3_71) rfl (v := (.ref bb40)) rfl rfl ?_
    refine g_arraylengthI 74 X230 hx hZ e230 f232 (z := (3 : Int32)) rfl (hb hby d3_73) rfl ?_
    refine g_istore 76 X230 hx (hb hby d3_74) rfl (Ls' := #[.val (.ref a1), .val (.ref bb40), .val (.long bt), .second, .val (.ref cc40), .val (.int (40 : Int32)), .val (.ref b230), .val (.ref bb40), .val (.int (3 : Int32)), .val (.int (3 : Int32)), .val (.int yy40)]) rfl ?_
    refine g_iconst 77 X230 hx (hb hby d3_76) rfl (z := (0 : Int32)) rfl ?_
    refine g_istore 79 X230 hx (hb hby d3_77) rfl (Ls' := #[.val (.ref a1), .val (.ref bb40), .val (.long bt), .second, .val (.ref cc40), .val (.int (40 : Int32)), .val (.ref b230), .val (.ref bb40), .val (.int (3 : Int32)), .val (.int (0 : Int32)), .val (.int yy40)]) rfl ?_
    refine g_iload 81 X230 hx (hb hby d3_79) rfl (v := (0 : Int32)) rfl ?_
    refine g_iload 83 X230 hx (hb hby d3_81) rfl (v := (3 : Int32)) rfl ?_
    refine g_icmpNo 86 X230 hx (hb hby d3_83)  (tlt (by decide : (0 : Int32) < (3 : Int32))).2.1 rfl ?_
    refine g_aload 88 X230 hx (hb hby d3_86) rfl (v := (.ref bb40)) rfl rfl ?_
    refine g_iload 90 X230 hx (hb hby d3_88) rfl (v := (0 : Int32)) rfl ?_
    refine g_iaload 91 X230 hx hZ e230 f232 0 (by decide) rfl (z := x0_40) rfl (hb hby d3_90) rfl ?_
    refine g_istore 93 X230 hx (hb hby d3_91) rfl (Ls' := #[.val (.ref a1), .val (.ref bb40), .val (.long bt), .second, .val (.ref cc40), .val (.int (40 : Int32)), .val (.ref b230), .val (.ref bb40), .val (.int (3 : Int32)), .val (.int (0 : Int32)), .val (.int x0_40)]) rfl ?_
    refine g_aload 95 X230 hx (hb hby d3_93) rfl (v := (.ref b230)) rfl rfl ?_
    refine g_aloadN 96 X230 hx (hb hby d3_95) rfl (v := (.ref a1)) rfl rfl ?_
    refine g_iload 98 X230 hx (hb hby d3_96) rfl (v := x0_40) rfl ?_
    refine g_laload 99 X230 hx hZ e230 f231 (x0_40.toInt.toNat) (own_nat0 hB40.1.1) rfl (z := (([w0, w1, w2] : List Int64).getD x0_40.toInt.toNat 0)) (own_getJ (by have q := hB40.1; show _ < 3; omega)) (hb hby d3_98) rfl ?_
    refine g_iload 101 X230 hx (hb hby d3_99) rfl (v := (40 : Int32)) rfl ?_
    have hq101_hq_236 : 0 ≤ (([w0, w1, w2] : List Int64).getD x0_40.toInt.toNat 0).toInt := (own_wN w0 w1 w2 hW0 hW1 hW2 x0_40 hR40.1)
    have hq101_hp_237 : 0 ≤ (40 : Int32).toInt ∧ (40 : Int32).toInt ≤ 63 := by decide
    refine g_callS 104 X230 hx hZ (y := (⟨"com/example/prefixwood/prefixwood/huffman/TwoQueues", "digit", "(JI)I"⟩ : MethodName)) hown (hw _ (List.mem_of_getElem? (i := 17) rfl)) (hw _ (List.mem_of_getElem? (i := 18) rfl)) (hw _ (List.mem_of_getElem? (i := 4) rfl)) (hw _ (List.mem_of_getElem? (i := 19) rfl)) (by decide) e230 (rm4 l Z a0 hw [] (([w0, w1, w2] : List Int64).getD x0_40.toInt.toNat 0) (40 : Int32)  h230 n0 Zs234 hq101_hq_236 hq101_hp_237) (by rw [hml]; rfl) [(.long (([w0, w1, w2] : List Int64).getD x0_40.toInt.toNat 0)), (.int (40 : Int32))] [(.ref b230)] rfl rfl (lenOf pd_0 rfl) 1 (Nat.le_of_eq rfl) (hb hby d3_101) (by decide) (by decide) (by decide) (by decide) rfl ?_
    intro v236 T236 L236 X236 hQ236
    obtain ⟨r236, rfl, hr236, N236q, e236⟩ := hQ236
    have N236 := Fr.app Np_40 N236q
    show Go p e below s ({ frames := 1, cells := 10, slots := 2062, locals := 16 } : Room).cells ({ frames := 1, cells := 10, slots := 2062, locals := 16 } : Room).slots (Q3 Z a1 w0 w1 w2 h0 n0) T236 (mkF m 104 #[.val (.ref a1), .val (.ref bb40), .val (.long bt), .second, .val (.ref cc40), .val (.int (40 : Int32)), .val (.ref b230), .val (.ref bb40), .val (.int (3 : Int32)), .val (.int (0 : Int32)), .val (.int x0_40)] [(.int r236), (.ref b230)])
    have hD0_40 : own_dig (([w0, w1, w2] : List Int64).getD x0_40.toInt.toNat 0) 40 r236 := hr236
    have hE0_40 := own_dgB _ _ _ hD0_40
    refine g_iconst 105 X236 hx (hb hby d3_104) rfl (z := (1 : Int32)) rfl ?_
    refine g_iadd 106 X236 hx (hb hby d3_105) rfl (z := (r236 + (1 : Int32))) rfl ?_
    refine g_dup2 107 X236 hx (hb hby d3_106) rfl rfl rfl ?_
    refine g_iaload 108 X236 hx hZ e236 A230 (r236.toInt.toNat + 1) (own_nat0 (by have q := hE0_40; rw [own_inc (by omega)]; omega)) (by have q := hE0_40; show (Int32.toInt _).toNat = _; rw [own_inc (by omega)]; omega) (z := ((List.replicate 257 (0 : Int32)).getD (r236.toInt.toNat + 1) 0)) (own_get (by have q := hE0_40; simp only [own_upl, List.length_replicate]; omega)) (hb hby d3_107) rfl ?_
    refine g_iconst 109 X236 hx (hb hby d3_108) rfl (z := (1 : Int32)) rfl ?_
    refine g_iadd 110 X236 hx (hb hby d3_109) rfl (z := (((List.replicate 257 (0 : Int32)).getD (r236.toInt.toNat + 1) 0) + (1 : Int32))) rfl ?_
    refine g_iastore 111 X236 hx hZ e236 A230 (r236.toInt.toNat + 1) (own_nat0 (by have q := hE0_40; rw [own_inc (by omega)]; omega)) (by have q := hE0_40; show (Int32.toInt _).toNat = _; rw [own_inc (by omega)]; omega) (by have q := hE0_40; simp only [own_upl, List.length_replicate]; omega) (z := (((List.replicate 257 (0 : Int32)).getD (r236.toInt.toNat + 1) 0) + (1 : Int32))) rfl (hb hby d3_110) rfl ?_
    intro T239 h239 X239 e239 W239 A239
    have f240 := f231.other W239 (Nat.ne_of_lt (Nat.lt_of_lt_of_le fa_40.lt (Nat.le_of_eq g230.symm)))
    have f241 := f232.other W239 (Nat.ne_of_lt (Nat.lt_of_lt_of_le AX40.lt (Nat.le_of_eq g230.symm)))
    have f242 := f233.other W239 (Nat.ne_of_lt (Nat.lt_of_lt_of_le fc_40.lt (Nat.le_of_eq g230.symm)))
    have Zs243 : n0 ≤ h239.size := (Nat.le_trans Zs234 (Keep.of_wr W239).1)
    have K244 : Keep h0 h239 [] := K235.wr W239 (Or.inr sz_b230)
    have N245 := Fr.snoc X239 N236 g_b230
    have AU246 : AI Z h239 b230 .int (own_up (List.replicate 257 (0 : Int32)) (r236.toInt.toNat + 1)) := A239
    refine g_iinc 114 X239 hx (hb hby d3_111) rfl (x := (0 : Int32)) rfl (z := (1 : Int32)) (by decide) (Ls' := #[.val (.ref a1), .val (.ref bb40), .val (.long bt), .second, .val (.ref cc40), .val (.int (40 : Int32)), .val (.ref b230), .val (.ref bb40), .val (.int (3 : Int32)), .val (.int (1 : Int32)), .val (.int x0_40)]) rfl ?_
    refine g_goto 79 X239 hx (hb hby d3_114) (by decide) (by decide) ?_
    refine g_iload 81 X239 hx (hb hby d3_79) rfl (v := (1 : Int32)) rfl ?_
    refine g_iload 83 X239 hx (hb hby d3_81) rfl (v := (3 : Int32)) rfl ?_
    refine g_icmpNo 86 X239 hx (hb hby d3_83)  (tlt (by decide : (1 : Int32) < (3 : Int32))).2.1 rfl ?_
    refine g_aload 88 X239 hx (hb hby d3_86) rfl (v := (.ref bb40)) rfl rfl ?_
    refine g_iload 90 X239 hx (hb hby d3_88) rfl (v := (1 : Int32)) rfl ?_
    refine g_iaload 91 X239 hx hZ e239 f241 1 (by decide) rfl (z := x1_40) rfl (hb hby d3_90) rfl ?_
    refine g_istore 93 X239 hx (hb hby d3_91) rfl (Ls' := #[.val (.ref a1), .val (.ref bb40), .val (.long bt), .second, .val (.ref cc40), .val (.int (40 : Int32)), .val (.ref b230), .val (.ref bb40), .val (.int (3 : Int32)), .val (.int (1 : Int32)), .val (.int x1_40)]) rfl ?_
    refine g_aload 95 X239 hx (hb hby d3_93) rfl (v := (.ref b230)) rfl rfl ?_
    refine g_aloadN 96 X239 hx (hb hby d3_95) rfl (v := (.ref a1)) rfl rfl ?_
    refine g_iload 98 X239 hx (hb hby d3_96) rfl (v := x1_40) rfl ?_
    refine g_laload 99 X239 hx hZ e239 f240 (x1_40.toInt.toNat) (own_nat0 hB40.2.1.1) rfl (z := (([w0, w1, w2] : List Int64).getD x1_40.toInt.toNat 0)) (own_getJ (by have q := hB40.2.1; show _ < 3; omega)) (hb hby d3_98) rfl ?_
    refine g_iload 101 X239 hx (hb hby d3_99) rfl (v := (40 : Int32)) rfl ?_
    have hq101_hq_247 : 0 ≤ (([w0, w1, w2] : List Int64).getD x1_40.toInt.toNat 0).toInt := (own_wN w0 w1 w2 hW0 hW1 hW2 x1_40 hR40.2.1)
    have hq101_hp_248 : 0 ≤ (40 : Int32).toInt ∧ (40 : Int32).toInt ≤ 63 := by decide
    refine g_callS 104 X239 hx hZ (y := (⟨"com/example/prefixwood/prefixwood/huffman/TwoQueues", "digit", "(JI)I"⟩ : MethodName)) hown (hw _ (List.mem_of_getElem? (i := 17) rfl)) (hw _ (List.mem_of_getElem? (i := 18) rfl)) (hw _ (List.mem_of_getElem? (i := 4) rfl)) (hw _ (List.mem_of_getElem? (i := 19) rfl)) (by decide) e239 (rm4 l Z a0 hw [] (([w0, w1, w2] : List Int64).getD x1_40.toInt.toNat 0) (40 : Int32)  h239 n0 Zs243 hq101_hq_247 hq101_hp_248) (by rw [hml]; rfl) [(.long (([w0, w1, w2] : List Int64).getD x1_40.toInt.toNat 0)), (.int (40 : Int32))] [(.ref b230)] rfl rfl (lenOf pd_0 rfl) 1 (Nat.le_of_eq rfl) (hb hby d3_101) (by decide) (by decide) (by decide) (by decide) rfl ?_
    intro v247 T247 L247 X247 hQ247
    obtain ⟨r247, rfl, hr247, N247q, e247⟩ := hQ247
    have N247 := Fr.app N245 N247q
    show Go p e below s ({ frames := 1, cells := 10, slots := 2062, locals := 16 } : Room).cells ({ frames := 1, cells := 10, slots := 2062, locals := 16 } : Room).slots (Q3 Z a1 w0 w1 w2 h0 n0) T247 (mkF m 104 #[.val (.ref a1), .val (.ref bb40), .val (.long bt), .second, .val (.ref cc40), .val (.int (40 : Int32)), .val (.ref b230), .val (.ref bb40), .val (.int (3 : Int32)), .val (.int (1 : Int32)), .val (.int x1_40)] [(.int r247), (.ref b230)])
    have hD1_40 : own_dig (([w0, w1, w2] : List Int64).getD x1_40.toInt.toNat 0) 40 r247 := hr247
    have hE1_40 := own_dgB _ _ _ hD1_40
    refine g_iconst 105 X247 hx (hb hby d3_104) rfl (z := (1 : Int32)) rfl ?_
    refine g_iadd 106 X247 hx (hb hby d3_105) rfl (z := (r247 + (1 : Int32))) rfl ?_
    refine g_dup2 107 X247 hx (hb hby d3_106) rfl rfl rfl ?_
    refine g_iaload 108 X247 hx hZ e247 AU246 (r247.toInt.toNat + 1) (own_nat0 (by have q := hE1_40; rw [own_inc (by omega)]; omega)) (by have q := hE1_40; show (Int32.toInt _).toNat = _; rw [own_inc (by omega)]; omega) (z := ((own_up (List.replicate 257 (0 : Int32)) (r236.toInt.toNat + 1)).getD (r247.toInt.toNat + 1) 0)) (own_get (by have q := hE1_40; simp only [own_upl, List.length_replicate]; omega)) (hb hby d3_107) rfl ?_
    refine g_iconst 109 X247 hx (hb hby d3_108) rfl (z := (1 : Int32)) rfl ?_
    refine g_iadd 110 X247 hx (hb hby d3_109) rfl (z := (((own_up (List.replicate 257 (0 : Int32)) (r236.toInt.toNat + 1)).getD (r247.toInt.toNat + 1) 0) + (1 : Int32))) rfl ?_
    refine g_iastore 111 X247 hx hZ e247 AU246 (r247.toInt.toNat + 1) (own_nat0 (by have q := hE1_40; rw [own_inc (by omega)]; omega)) (by have q := hE1_40; show (Int32.toInt _).toNat = _; rw [own_inc (by omega)]; omega) (by have q := hE1_40; simp only [own_upl, List.length_replicate]; omega) (z := (((own_up (List.replicate 257 (0 : Int32)) (r236.toInt.toNat + 1)).getD (r247.toInt.toNat + 1) 0) + (1 : Int32))) rfl (hb hby d3_110) rfl ?_
    intro T250 h250 X250 e250 W250 A250
    have f251 := f240.other W250 (Nat.ne_of_lt (Nat.lt_of_lt_of_le fa_40.lt (Nat.le_of_eq g230.symm)))
    have f252 := f241.other W250 (Nat.ne_of_lt (Nat.lt_of_lt_of_le AX40.lt (Nat.le_of_eq g230.symm)))
    have f253 := f242.other W250 (Nat.ne_of_lt (Nat.lt_of_lt_of_le fc_40.lt (Nat.le_of_eq g230.symm)))
    have Zs254 : n0 ≤ h250.size := (Nat.le_trans Zs243 (Keep.of_wr W250).1)
    have K255 : Keep h0 h250 [] := K244.wr W250 (Or.inr sz_b230)
    have N256 := Fr.snoc X250 N247 g_b230
    have AU257 : AI Z h250 b230 .int (own_up (own_up (List.replicate 257 (0 : Int32)) (r236.toInt.toNat + 1)) (r247.toInt.toNat + 1)) := A250
    refine g_iinc 114 X250 hx (hb hby d3_111) rfl (x := (1 : Int32)) rfl (z := (2 : Int32)) (by decide) (Ls' := #[.val (.ref a1), .val (.ref bb40), .val (.long bt), .second, .val (.ref cc40), .val (.int (40 : Int32)), .val (.ref b230), .val (.ref bb40), .val (.int (3 : Int32)), .val (.int (2 : Int32)), .val (.int x1_40)]) rfl ?_
    refine g_goto 79 X250 hx (hb hby d3_114) (by decide) (by decide) ?_
    refine g_iload 81 X250 hx (hb hby d3_79) rfl (v := (2 : Int32)) rfl ?_
    refine g_iload 83 X250 hx (hb hby d3_81) rfl (v := (3 : Int32)) rfl ?_
    refine g_icmpNo 86 X250 hx (hb hby d3_83)  (tlt (by decide : (2 : Int32) < (3 : Int32))).2.1 rfl ?_
    refine g_aload 88 X250 hx (hb hby d3_86) rfl (v := (.ref bb40)) rfl rfl ?_
    refine g_iload 90 X250 hx (hb hby d3_88) rfl (v := (2 : Int32)) rfl ?_
    refine g_iaload 91 X250 hx hZ e250 f252 2 (by decide) rfl (z := x2_40) rfl (hb hby d3_90) rfl ?_
    refine g_istore 93 X250 hx (hb hby d3_91) rfl (Ls' := #[.val (.ref a1), .val (.ref bb40), .val (.long bt), .second, .val (.ref cc40), .val (.int (40 : Int32)), .val (.ref b230), .val (.ref bb40), .val (.int (3 : Int32)), .val (.int (2 : Int32)), .val (.int x2_40)]) rfl ?_
    refine g_aload 95 X250 hx (hb hby d3_93) rfl (v := (.ref b230)) rfl rfl ?_
    refine g_aloadN 96 X250 hx (hb hby d3_95) rfl (v := (.ref a1)) rfl rfl ?_
    refine g_iload 98 X250 hx (hb hby d3_96) rfl (v := x2_40) rfl ?_
    refine g_laload 99 X250 hx hZ e250 f251 (x2_40.toInt.toNat) (own_nat0 hB40.2.2.1) rfl (z := (([w0, w1, w2] : List Int64).getD x2_40.toInt.toNat 0)) (own_getJ (by have q := hB40.2.2; show _ < 3; omega)) (hb hby d3_98) rfl ?_
    refine g_iload 101 X250 hx (hb hby d3_99) rfl (v := (40 : Int32)) rfl ?_
    have hq101_hq_258 : 0 ≤ (([w0, w1, w2] : List Int64).getD x2_40.toInt.toNat 0).toInt := (own_wN w0 w1 w2 hW0 hW1 hW2 x2_40 hR40.2.2)
    have hq101_hp_259 : 0 ≤ (40 : Int32).toInt ∧ (40 : Int32).toInt ≤ 63 := by decide
    refine g_callS 104 X250 hx hZ (y := (⟨"com/example/prefixwood/prefixwood/huffman/TwoQueues", "digit", "(JI)I"⟩ : MethodName)) hown (hw _ (List.mem_of_getElem? (i := 17) rfl)) (hw _ (List.mem_of_getElem? (i := 18) rfl)) (hw _ (List.mem_of_getElem? (i := 4) rfl)) (hw _ (List.mem_of_getElem? (i := 19) rfl)) (by decide) e250 (rm4 l Z a0 hw [] (([w0, w1, w2] : List Int64).getD x2_40.toInt.toNat 0) (40 : Int32)  h250 n0 Zs254 hq101_hq_258 hq101_hp_259) (by rw [hml]; rfl) [(.long (([w0, w1, w2] : List Int64).getD x2_40.toInt.toNat 0)), (.int (40 : Int32))] [(.ref b230)] rfl rfl (lenOf pd_0 rfl) 1 (Nat.le_of_eq rfl) (hb hby d3_101) (by decide) (by decide) (by decide) (by decide) rfl ?_
    intro v258 T258 L258 X258 hQ258
    obtain ⟨r258, rfl, hr258, N258q, e258⟩ := hQ258
    have N258 := Fr.app N256 N258q
    show Go p e below s ({ frames := 1, cells := 10, slots := 2062, locals := 16 } : Room).cells ({ frames := 1, cells := 10, slots := 2062, locals := 16 } : Room).slots (Q3 Z a1 w0 w1 w2 h0 n0) T258 (mkF m 104 #[.val (.ref a1), .val (.ref bb40), .val (.long bt), .second, .val (.ref cc40), .val (.int (40 : Int32)), .val (.ref b230), .val (.ref bb40), .val (.int (3 : Int32)), .val (.int (2 : Int32)), .val (.int x2_40)] [(.int r258), (.ref b230)])
    have hD2_40 : own_dig (([w0, w1, w2] : List Int64).getD x2_40.toInt.toNat 0) 40 r258 := hr258
    have hE2_40 := own_dgB _ _ _ hD2_40
    refine g_iconst 105 X258 hx (hb hby d3_104) rfl (z := (1 : Int32)) rfl ?_
    refine g_iadd 106 X258 hx (hb hby d3_105) rfl (z := (r258 + (1 : Int32))) rfl ?_
    refine g_dup2 107 X258 hx (hb hby d3_106) rfl rfl rfl ?_
    refine g_iaload 108 X258 hx hZ e258 AU257 (r258.toInt.toNat + 1) (own_nat0 (by have q := hE2_40; rw [own_inc (by omega)]; omega)) (by have q := hE2_40; show (Int32.toInt _).toNat = _; rw [own_inc (by omega)]; omega) (z := ((own_up (own_up (List.replicate 257 (0 : Int32)) (r236.toInt.toNat + 1)) (r247.toInt.toNat + 1)).getD (r258.toInt.toNat + 1) 0)) (own_get (by have q := hE2_40; simp only [own_upl, List.length_replicate]; omega)) (hb hby d3_107) rfl ?_
    refine g_iconst 109 X258 hx (hb hby d3_108) rfl (z := (1 : Int32)) rfl ?_
    refine g_iadd 110 X258 hx (hb hby d3_109) rfl (z := (((own_up (own_up (List.replicate 257 (0 : Int32)) (r236.toInt.toNat + 1)) (r247.toInt.toNat + 1)).getD (r258.toInt.toNat + 1) 0) + (1 : Int32))) rfl ?_
    refine g_iastore 111 X258 hx hZ e258 AU257 (r258.toInt.toNat + 1) (own_nat0 (by have q := hE2_40; rw [own_inc (by omega)]; omega)) (by have q := hE2_40; show (Int32.toInt _).toNat = _; rw [own_inc (by omega)]; omega) (by have q := hE2_40; simp only [own_upl, List.length_replicate]; omega) (z := (((own_up (own_up (List.replicate 257 (0 : Int32)) (r236.toInt.toNat + 1)) (r247.toInt.toNat + 1)).getD (r258.toInt.toNat + 1) 0) + (1 : Int32))) rfl (hb hby d3_110) rfl ?_
    intro T261 h261 X261 e261 W261 A261
    have f262 := f251.other W261 (Nat.ne_of_lt (Nat.lt_of_lt_of_le fa_40.lt (Nat.le_of_eq g230.symm)))
    have f263 := f252.other W261 (Nat.ne_of_lt (Nat.lt_of_lt_of_le AX40.lt (Nat.le_of_eq g230.symm)))
    have f264 := f253.other W261 (Nat.ne_of_lt (Nat.lt_of_lt_of_le fc_40.lt (Nat.le_of_eq g230.symm)))
    have Zs265 : n0 ≤ h261.size := (Nat.le_trans Zs254 (Keep.of_wr W261).1)
    have K266 : Keep h0 h261 [] := K255.wr W261 (Or.inr sz_b230)
    have N267 := Fr.snoc X261 N258 g_b230
    have AU268 : AI Z h261 b230 .int (own_up (own_up (own_up (List.replicate 257 (0 : Int32)) (r236.toInt.toNat + 1)) (r247.toInt.toNat + 1)) (r258.toInt.toNat + 1)) := A261
    refine g_iinc 114 X261 hx (hb hby d3_111) rfl (x := (2 : Int32)) rfl (z := (3 : Int32)) (by decide) (Ls' := #[.val (.ref a1), .val (.ref bb40), .val (.long bt), .second, .val (.ref cc40), .val (.int (40 : Int32)), .val (.ref b230), .val (.ref bb40), .val (.int (3 : Int32)), .val (.int (3 : Int32)), .val (.int x2_40)]) rfl ?_
    refine g_goto 79 X261 hx (hb hby d3_114) (by decide) (by decide) ?_
    refine g_iload 81 X261 hx (hb hby d3_79) rfl (v := (3 : Int32)) rfl ?_
    refine g_iload 83 X261 hx (hb hby d3_81) rfl (v := (3 : Int32)) rfl ?_
    refine g_icmpYes 117 X261 hx (hb hby d3_83)  (flt (Int32.lt_irrefl)).2.1 (by decide) (by decide) ?_
    refine g_iconst 118 X261 hx (hb hby d3_117) rfl (z := (1 : Int32)) rfl ?_
    refine g_istore 120 X261 hx (hb hby d3_118) rfl (Ls' := #[.val (.ref a1), .val (.ref bb40), .val (.long bt), .second, .val (.ref cc40), .val (.int (40 : Int32)), .val (.ref b230), .val (.int (1 : Int32)), .val (.int (3 : Int32)), .val (.int (3 : Int32)), .val (.int x2_40)]) rfl ?_
    have LOOP120_40 : ∀ (fuel_40 : Nat) (lv40 : Int32) (gF40 : List Int32) (Tl_40 : State) (hl_40 : Heap) (lo_40 : List Loc), (257 - lv40.toInt).toNat < fuel_40 → (1 ≤ lv40.toInt ∧ lv40.toInt ≤ 257) → (gF40.length = 257) → (own_pfx (257 - lv40.toInt).toNat lv40.toInt.toNat gF40 = own_pfx 256 1 (own_C r236.toInt.toNat r247.toInt.toNat r258.toInt.toNat)) → (Stand p l e ({ frames := 1, cells := 10, slots := 2062, locals := 16 } : Room) s m #[(.ref a1)] below meth c Tl_40 lo_40 8 1548) → (Tl_40.heap = hl_40) → (Fr n0 lo_40) → (n0 ≤ hl_40.size) → (Keep h0 hl_40 []) → (AJ Z hl_40 a1 [w0, w1, w2]) → (AI Z hl_40 bb40 .int [x0_40, x1_40, x2_40]) → (AI Z hl_40 cc40 .int MM40) → (AI Z hl_40 b230 .int gF40) → Go p e below s ({ frames := 1, cells := 10, slots := 2062, locals := 16 } : Room).cells ({ frames := 1, cells := 10, slots := 2062, locals := 16 } : Room).slots (Q3 Z a1 w0 w1 w2 h0 n0) Tl_40 (mkF m 120 #[.val (.ref a1), .val (.ref bb40), .val (.long bt), .second, .val (.ref cc40), .val (.int (40 : Int32)), .val (.ref b230), .val (.int lv40), .val (.int (3 : Int32)), .val (.int (3 : Int32)), .val (.int x2_40)] []) := by
      intro fuel_40
      induction fuel_40 with
      | zero => intro lv40 gF40 Tl_40 hl_40 lo_40 hm; exact absurd hm (Nat.not_lt_zero _)
      | succ fuel_40 ih_40 =>
        intro lv40 gF40 Tl_40 hl_40 lo_40 hm_40 hv40 hgl40 hgF40 Xl_40 el_40 Nl_40 Zl_40 Kl_40 fl_40_0 fl_40_1 fl_40_2 fl_40_3
        refine g_iload 122 Xl_40 hx (hb hby d3_120) rfl (v := lv40) rfl ?_
        refine g_aload 124 Xl_40 hx (hb hby d3_122) rfl (v := (.ref b230)) rfl rfl ?_
        refine g_arraylengthI 125 Xl_40 hx hZ el_40 fl_40_3 (z := (257 : Int32)) (by rw [hgl40]; rfl) (hb hby d3_124) rfl ?_
        by_cases hc125_268 : lv40 < (257 : Int32)
        ·
          refine g_icmpNo 128 Xl_40 hx (hb hby d3_125)  (tlt hc125_268).2.1 rfl ?_
          refine g_aload 130 Xl_40 hx (hb hby d3_128) rfl (v := (.ref b230)) rfl rfl ?_
          refine g_iload 132 Xl_40 hx (hb hby d3_130) rfl (v := lv40) rfl ?_
          refine g_dup2 133 Xl_40 hx (hb hby d3_132) rfl rfl rfl ?_
          refine g_iaload 134 Xl_40 hx hZ el_40 fl_40_3 (lv40.toInt.toNat) (own_nat0 (by omega)) rfl (z := (gF40.getD lv40.toInt.toNat 0)) (own_get (by have q := Int32.lt_iff_toInt_lt.mp hc125_268; simp only [Int32.reduceToInt] at q; rw [hgl40]; omega)) (hb hby d3_133) rfl ?_
          refine g_aload 136 Xl_40 hx (hb hby d3_134) rfl (v := (.ref b230)) rfl rfl ?_
          refine g_iload 138 Xl_40 hx (hb hby d3_136) rfl (v := lv40) rfl ?_
          refine g_iconst 139 Xl_40 hx (hb hby d3_138) rfl (z := (1 : Int32)) rfl ?_
          refine g_isub 140 Xl_40 hx (hb hby d3_139) rfl (z := (lv40 - (1 : Int32))) rfl ?_
          refine g_iaload 141 Xl_40 hx hZ el_40 fl_40_3 (lv40.toInt.toNat - 1) (own_nat0 (by have q := Int32.lt_iff_toInt_lt.mp hc125_268; simp only [Int32.reduceToInt] at q; rw [own_dec1 (by omega)]; omega)) (by have q := Int32.lt_iff_toInt_lt.mp hc125_268; simp only [Int32.reduceToInt] at q; show (Int32.toInt _).toNat = _; rw [own_dec1 (by omega)]; omega) (z := (gF40.getD (lv40.toInt.toNat - 1) 0)) (own_get (by have q := Int32.lt_iff_toInt_lt.mp hc125_268; simp only [Int32.reduceToInt] at q; rw [hgl40]; omega)) (hb hby d3_140) rfl ?_
          refine g_iadd 142 Xl_40 hx (hb hby d3_141) rfl (z := ((gF40.getD lv40.toInt.toNat 0) + (gF40.getD (lv40.toInt.toNat - 1) 0))) rfl ?_
          refine g_iastore 143 Xl_40 hx hZ el_40 fl_40_3 (lv40.toInt.toNat) (own_nat0 (by omega)) rfl (by have q := Int32.lt_iff_toInt_lt.mp hc125_268; simp only [Int32.reduceToInt] at q; rw [hgl40]; omega) (z := ((gF40.getD lv40.toInt.toNat 0) + (gF40.getD (lv40.toInt.toNat - 1) 0))) rfl (hb hby d3_142) rfl ?_
          intro T270 h270 X270 e270 W270 A270
          have f271 := fl_40_0.other W270 (Nat.ne_of_lt (Nat.lt_of_lt_of_le fa_40.lt (Nat.le_of_eq g230.symm)))
          have f272 := fl_40_1.other W270 (Nat.ne_of_lt (Nat.lt_of_lt_of_le AX40.lt (Nat.le_of_eq g230.symm)))
          have f273 := fl_40_2.other W270 (Nat.ne_of_lt (Nat.lt_of_lt_of_le fc_40.lt (Nat.le_of_eq g230.symm)))
          have Zs274 : n0 ≤ h270.size := (Nat.le_trans Zl_40 (Keep.of_wr W270).1)
          have K275 : Keep h0 h270 [] := Kl_40.wr W270 (Or.inr sz_b230)
          have N276 := Fr.snoc X270 Nl_40 g_b230
          refine g_iinc 146 X270 hx (hb hby d3_143) rfl (x := lv40) rfl (z := (lv40 + (1 : Int32))) rfl (Ls' := #[.val (.ref a1), .val (.ref bb40), .val (.long bt), .second, .val (.ref cc40), .val (.int (40 : Int32)), .val (.ref b230), .val (.int (lv40 + (1 : Int32))), .val (.int (3 : Int32)), .val (.int (3 : Int32)), .val (.int x2_40)]) rfl ?_
          refine g_goto 120 X270 hx (hb hby d3_146) (by decide) (by decide) ?_
          exact ih_40 (lv40 + (1 : Int32)) (List.set gF40 (lv40.toInt.toNat) ((gF40.getD lv40.toInt.toNat 0) + (gF40.getD (lv40.toInt.toNat - 1) 0))) T270 h270 _ (by have q := Int32.lt_iff_toInt_lt.mp hc125_268; simp only [Int32.reduceToInt] at q; rw [own_inc (by omega)]; omega) (by have q := Int32.lt_iff_toInt_lt.mp hc125_268; simp only [Int32.reduceToInt] at q; rw [own_inc (by omega)]; omega) (by rw [List.length_set]; exact hgl40) (own_pfxstep lv40 gF40 _ (by have q := Int32.lt_iff_toInt_lt.mp hc125_268; simp only [Int32.reduceToInt] at q; omega) hgF40) X270 e270 N276 Zs274 K275 f271 f272 f273 A270
        ·
          refine g_icmpYes 149 Xl_40 hx (hb hby d3_125)  (flt hc125_268).2.1 (by decide) (by decide) ?_
          have hG40 : gF40 = own_pfx 256 1 (own_C r236.toInt.toNat r247.toInt.toNat r258.toInt.toNat) := by have q := mt Int32.lt_iff_toInt_lt.mpr hc125_268; simp only [Int32.reduceToInt] at q; rw [← hgF40, show (257 - lv40.toInt).toNat = 0 by omega]; rfl
          have hH40 := own_PS r236.toInt.toNat r247.toInt.toNat r258.toInt.toNat (by omega) (by omega) (by omega)
          rw [← hG40] at hH40
          have hQ40_ := own_qs gF40 r236.toInt.toNat r247.toInt.toNat r258.toInt.toNat (by omega) (by omega) (by omega) hH40
          have hq40_ := own_qB r236.toInt.toNat r247.toInt.toNat r258.toInt.toNat
          refine g_aloadN 150 Xl_40 hx (hb hby d3_149) rfl (v := (.ref bb40)) rfl rfl ?_
          refine g_astore 152 Xl_40 hx (hb hby d3_150) rfl (Ls' := #[.val (.ref a1), .val (.ref bb40), .val (.long bt), .second, .val (.ref cc40), .val (.int (40 : Int32)), .val (.ref b230), .val (.ref bb40), .val (.int (3 : Int32)), .val (.int (3 : Int32)), .val (.int x2_40)]) rfl rfl ?_
          refine g_aload 154 Xl_40 hx (hb hby d3_152) rfl (v := (.ref bb40)) rfl rfl ?_
          refine g_arraylengthI 155 Xl_40 hx hZ el_40 fl_40_1 (z := (3 : Int32)) rfl (hb hby d3_154) rfl ?_
          refine g_istore 157 Xl_40 hx (hb hby d3_155) rfl (Ls' := #[.val (.ref a1), .val (.ref bb40), .val (.long bt), .second, .val (.ref cc40), .val (.int (40 : Int32)), .val (.ref b230), .val (.ref bb40), .val (.int (3 : Int32)), .val (.int (3 : Int32)), .val (.int x2_40)]) rfl ?_
          refine g_iconst 158 Xl_40 hx (hb hby d3_157) rfl (z := (0 : Int32)) rfl ?_
          refine g_istore 160 Xl_40 hx (hb hby d3_158) rfl (Ls' := #[.val (.ref a1), .val (.ref bb40), .val (.long bt), .second, .val (.ref cc40), .val (.int (40 : Int32)), .val (.ref b230), .val (.ref bb40), .val (.int (3 : Int32)), .val (.int (0 : Int32)), .val (.int x2_40)]) rfl ?_
          refine g_iload 162 Xl_40 hx (hb hby d3_160) rfl (v := (0 : Int32)) rfl ?_
          refine g_iload 164 Xl_40 hx (hb hby d3_162) rfl (v := (3 : Int32)) rfl ?_
          refine g_icmpNo 167 Xl_40 hx (hb hby d3_164)  (tlt (by decide : (0 : Int32) < (3 : Int32))).2.1 rfl ?_
          refine g_aload 169 Xl_40 hx (hb hby d3_167) rfl (v := (.ref bb40)) rfl rfl ?_
          refine g_iload 171 Xl_40 hx (hb hby d3_169) rfl (v := (0 : Int32)) rfl ?_
          refine g_iaload 172 Xl_40 hx hZ el_40 fl_40_1 0 (by decide) rfl (z := x0_40) rfl (hb hby d3_171) rfl ?_
          refine g_istore 174 Xl_40 hx (hb hby d3_172) rfl (Ls' := #[.val (.ref a1), .val (.ref bb40), .val (.long bt), .second, .val (.ref cc40), .val (.int (40 : Int32)), .val (.ref b230), .val (.ref bb40), .val (.int (3 : Int32)), .val (.int (0 : Int32)), .val (.int x0_40)]) rfl ?_
          refine g_aload 176 Xl_40 hx (hb hby d3_174) rfl (v := (.ref cc40)) rfl rfl ?_
          refine g_aload 178 Xl_40 hx (hb hby d3_176) rfl (v := (.ref b230)) rfl rfl ?_
          refine g_aloadN 179 Xl_40 hx (hb hby d3_178) rfl (v := (.ref a1)) rfl rfl ?_
          refine g_iload 181 Xl_40 hx (hb hby d3_179) rfl (v := x0_40) rfl ?_
          refine g_laload 182 Xl_40 hx hZ el_40 fl_40_0 (x0_40.toInt.toNat) (own_nat0 hB40.1.1) rfl (z := (([w0, w1, w2] : List Int64).getD x0_40.toInt.toNat 0)) (own_getJ (by have q := hB40.1; show _ < 3; omega)) (hb hby d3_181) rfl ?_
          refine g_iload 184 Xl_40 hx (hb hby d3_182) rfl (v := (40 : Int32)) rfl ?_
          have hq184_hq_277 : 0 ≤ (([w0, w1, w2] : List Int64).getD x0_40.toInt.toNat 0).toInt := (own_wN w0 w1 w2 hW0 hW1 hW2 x0_40 hR40.1)
          have hq184_hp_278 : 0 ≤ (40 : Int32).toInt ∧ (40 : Int32).toInt ≤ 63 := by decide
          refine g_callS 187 Xl_40 hx hZ (y := (⟨"com/example/prefixwood/prefixwood/huffman/TwoQueues", "digit", "(JI)I"⟩ : MethodName)) hown (hw _ (List.mem_of_getElem? (i := 17) rfl)) (hw _ (List.mem_of_getElem? (i := 18) rfl)) (hw _ (List.mem_of_getElem? (i := 4) rfl)) (hw _ (List.mem_of_getElem? (i := 19) rfl)) (by decide) el_40 (rm4 l Z a0 hw [] (([w0, w1, w2] : List Int64).getD x0_40.toInt.toNat 0) (40 : Int32)  hl_40 n0 Zl_40 hq184_hq_277 hq184_hp_278) (by rw [hml]; rfl) [(.long (([w0, w1, w2] : List Int64).getD x0_40.toInt.toNat 0)), (.int (40 : Int32))] [(.ref b230), (.ref cc40)] rfl rfl (lenOf pd_0 rfl) 2 (Nat.le_of_eq rfl) (hb hby d3_184) (by decide) (by decide) (by decide) (by decide) rfl ?_
          intro v277 T277 L277 X277 hQ277
          obtain ⟨r277, rfl, hr277, N277q, e277⟩ := hQ277
          have N277 := Fr.app Nl_40 N277q
          show Go p e below s ({ frames := 1, cells := 10, slots := 2062, locals := 16 } : Room).cells ({ frames := 1, cells := 10, slots := 2062, locals := 16 } : Room).slots (Q3 Z a1 w0 w1 w2 h0 n0) T277 (mkF m 187 #[.val (.ref a1), .val (.ref bb40), .val (.long bt), .second, .val (.ref cc40), .val (.int (40 : Int32)), .val (.ref b230), .val (.ref bb40), .val (.int (3 : Int32)), .val (.int (0 : Int32)), .val (.int x0_40)] [(.int r277), (.ref b230), (.ref cc40)])
          have hs0_40 : r236 = r277 := own_z _ ((hD0_40 : _ = _).trans (hr277 : _ = _).symm)
          subst hs0_40
          refine g_dup2 188 X277 hx (hb hby d3_187) rfl rfl rfl ?_
          refine g_iaload 189 X277 hx hZ e277 fl_40_3 (r236.toInt.toNat) (own_nat0 (by omega)) rfl (z := (gF40.getD r236.toInt.toNat 0)) (own_get (by first | (simp only [own_upl]; rw [hgl40]; omega) | (rw [hgl40]; omega))) (hb hby d3_188) rfl ?_
          refine g_dup_x2 190 X277 hx (hb hby d3_189) rfl rfl rfl rfl ?_
          refine g_iconst 191 X277 hx (hb hby d3_190) rfl (z := (1 : Int32)) rfl ?_
          refine g_iadd 192 X277 hx (hb hby d3_191) rfl (z := ((gF40.getD r236.toInt.toNat 0) + (1 : Int32))) rfl ?_
          refine g_iastore 193 X277 hx hZ e277 fl_40_3 (r236.toInt.toNat) (own_nat0 (by omega)) rfl (by first | (simp only [own_upl]; rw [hgl40]; omega) | (rw [hgl40]; omega)) (z := ((gF40.getD r236.toInt.toNat 0) + (1 : Int32))) rfl (hb hby d3_192) rfl ?_
          intro T280 h280 X280 e280 W280 A280
          have f281 := fl_40_0.other W280 (Nat.ne_of_lt (Nat.lt_of_lt_of_le fa_40.lt (Nat.le_of_eq g230.symm)))
          have f282 := fl_40_1.other W280 (Nat.ne_of_lt (Nat.lt_of_lt_of_le AX40.lt (Nat.le_of_eq g230.symm)))
          have f283 := fl_40_2.other W280 (Nat.ne_of_lt (Nat.lt_of_lt_of_le fc_40.lt (Nat.le_of_eq g230.symm)))
          have Zs284 : n0 ≤ h280.size := (Nat.le_trans Zl_40 (Keep.of_wr W280).1)
          have K285 : Keep h0 h280 [] := Kl_40.wr W280 (Or.inr sz_b230)
          have N286 := Fr.snoc X280 N277 g_b230
          have AV287 : AI Z h280 b230 .int (own_up gF40 r236.toInt.toNat) := A280
          refine g_iload 195 X280 hx (hb hby d3_193) rfl (v := x0_40) rfl ?_
          refine g_iastore 196 X280 hx hZ e280 f283 (own_q0 r236.toInt.toNat r247.toInt.toNat r258.toInt.toNat) (own_nat0 (by rw [hQ40_.1]; exact Int.natCast_nonneg _)) (by show (Int32.toInt _).toNat = _; rw [hQ40_.1]; rfl) (by have q := hq40_.1; rw [hM40]; omega) (z := x0_40) rfl (hb hby d3_195) rfl ?_
          intro T288 h288 X288 e288 W288 A288
          have f289 := f281.other W288 nac_40
          have f290 := f282.other W288 nbc_40
          have f291 := AV287.other W288 (Ne.symm (Nat.ne_of_lt (Nat.lt_of_lt_of_le fc_40.lt (Nat.le_of_eq g230.symm))))
          have Zs292 : n0 ≤ h288.size := (Nat.le_trans Zs284 (Keep.of_wr W288).1)
          have K293 : Keep h0 h288 [] := K285.wr W288 (Or.inr sz_cc40)
          have N294 := Fr.snoc X288 N286 g_cc40
          refine g_iinc 199 X288 hx (hb hby d3_196) rfl (x := (0 : Int32)) rfl (z := (1 : Int32)) (by decide) (Ls' := #[.val (.ref a1), .val (.ref bb40), .val (.long bt), .second, .val (.ref cc40), .val (.int (40 : Int32)), .val (.ref b230), .val (.ref bb40), .val (.int (3 : Int32)), .val (.int (1 : Int32)), .val (.int x0_40)]) rfl ?_
          refine g_goto 160 X288 hx (hb hby d3_199) (by decide) (by decide) ?_
          refine g_iload 162 X288 hx (hb hby d3_160) rfl (v := (1 : Int32)) rfl ?_
          refine g_iload 164 X288 hx (hb hby d3_162) rfl (v := (3 : Int32)) rfl ?_
          refine g_icmpNo 167 X288 hx (hb hby d3_164)  (tlt (by decide : (1 : Int32) < (3 : Int32))).2.1 rfl ?_
          refine g_aload 169 X288 hx (hb hby d3_167) rfl (v := (.ref bb40)) rfl rfl ?_
          refine g_iload 171 X288 hx (hb hby d3_169) rfl (v := (1 : Int32)) rfl ?_
          refine g_iaload 172 X288 hx hZ e288 f290 1 (by decide) rfl (z := x1_40) rfl (hb hby d3_171) rfl ?_
          refine g_istore 174 X288 hx (hb hby d3_172) rfl (Ls' := #[.val (.ref a1), .val (.ref bb40), .val (.long bt), .second, .val (.ref cc40), .val (.int (40 : Int32)), .val (.ref b230), .val (.ref bb40), .val (.int (3 : Int32)), .val (.int (1 : Int32)), .val (.int x1_40)]) rfl ?_
          refine g_aload 176 X288 hx (hb hby d3_174) rfl (v := (.ref cc40)) rfl rfl ?_
          refine g_aload 178 X288 hx (hb hby d3_176) rfl (v := (.ref b230)) rfl rfl ?_
          refine g_aloadN 179 X288 hx (hb hby d3_178) rfl (v := (.ref a1)) rfl rfl ?_
          refine g_iload 181 X288 hx (hb hby d3_179) rfl (v := x1_40) rfl ?_
          refine g_laload 182 X288 hx hZ e288 f289 (x1_40.toInt.toNat) (own_nat0 hB40.2.1.1) rfl (z := (([w0, w1, w2] : List Int64).getD x1_40.toInt.toNat 0)) (own_getJ (by have q := hB40.2.1; show _ < 3; omega)) (hb hby d3_181) rfl ?_
          refine g_iload 184 X288 hx (hb hby d3_182) rfl (v := (40 : Int32)) rfl ?_
          have hq184_hq_295 : 0 ≤ (([w0, w1, w2] : List Int64).getD x1_40.toInt.toNat 0).toInt := (own_wN w0 w1 w2 hW0 hW1 hW2 x1_40 hR40.2.1)
          have hq184_hp_296 : 0 ≤ (40 : Int32).toInt ∧ (40 : Int32).toInt ≤ 63 := by decide
          refine g_callS 187 X288 hx hZ (y := (⟨"com/example/prefixwood/prefixwood/huffman/TwoQueues", "digit", "(JI)I"⟩ : MethodName)) hown (hw _ (List.mem_of_getElem? (i := 17) rfl)) (hw _ (List.mem_of_getElem? (i := 18) rfl)) (hw _ (List.mem_of_getElem? (i := 4) rfl)) (hw _ (List.mem_of_getElem? (i := 19) rfl)) (by decide) e288 (rm4 l Z a0 hw [] (([w0, w1, w2] : List Int64).getD x1_40.toInt.toNat 0) (40 : Int32)  h288 n0 Zs292 hq184_hq_295 hq184_hp_296) (by rw [hml]; rfl) [(.long (([w0, w1, w2] : List Int64).getD x1_40.toInt.toNat 0)), (.int (40 : Int32))] [(.ref b230), (.ref cc40)] rfl rfl (lenOf pd_0 rfl) 2 (Nat.le_of_eq rfl) (hb hby d3_184) (by decide) (by decide) (by decide) (by decide) rfl ?_
          intro v295 T295 L295 X295 hQ295
          obtain ⟨r295, rfl, hr295, N295q, e295⟩ := hQ295
          have N295 := Fr.app N294 N295q
          show Go p e below s ({ frames := 1, cells := 10, slots := 2062, locals := 16 } : Room).cells ({ frames := 1, cells := 10, slots := 2062, locals := 16 } : Room).slots (Q3 Z a1 w0 w1 w2 h0 n0) T295 (mkF m 187 #[.val (.ref a1), .val (.ref bb40), .val (.long bt), .second, .val (.ref cc40), .val (.int (40 : Int32)), .val (.ref b230), .val (.ref bb40), .val (.int (3 : Int32)), .val (.int (1 : Int32)), .val (.int x1_40)] [(.int r295), (.ref b230), (.ref cc40)])
          have hs1_40 : r247 = r295 := own_z _ ((hD1_40 : _ = _).trans (hr295 : _ = _).symm)
          subst hs1_40
          refine g_dup2 188 X295 hx (hb hby d3_187) rfl rfl rfl ?_
          refine g_iaload 189 X295 hx hZ e295 f291 (r247.toInt.toNat) (own_nat0 (by omega)) rfl (z := ((own_up gF40 r236.toInt.toNat).getD r247.toInt.toNat 0)) (own_get (by first | (simp only [own_upl]; rw [hgl40]; omega) | (rw [hgl40]; omega))) (hb hby d3_188) rfl ?_
          refine g_dup_x2 190 X295 hx (hb hby d3_189) rfl rfl rfl rfl ?_
          refine g_iconst 191 X295 hx (hb hby d3_190) rfl (z := (1 : Int32)) rfl ?_
          refine g_iadd 192 X295 hx (hb hby d3_191) rfl (z := (((own_up gF40 r236.toInt.toNat).getD r247.toInt.toNat 0) + (1 : Int32))) rfl ?_
          refine g_iastore 193 X295 hx hZ e295 f291 (r247.toInt.toNat) (own_nat0 (by omega)) rfl (by first | (simp only [own_upl]; rw [hgl40]; omega) | (rw [hgl40]; omega)) (z := (((own_up gF40 r236.toInt.toNat).getD r247.toInt.toNat 0) + (1 : Int32))) rfl (hb hby d3_192) rfl ?_
          intro T298 h298 X298 e298 W298 A298
          have f299 := f289.other W298 (Nat.ne_of_lt (Nat.lt_of_lt_of_le fa_40.lt (Nat.le_of_eq g230.symm)))
          have f300 := f290.other W298 (Nat.ne_of_lt (Nat.lt_of_lt_of_le AX40.lt (Nat.le_of_eq g230.symm)))
          have f301 := A288.other W298 (Nat.ne_of_lt (Nat.lt_of_lt_of_le fc_40.lt (Nat.le_of_eq g230.symm)))
          have Zs302 : n0 ≤ h298.size := (Nat.le_trans Zs292 (Keep.of_wr W298).1)
          have K303 : Keep h0 h298 [] := K293.wr W298 (Or.inr sz_b230)
          have N304 := Fr.snoc X298 N295 g_b230
          have AV305 : AI Z h298 b230 .int (own_up (own_up gF40 r236.toInt.toNat) r247.toInt.toNat) := A298
          refine g_iload 195 X298 hx (hb hby d3_193) rfl (v := x1_40) rfl ?_
          refine g_iastore 196 X298 hx hZ e298 f301 (own_q1 r236.toInt.toNat r247.toInt.toNat r258.toInt.toNat) (own_nat0 (by rw [hQ40_.2.1]; exact Int.natCast_nonneg _)) (by show (Int32.toInt _).toNat = _; rw [hQ40_.2.1]; rfl) (by have q := hq40_.2.1; rw [List.length_set, hM40]; omega) (z := x1_40) rfl (hb hby d3_195) rfl ?_
          intro T306 h306 X306 e306 W306 A306
          have f307 := f299.other W306 nac_40
          have f308 := f300.other W306 nbc_40
          have f309 := AV305.other W306 (Ne.symm (Nat.ne_of_lt (Nat.lt_of_lt_of_le fc_40.lt (Nat.le_of_eq g230.symm))))
          have Zs310 : n0 ≤ h306.size := (Nat.le_trans Zs302 (Keep.of_wr W306).1)
          have K311 : Keep h0 h306 [] := K303.wr W306 (Or.inr sz_cc40)
          have N312 := Fr.snoc X306 N304 g_cc40
          refine g_iinc 199 X306 hx (hb hby d3_196) rfl (x := (1 : Int32)) rfl (z := (2 : Int32)) (by decide) (Ls' := #[.val (.ref a1), .val (.ref bb40), .val (.long bt), .second, .val (.ref cc40), .val (.int (40 : Int32)), .val (.ref b230), .val (.ref bb40), .val (.int (3 : Int32)), .val (.int (2 : Int32)), .val (.int x1_40)]) rfl ?_
          refine g_goto 160 X306 hx (hb hby d3_199) (by decide) (by decide) ?_
          refine g_iload 162 X306 hx (hb hby d3_160) rfl (v := (2 : Int32)) rfl ?_
          refine g_iload 164 X306 hx (hb hby d3_162) rfl (v := (3 : Int32)) rfl ?_
          refine g_icmpNo 167 X306 hx (hb hby d3_164)  (tlt (by decide : (2 : Int32) < (3 : Int32))).2.1 rfl ?_
          refine g_aload 169 X306 hx (hb hby d3_167) rfl (v := (.ref bb40)) rfl rfl ?_
          refine g_iload 171 X306 hx (hb hby d3_169) rfl (v := (2 : Int32)) rfl ?_
          refine g_iaload 172 X306 hx hZ e306 f308 2 (by decide) rfl (z := x2_40) rfl (hb hby d3_171) rfl ?_
          refine g_istore 174 X306 hx (hb hby d3_172) rfl (Ls' := #[.val (.ref a1), .val (.ref bb40), .val (.long bt), .second, .val (.ref cc40), .val (.int (40 : Int32)), .val (.ref b230), .val (.ref bb40), .val (.int (3 : Int32)), .val (.int (2 : Int32)), .val (.int x2_40)]) rfl ?_
          refine g_aload 176 X306 hx (hb hby d3_174) rfl (v := (.ref cc40)) rfl rfl ?_
          refine g_aload 178 X306 hx (hb hby d3_176) rfl (v := (.ref b230)) rfl rfl ?_
          refine g_aloadN 179 X306 hx (hb hby d3_178) rfl (v := (.ref a1)) rfl rfl ?_
          refine g_iload 181 X306 hx (hb hby d3_179) rfl (v := x2_40) rfl ?_
          refine g_laload 182 X306 hx hZ e306 f307 (x2_40.toInt.toNat) (own_nat0 hB40.2.2.1) rfl (z := (([w0, w1, w2] : List Int64).getD x2_40.toInt.toNat 0)) (own_getJ (by have q := hB40.2.2; show _ < 3; omega)) (hb hby d3_181) rfl ?_
          refine g_iload 184 X306 hx (hb hby d3_182) rfl (v := (40 : Int32)) rfl ?_
          have hq184_hq_313 : 0 ≤ (([w0, w1, w2] : List Int64).getD x2_40.toInt.toNat 0).toInt := (own_wN w0 w1 w2 hW0 hW1 hW2 x2_40 hR40.2.2)
          have hq184_hp_314 : 0 ≤ (40 : Int32).toInt ∧ (40 : Int32).toInt ≤ 63 := by decide
          refine g_callS 187 X306 hx hZ (y := (⟨"com/example/prefixwood/prefixwood/huffman/TwoQueues", "digit", "(JI)I"⟩ : MethodName)) hown (hw _ (List.mem_of_getElem? (i := 17) rfl)) (hw _ (List.mem_of_getElem? (i := 18) rfl)) (hw _ (List.mem_of_getElem? (i := 4) rfl)) (hw _ (List.mem_of_getElem? (i := 19) rfl)) (by decide) e306 (rm4 l Z a0 hw [] (([w0, w1, w2] : List Int64).getD x2_40.toInt.toNat 0) (40 : Int32)  h306 n0 Zs310 hq184_hq_313 hq184_hp_314) (by rw [hml]; rfl) [(.long (([w0, w1, w2] : List Int64).getD x2_40.toInt.toNat 0)), (.int (40 : Int32))] [(.ref b230), (.ref cc40)] rfl rfl (lenOf pd_0 rfl) 2 (Nat.le_of_eq rfl) (hb hby d3_184) (by decide) (by decide) (by decide) (by decide) rfl ?_
          intro v313 T313 L313 X313 hQ313
          obtain ⟨r313, rfl, hr313, N313q, e313⟩ := hQ313
          have N313 := Fr.app N312 N313q
          show Go p e below s ({ frames := 1, cells := 10, slots := 2062, locals := 16 } : Room).cells ({ frames := 1, cells := 10, slots := 2062, locals := 16 } : Room).slots (Q3 Z a1 w0 w1 w2 h0 n0) T313 (mkF m 187 #[.val (.ref a1), .val (.ref bb40), .val (.long bt), .second, .val (.ref cc40), .val (.int (40 : Int32)), .val (.ref b230), .val (.ref bb40), .val (.int (3 : Int32)), .val (.int (2 : Int32)), .val (.int x2_40)] [(.int r313), (.ref b230), (.ref cc40)])
          have hs2_40 : r258 = r313 := own_z _ ((hD2_40 : _ = _).trans (hr313 : _ = _).symm)
          subst hs2_40
          refine g_dup2 188 X313 hx (hb hby d3_187) rfl rfl rfl ?_
          refine g_iaload 189 X313 hx hZ e313 f309 (r258.toInt.toNat) (own_nat0 (by omega)) rfl (z := ((own_up (own_up gF40 r236.toInt.toNat) r247.toInt.toNat).getD r258.toInt.toNat 0)) (own_get (by first | (simp only [own_upl]; rw [hgl40]; omega) | (rw [hgl40]; omega))) (hb hby d3_188) rfl ?_
          refine g_dup_x2 190 X313 hx (hb hby d3_189) rfl rfl rfl rfl ?_
          refine g_iconst 191 X313 hx (hb hby d3_190) rfl (z := (1 : Int32)) rfl ?_
          refine g_iadd 192 X313 hx (hb hby d3_191) rfl (z := (((own_up (own_up gF40 r236.toInt.toNat) r247.toInt.toNat).getD r258.toInt.toNat 0) + (1 : Int32))) rfl ?_
          refine g_iastore 193 X313 hx hZ e313 f309 (r258.toInt.toNat) (own_nat0 (by omega)) rfl (by first | (simp only [own_upl]; rw [hgl40]; omega) | (rw [hgl40]; omega)) (z := (((own_up (own_up gF40 r236.toInt.toNat) r247.toInt.toNat).getD r258.toInt.toNat 0) + (1 : Int32))) rfl (hb hby d3_192) rfl ?_
          intro T316 h316 X316 e316 W316 A316
          have f317 := f307.other W316 (Nat.ne_of_lt (Nat.lt_of_lt_of_le fa_40.lt (Nat.le_of_eq g230.symm)))
          have f318 := f308.other W316 (Nat.ne_of_lt (Nat.lt_of_lt_of_le AX40.lt (Nat.le_of_eq g230.symm)))
          have f319 := A306.other W316 (Nat.ne_of_lt (Nat.lt_of_lt_of_le fc_40.lt (Nat.le_of_eq g230.symm)))
          have Zs320 : n0 ≤ h316.size := (Nat.le_trans Zs310 (Keep.of_wr W316).1)
          have K321 : Keep h0 h316 [] := K311.wr W316 (Or.inr sz_b230)
          have N322 := Fr.snoc X316 N313 g_b230
          have AV323 : AI Z h316 b230 .int (own_up (own_up (own_up gF40 r236.toInt.toNat) r247.toInt.toNat) r258.toInt.toNat) := A316
          refine g_iload 195 X316 hx (hb hby d3_193) rfl (v := x2_40) rfl ?_
          refine g_iastore 196 X316 hx hZ e316 f319 (own_q2 r236.toInt.toNat r247.toInt.toNat r258.toInt.toNat) (own_nat0 (by rw [hQ40_.2.2]; exact Int.natCast_nonneg _)) (by show (Int32.toInt _).toNat = _; rw [hQ40_.2.2]; rfl) (by have q := hq40_.2.2; rw [List.length_set, List.length_set, hM40]; omega) (z := x2_40) rfl (hb hby d3_195) rfl ?_
          intro T324 h324 X324 e324 W324 A324
          have f325 := f317.other W324 nac_40
          have f326 := f318.other W324 nbc_40
          have f327 := AV323.other W324 (Ne.symm (Nat.ne_of_lt (Nat.lt_of_lt_of_le fc_40.lt (Nat.le_of_eq g230.symm))))
          have Zs328 : n0 ≤ h324.size := (Nat.le_trans Zs320 (Keep.of_wr W324).1)
          have K329 : Keep h0 h324 [] := K321.wr W324 (Or.inr sz_cc40)
          have N330 := Fr.snoc X324 N322 g_cc40
          refine g_iinc 199 X324 hx (hb hby d3_196) rfl (x := (2 : Int32)) rfl (z := (3 : Int32)) (by decide) (Ls' := #[.val (.ref a1), .val (.ref bb40), .val (.long bt), .second, .val (.ref cc40), .val (.int (40 : Int32)), .val (.ref b230), .val (.ref bb40), .val (.int (3 : Int32)), .val (.int (3 : Int32)), .val (.int x2_40)]) rfl ?_
          refine g_goto 160 X324 hx (hb hby d3_199) (by decide) (by decide) ?_
          refine g_iload 162 X324 hx (hb hby d3_160) rfl (v := (3 : Int32)) rfl ?_
          refine g_iload 164 X324 hx (hb hby d3_162) rfl (v := (3 : Int32)) rfl ?_
          refine g_icmpYes 202 X324 hx (hb hby d3_164)  (flt (Int32.lt_irrefl)).2.1 (by decide) (by decide) ?_
          refine g_aloadN 203 X324 hx (hb hby d3_202) rfl (v := (.ref bb40)) rfl rfl ?_
          refine g_astore 205 X324 hx (hb hby d3_203) rfl (Ls' := #[.val (.ref a1), .val (.ref bb40), .val (.long bt), .second, .val (.ref cc40), .val (.int (40 : Int32)), .val (.ref b230), .val (.ref bb40), .val (.int (3 : Int32)), .val (.int (3 : Int32)), .val (.int x2_40)]) rfl rfl ?_
          refine g_aload 207 X324 hx (hb hby d3_205) rfl (v := (.ref cc40)) rfl rfl ?_
          refine g_astoreN 208 X324 hx (hb hby d3_207) rfl (Ls' := #[.val (.ref a1), .val (.ref cc40), .val (.long bt), .second, .val (.ref cc40), .val (.int (40 : Int32)), .val (.ref b230), .val (.ref bb40), .val (.int (3 : Int32)), .val (.int (3 : Int32)), .val (.int x2_40)]) rfl rfl ?_
          refine g_aload 210 X324 hx (hb hby d3_208) rfl (v := (.ref bb40)) rfl rfl ?_
          refine g_astore 212 X324 hx (hb hby d3_210) rfl (Ls' := #[.val (.ref a1), .val (.ref cc40), .val (.long bt), .second, .val (.ref bb40), .val (.int (40 : Int32)), .val (.ref b230), .val (.ref bb40), .val (.int (3 : Int32)), .val (.int (3 : Int32)), .val (.int x2_40)]) rfl rfl ?_
          refine g_iinc 215 X324 hx (hb hby d3_212) rfl (x := (40 : Int32)) rfl (z := (48 : Int32)) (by decide) (Ls' := #[.val (.ref a1), .val (.ref cc40), .val (.long bt), .second, .val (.ref bb40), .val (.int (48 : Int32)), .val (.ref b230), .val (.ref bb40), .val (.int (3 : Int32)), .val (.int (3 : Int32)), .val (.int x2_40)]) rfl ?_
          refine g_goto 45 X324 hx (hb hby d3_215) (by decide) (by decide) ?_
          have AK48 : AI Z h324 cc40 .int (own_K w0 w1 w2 48) := by rw [← own_passL w0 w1 w2 40 x0_40 x1_40 x2_40 r236 r247 r258 MM40 hM40 hX40 hD0_40 hD1_40 hD2_40]; exact A324
          exact pass_48 l Z a0 hw a1 w0 w1 w2 h0 n0 hW0 hW1 hW2 hret hZ hx hby hml hown hlk bt hbt cc40 bb40 b230 bb40 x2_40 [x0_40, x1_40, x2_40] T324 h324 _ rfl (Ne.symm nbc_40) nac_40 nab_40 g_cc40 g_bb40 sz_cc40 sz_bb40 X324 e324 N330 Zs328 K329 f325 AK48 f326
    exact LOOP120_40 _ (1 : Int32) (own_C r236.toInt.toNat r247.toInt.toNat r258.toInt.toNat) T261 h261 _ (Nat.lt_succ_self _) (by decide) ((own_CS r236.toInt.toNat r247.toInt.toNat r258.toInt.toNat (by omega) (by omega) (by omega)).1) rfl X261 e261 N267 Zs265 K266 f262 f263 f264 AU268
set_option maxRecDepth 65536 in
set_option maxHeartbeats 40000000 in
theorem pass_32 (l : Launch) (Z : State) (a0 : Array Value) (hw : ∀ d ∈ tables_1, d.before a0 Z = true) (a1 : Addr) (w0 w1 w2 : Int64) (h0 : Heap) (n0 : Nat) (hW0 : 0 ≤ w0.toInt) (hW1 : 0 ≤ w1.toInt) (hW2 : 0 ≤ w2.toInt) {p : Program} {e : Env} {s : State} {m : MethodId} {below : List Frame} {meth : Method} {c : Code} (hret : meth.sig.returnType = some FieldType.int.array) (hZ : Z.Warmed39 s.vm) (hx : p.tables.exec = Jvm.exec) (hby : c.code = prog_51_method_4_code) (hml : c.maxLocals = 11) (hown : s.vm.findClass "com/example/prefixwood/prefixwood/huffman/TwoQueues" = some m.cls) (hlk : meth.locks = false) (bt : Int64) (hbt : bt.toBitVec = (w0.toBitVec ||| w1.toBitVec) ||| w2.toBitVec) :
    ∀ (bb32 cc32 ea32 eb32 : Addr) (yy32 : Int32) (MM32 : List Int32) (Tp_32 : State) (hp_32 : Heap) (lp_32 : List Loc), (MM32.length = 3) → (bb32 ≠ cc32) → (a1 ≠ bb32) → (a1 ≠ cc32) → (n0 ≤ bb32) → (n0 ≤ cc32) → (h0.size ≤ bb32) → (h0.size ≤ cc32) → (Stand p l e ({ frames := 1, cells := 10, slots := 2062, locals := 16 } : Room) s m #[(.ref a1)] below meth c Tp_32 lp_32 6 1034) → (Tp_32.heap = hp_32) → (Fr n0 lp_32) → (n0 ≤ hp_32.size) → (Keep h0 hp_32 []) → (AJ Z hp_32 a1 [w0, w1, w2]) → (AI Z hp_32 bb32 .int (own_K w0 w1 w2 32)) → (AI Z hp_32 cc32 .int MM32) → Go p e below s ({ frames := 1, cells := 10, slots := 2062, locals := 16 } : Room).cells ({ frames := 1, cells := 10, slots := 2062, locals := 16 } : Room).slots (Q3 Z a1 w0 w1 w2 h0 n0) Tp_32 (mkF m 45 #[.val (.ref a1), .val (.ref bb32), .val (.long bt), .second, .val (.ref cc32), .val (.int (32 : Int32)), .val (.ref ea32), .val (.ref eb32), .val (.int (3 : Int32)), .val (.int (3 : Int32)), .val (.int yy32)] []) := by
  intro bb32 cc32 ea32 eb32 yy32 MM32 Tp_32 hp_32 lp_32 hM32 nbc_32 nab_32 nac_32 g_bb32 g_cc32 sz_bb32 sz_cc32 Xp_32 ep_32 Np_32 Zp_32 Kp_32 fa_32 fb_32 fc_32
  obtain ⟨x0_32, x1_32, x2_32, hk32, hX32⟩ := own_KX w0 w1 w2 32
  have AX32 : AI Z hp_32 bb32 .int [x0_32, x1_32, x2_32] := by rw [← hk32]; exact fb_32
  have hR32 := own_sixR _ _ _ _ _ _ hX32
  have hB32 := own_sixB _ _ _ _ _ _ hX32
  refine g_iload 47 Xp_32 hx (hb hby d3_45) rfl (v := (32 : Int32)) rfl ?_
  refine g_bipush 49 Xp_32 hx (hb hby d3_47) rfl (z := (64 : Int32)) rfl ?_
  refine g_icmpNo 52 Xp_32 hx (hb hby d3_49)  (tlt (by decide : (32 : Int32) < (64 : Int32))).2.1 rfl ?_
  refine g_lloadN 53 Xp_32 hx (hb hby d3_52) rfl (v := bt) rfl ?_
  refine g_iload 55 Xp_32 hx (hb hby d3_53) rfl (v := (32 : Int32)) rfl ?_
  refine g_lushr 56 Xp_32 hx (hb hby d3_55) rfl (z := ((bt.toUInt64 >>> ((32 : Int32) &&& 0x3f).toInt64.toUInt64).toInt64)) rfl ?_
  refine g_lconst 57 Xp_32 hx (hb hby d3_56) rfl (z := (0 : Int64)) rfl ?_
  by_cases hc57_330 : ((bt.toUInt64 >>> ((32 : Int32) &&& 0x3f).toInt64.toUInt64).toInt64) = (0 : Int64)
  ·
    refine g_lcmpYes 218 Xp_32 hx (hb hby d3_57) rfl (hb hby d3_58) (teqL hc57_330).1 (by decide) (by decide) ?_
    refine g_aloadN 219 Xp_32 hx (hb hby d3_218) rfl (v := (.ref bb32)) rfl rfl ?_
    have hend : own_K w0 w1 w2 32 = own_Srt w0 w1 w2 := (fun q => own_KS w0 w1 w2 32 q.1 q.2.1 q.2.2) (own_bitsL w0 w1 w2 (32 : Int32) 32 (by decide) hW0 hW1 hW2 bt hbt hc57_330)
    rw [hend] at fb_32
    exact g_retA Xp_32 hx hret hlk rfl rfl rfl (hb hby d3_219) (by decide) (by decide) (by
        show Q3 Z a1 w0 w1 w2 h0 n0 _ Tp_32.heap _
        rw [ep_32]
        exact ⟨bb32, rfl, Np_32, Kp_32, g_bb32, sz_bb32, fb_32⟩)
  ·
    refine g_lcmpNo 61 Xp_32 hx (hb hby d3_57) rfl (hb hby d3_58) (feqL hc57_330).1 rfl ?_
    refine g_sipush 64 Xp_32 hx (hb hby d3_61) rfl (z := (257 : Int32)) rfl ?_
    refine g_new_int 66 Xp_32 hx hZ (hw _ (List.mem_of_getElem? (i := 16) rfl)) ep_32 257 257 (by decide) rfl (by decide) (by decide) (by decide) (by decide) (hb hby d3_64) rfl ?_
    intro T332 h332 b332 X332 e332 E332 g332 A332
    have f333 := fa_32.ext E332
    have f334 := AX32.ext E332
    have f335 := fc_32.ext E332
    have Zs336 : n0 ≤ h332.size := (Nat.le_trans Zp_32 E332.1)
    have K337 : Keep h0 h332 [] := Kp_32.ext E332
    have g_b332 : n0 ≤ b332 := Nat.le_trans Zp_32 (Nat.le_of_eq g332.symm)
    have sz_b332 : h0.size ≤ b332 := Nat.le_trans Kp_32.1 (Nat.le_of_eq g332.symm)
    refine g_astore 68 X332 hx (hb hby d3_66) rfl (Ls' := #[.val (.ref a1), .val (.ref bb32), .val (.long bt), .second, .val (.ref cc32), .val (.int (32 : Int32)), .val (.ref b332), .val (.ref eb32), .val (.int (3 : Int32)), .val (.int (3 : Int32)), .val (.int yy32)]) rfl rfl ?_
    refine g_aloadN 69 X332 hx (hb hby d3_68) rfl (v := (.ref bb32)) rfl rfl ?_
    refine g_astore 71 X332 hx (hb hby d3_69) rfl (Ls' := #[.val (.ref a1), .val (.ref bb32), .val (.long bt), .second, .val (.ref cc32), .val (.int (32 : Int32)), .val (.ref b332), .val (.ref bb32), .val (.int (3 : Int32)), .val (.int (3 : Int32)), .val (.int yy32)]) rfl rfl ?_
    refine g_aload 73 X332 hx (hb hby d3_71) rfl (v := (.ref bb32)) rfl rfl ?_
    refine g_arraylengthI 74 X332 hx hZ e332 f334 (z := (3 : Int32)) rfl (hb hby d3_73) rfl ?_
    refine g_istore 76 X332 hx (hb hby d3_74) rfl (Ls' := #[.val (.ref a1), .val (.ref bb32), .val (.long bt), .second, .val (.ref cc32), .val (.int (32 : Int32)), .val (.ref b332), .val (.ref bb32), .val (.int (3 : Int32)), .val (.int (3 : Int32)), .val (.int yy32)]) rfl ?_
    refine g_iconst 77 X332 hx (hb hby d3_76) rfl (z := (0 : Int32)) rfl ?_
    refine g_istore 79 X332 hx (hb hby d3_77) rfl (Ls' := #[.val (.ref a1), .val (.ref bb32), .val (.long bt), .second, .val (.ref cc32), .val (.int (32 : Int32)), .val (.ref b332), .val (.ref bb32), .val (.int (3 : Int32)), .val (.int (0 : Int32)), .val (.int yy32)]) rfl ?_
    refine g_iload 81 X332 hx (hb hby d3_79) rfl (v := (0 : Int32)) rfl ?_
    refine g_iload 83 X332 hx (hb hby d3_81) rfl (v := (3 : Int32)) rfl ?_
    refine g_icmpNo 86 X332 hx (hb hby d3_83)  (tlt (by decide : (0 : Int32) < (3 : Int32))).2.1 rfl ?_
    refine g_aload 88 X332 hx (hb hby d3_86) rfl (v := (.ref bb32)) rfl rfl ?_
    refine g_iload 90 X332 hx (hb hby d3_88) rfl (v := (0 : Int32)) rfl ?_
    refine g_iaload 91 X332 hx hZ e332 f334 0 (by decide) rfl (z := x0_32) rfl (hb hby d3_90) rfl ?_
    refine g_istore 93 X332 hx (hb hby d3_91) rfl (Ls' := #[.val (.ref a1), .val (.ref bb32), .val (.long bt), .second, .val (.ref cc32), .val (.int (32 : Int32)), .val (.ref b332), .val (.ref bb32), .val (.int (3 : Int32)), .val (.int (0 : Int32)), .val (.int x0_32)]) rfl ?_
    refine g_aload 95 X332 hx (hb hby d3_93) rfl (v := (.ref b332)) rfl rfl ?_
    refine g_aloadN 96 X332 hx (hb hby d3_95) rfl (v := (.ref a1)) rfl rfl ?_
    refine g_iload 98 X332 hx (hb hby d3_96) rfl (v := x0_32) rfl ?_
    refine g_laload 99 X332 hx hZ e332 f333 (x0_32.toInt.toNat) (own_nat0 hB32.1.1) rfl (z := (([w0, w1, w2] : List Int64).getD x0_32.toInt.toNat 0)) (own_getJ (by have q := hB32.1; show _ < 3; omega)) (hb hby d3_98) rfl ?_
    refine g_iload 101 X332 hx (hb hby d3_99) rfl (v := (32 : Int32)) rfl ?_
    have hq101_hq_338 : 0 ≤ (([w0, w1, w2] : List Int64).getD x0_32.toInt.toNat 0).toInt := (own_wN w0 w1 w2 hW0 hW1 hW2 x0_32 hR32.1)
    have hq101_hp_339 : 0 ≤ (32 : Int32).toInt ∧ (32 : Int32).toInt ≤ 63 := by decide
    refine g_callS 104 X332 hx hZ (y := (⟨"com/example/prefixwood/prefixwood/huffman/TwoQueues", "digit", "(JI)I"⟩ : MethodName)) hown (hw _ (List.mem_of_getElem? (i := 17) rfl)) (hw _ (List.mem_of_getElem? (i := 18) rfl)) (hw _ (List.mem_of_getElem? (i := 4) rfl)) (hw _ (List.mem_of_getElem? (i := 19) rfl)) (by decide) e332 (rm4 l Z a0 hw [] (([w0, w1, w2] : List Int64).getD x0_32.toInt.toNat 0) (32 : Int32)  h332 n0 Zs336 hq101_hq_338 hq101_hp_339) (by rw [hml]; rfl) [(.long (([w0, w1, w2] : List Int64).getD x0_32.toInt.toNat 0)), (.int (32 : Int32))] [(.ref b332)] rfl rfl (lenOf pd_0 rfl) 1 (Nat.le_of_eq rfl) (hb hby d3_101) (by decide) (by decide) (by decide) (by decide) rfl ?_
    intro v338 T338 L338 X338 hQ338
    obtain ⟨r338, rfl, hr338, N338q, e338⟩ := hQ338
    have N338 := Fr.app Np_32 N338q
    show Go p e below s ({ frames := 1, cells := 10, slots := 2062, locals := 16 } : Room).cells ({ frames := 1, cells := 10, slots := 2062, locals := 16 } : Room).slots (Q3 Z a1 w0 w1 w2 h0 n0) T338 (mkF m 104 #[.val (.ref a1), .val (.ref bb32), .val (.long bt), .second, .val (.ref cc32), .val (.int (32 : Int32)), .val (.ref b332), .val (.ref bb32), .val (.int (3 : Int32)), .val (.int (0 : Int32)), .val (.int x0_32)] [(.int r338), (.ref b332)])
    have hD0_32 : own_dig (([w0, w1, w2] : List Int64).getD x0_32.toInt.toNat 0) 32 r338 := hr338
    have hE0_32 := own_dgB _ _ _ hD0_32
    refine g_iconst 105 X338 hx (hb hby d3_104) rfl (z := (1 : Int32)) rfl ?_
    refine g_iadd 106 X338 hx (hb hby d3_105) rfl (z := (r338 + (1 : Int32))) rfl ?_
    refine g_dup2 107 X338 hx (hb hby d3_106) rfl rfl rfl ?_
    refine g_iaload 108 X338 hx hZ e338 A332 (r338.toInt.toNat + 1) (own_nat0 (by have q := hE0_32; rw [own_inc (by omega)]; omega)) (by have q := hE0_32; show (Int32.toInt _).toNat = _; rw [own_inc (by omega)]; omega) (z := ((List.replicate 257 (0 : Int32)).getD (r338.toInt.toNat + 1) 0)) (own_get (by have q := hE0_32; simp only [own_upl, List.length_replicate]; omega)) (hb hby d3_107) rfl ?_
    refine g_iconst 109 X338 hx (hb hby d3_108) rfl (z := (1 : Int32)) rfl ?_
    refine g_iadd 110 X338 hx (hb hby d3_109) rfl (z := (((List.replicate 257 (0 : Int32)).getD (r338.toInt.toNat + 1) 0) + (1 : Int32))) rfl ?_
    refine g_iastore 111 X338 hx hZ e338 A332 (r338.toInt.toNat + 1) (own_nat0 (by have q := hE0_32; rw [own_inc (by omega)]; omega)) (by have q := hE0_32; show (Int32.toInt _).toNat = _; rw [own_inc (by omega)]; omega) (by have q := hE0_32; simp only [own_upl, List.length_replicate]; omega) (z := (((List.replicate 257 (0 : Int32)).getD (r338.toInt.toNat + 1) 0) + (1 : Int32))) rfl (hb hby d3_110) rfl ?_
    intro T341 h341 X341 e341 W341 A341
    have f342 := f333.other W341 (Nat.ne_of_lt (Nat.lt_of_lt_of_le fa_32.lt (Nat.le_of_eq g332.symm)))
    have f343 := f334.other W341 (Nat.ne_of_lt (Nat.lt_of_lt_of_le AX32.lt (Nat.le_of_eq g332.symm)))
    have f344 := f335.other W341 (Nat.ne_of_lt (Nat.lt_of_lt_of_le fc_32.lt (Nat.le_of_eq g332.symm)))
    have Zs345 : n0 ≤ h341.size := (Nat.le_trans Zs336 (Keep.of_wr W341).1)
    have K346 : Keep h0 h341 [] := K337.wr W341 (Or.inr sz_b332)
    have N347 := Fr.snoc X341 N338 g_b332
    have AU348 : AI Z h341 b332 .int (own_up (List.replicate 257 (0 : Int32)) (r338.toInt.toNat + 1)) := A341
    refine g_iinc 114 X341 hx (hb hby d3_111) rfl (x := (0 : Int32)) rfl (z := (1 : Int32)) (by decide) (Ls' := #[.val (.ref a1), .val (.ref bb32), .val (.long bt), .second, .val (.ref cc32), .val (.int (32 : Int32)), .val (.ref b332), .val (.ref bb32), .val (.int (3 : Int32)), .val (.int (1 : Int32)), .val (.int x0_32)]) rfl ?_
    refine g_goto 79 X341 hx (hb hby d3_114) (by decide) (by decide) ?_
    refine g_iload 81 X341 hx (hb hby d3_79) rfl (v := (1 : Int32)) rfl ?_
    refine g_iload 83 X341 hx (hb hby d3_81) rfl (v := (3 : Int32)) rfl ?_
    refine g_icmpNo 86 X341 hx (hb hby d3_83)  (tlt (by decide : (1 : Int32) < (3 : Int32))).2.1 rfl ?_
    refine g_aload 88 X341 hx (hb hby d3_86) rfl (v := (.ref bb32)) rfl rfl ?_
    refine g_iload 90 X341 hx (hb hby d3_88) rfl (v := (1 : Int32)) rfl ?_
    refine g_iaload 91 X341 hx hZ e341 f343 1 (by decide) rfl (z := x1_32) rfl (hb hby d3_90) rfl ?_
    refine g_istore 93 X341 hx (hb hby d3_91) rfl (Ls' := #[.val (.ref a1), .val (.ref bb32), .val (.long bt), .second, .val (.ref cc32), .val (.int (32 : Int32)), .val (.ref b332), .val (.ref bb32), .val (.int (3 : Int32)), .val (.int (1 : Int32)), .val (.int x1_32)]) rfl ?_
    refine g_aload 95 X341 hx (hb hby d3_93) rfl (v := (.ref b332)) rfl rfl ?_
    refine g_aloadN 96 X341 hx (hb hby d3_95) rfl (v := (.ref a1)) rfl rfl ?_
    refine g_iload 98 X341 hx (hb hby d3_96) rfl (v := x1_32) rfl ?_
    refine g_laload 99 X341 hx hZ e341 f342 (x1_32.toInt.toNat) (own_nat0 hB32.2.1.1) rfl (z := (([w0, w1, w2] : List Int64).getD x1_32.toInt.toNat 0)) (own_getJ (by have q := hB32.2.1; show _ < 3; omega)) (hb hby d3_98) rfl ?_
    refine g_iload 101 X341 hx (hb hby d3_99) rfl (v := (32 : Int32)) rfl ?_
    have hq101_hq_349 : 0 ≤ (([w0, w1, w2] : List Int64).getD x1_32.toInt.toNat 0).toInt := (own_wN w0 w1 w2 hW0 hW1 hW2 x1_32 hR32.2.1)
    have hq101_hp_350 : 0 ≤ (32 : Int32).toInt ∧ (32 : Int32).toInt ≤ 63 := by decide
    refine g_callS 104 X341 hx hZ (y := (⟨"com/example/prefixwood/prefixwood/huffman/TwoQueues", "digit", "(JI)I"⟩ : MethodName)) hown (hw _ (List.mem_of_getElem? (i := 17) rfl)) (hw _ (List.mem_of_getElem? (i := 18) rfl)) (hw _ (List.mem_of_getElem? (i := 4) rfl)) (hw _ (List.mem_of_getElem? (i := 19) rfl)) (by decide) e341 (rm4 l Z a0 hw [] (([w0, w1, w2] : List Int64).getD x1_32.toInt.toNat 0) (32 : Int32)  h341 n0 Zs345 hq101_hq_349 hq101_hp_350) (by rw [hml]; rfl) [(.long (([w0, w1, w2] : List Int64).getD x1_32.toInt.toNat 0)), (.int (32 : Int32))] [(.ref b332)] rfl rfl (lenOf pd_0 rfl) 1 (Nat.le_of_eq rfl) (hb hby d3_101) (by decide) (by decide) (by decide) (by decide) rfl ?_
    intro v349 T349 L349 X349 hQ349
    obtain ⟨r349, rfl, hr349, N349q, e349⟩ := hQ349
    have N349 := Fr.app N347 N349q
    show Go p e below s ({ frames := 1, cells := 10, slots := 2062, locals := 16 } : Room).cells ({ frames := 1, cells := 10, slots := 2062, locals := 16 } : Room).slots (Q3 Z a1 w0 w1 w2 h0 n0) T349 (mkF m 104 #[.val (.ref a1), .val (.ref bb32), .val (.long bt), .second, .val (.ref cc32), .val (.int (32 : Int32)), .val (.ref b332), .val (.ref bb32), .val (.int (3 : Int32)), .val (.int (1 : Int32)), .val (.int x1_32)] [(.int r349), (.ref b332)])
    have hD1_32 : own_dig (([w0, w1, w2] : List Int64).getD x1_32.toInt.toNat 0) 32 r349 := hr349
    have hE1_32 := own_dgB _ _ _ hD1_32
    refine g_iconst 105 X349 hx (hb hby d3_104) rfl (z := (1 : Int32)) rfl ?_
    refine g_iadd 106 X349 hx (hb hby d3_105) rfl (z := (r349 + (1 : Int32))) rfl ?_
    refine g_dup2 107 X349 hx (hb hby d3_106) rfl rfl rfl ?_
    refine g_iaload 108 X349 hx hZ e349 AU348 (r349.toInt.toNat + 1) (own_nat0 (by have q := hE1_32; rw [own_inc (by omega)]; omega)) (by have q := hE1_32; show (Int32.toInt _).toNat = _; rw [own_inc (by omega)]; omega) (z := ((own_up (List.replicate 257 (0 : Int32)) (r338.toInt.toNat + 1)).getD (r349.toInt.toNat + 1) 0)) (own_get (by have q := hE1_32; simp only [own_upl, List.length_replicate]; omega)) (hb hby d3_107) rfl ?_
    refine g_iconst 109 X349 hx (hb hby d3_108) rfl (z := (1 : Int32)) rfl ?_
    refine g_iadd 110 X349 hx (hb hby d3_109) rfl (z := (((own_up (List.replicate 257 (0 : Int32)) (r338.toInt.toNat + 1)).getD (r349.toInt.toNat + 1) 0) + (1 : Int32))) rfl ?_
    refine g_iastore 111 X349 hx hZ e349 AU348 (r349.toInt.toNat + 1) (own_nat0 (by have q := hE1_32; rw [own_inc (by omega)]; omega)) (by have q := hE1_32; show (Int32.toInt _).toNat = _; rw [own_inc (by omega)]; omega) (by have q := hE1_32; simp only [own_upl, List.length_replicate]; omega) (z := (((own_up (List.replicate 257 (0 : Int32)) (r338.toInt.toNat + 1)).getD (r349.toInt.toNat + 1) 0) + (1 : Int32))) rfl (hb hby d3_110) rfl ?_
    intro T352 h352 X352 e352 W352 A352
    have f353 := f342.other W352 (Nat.ne_of_lt (Nat.lt_of_lt_of_le fa_32.lt (Nat.le_of_eq g332.symm)))
    have f354 := f343.other W352 (Nat.ne_of_lt (Nat.lt_of_lt_of_le AX32.lt (Nat.le_of_eq g332.symm)))
    have f355 := f344.other W352 (Nat.ne_of_lt (Nat.lt_of_lt_of_le fc_32.lt (Nat.le_of_eq g332.symm)))
    have Zs356 : n0 ≤ h352.size := (Nat.le_trans Zs345 (Keep.of_wr W352).1)
    have K357 : Keep h0 h352 [] := K346.wr W352 (Or.inr sz_b332)
    have N358 := Fr.snoc X352 N349 g_b332
    have AU359 : AI Z h352 b332 .int (own_up (own_up (List.replicate 257 (0 : Int32)) (r338.toInt.toNat + 1)) (r349.toInt.toNat + 1)) := A352
    refine g_iinc 114 X352 hx (hb hby d3_111) rfl (x := (1 : Int32)) rfl (z := (2 : Int32)) (by decide) (Ls' := #[.val (.ref a1), .val (.ref bb32), .val (.long bt), .second, .val (.ref cc32), .val (.int (32 : Int32)), .val (.ref b332), .val (.ref bb32), .val (.int (3 : Int32)), .val (.int (2 : Int32)), .val (.int x1_32)]) rfl ?_
    refine g_goto 79 X352 hx (hb hby d3_114) (by decide) (by decide) ?_
    refine g_iload 81 X352 hx (hb hby d3_79) rfl (v := (2 : Int32)) rfl ?_
    refine g_iload 83 X352 hx (hb hby d3_81) rfl (v := (3 : Int32)) rfl ?_
    refine g_icmpNo 86 X352 hx (hb hby d3_83)  (tlt (by decide : (2 : Int32) < (3 : Int32))).2.1 rfl ?_
    refine g_aload 88 X352 hx (hb hby d3_86) rfl (v := (.ref bb32)) rfl rfl ?_
    refine g_iload 90 X352 hx (hb hby d3_88) rfl (v := (2 : Int32)) rfl ?_
    refine g_iaload 91 X352 hx hZ e352 f354 2 (by decide) rfl (z := x2_32) rfl (hb hby d3_90) rfl ?_
    refine g_istore 93 X352 hx (hb hby d3_91) rfl (Ls' := #[.val (.ref a1), .val (.ref bb32), .val (.long bt), .second, .val (.ref cc32), .val (.int (32 : Int32)), .val (.ref b332), .val (.ref bb32), .val (.int (3 : Int32)), .val (.int (2 : Int32)), .val (.int x2_32)]) rfl ?_
    refine g_aload 95 X352 hx (hb hby d3_93) rfl (v := (.ref b332)) rfl rfl ?_
    refine g_aloadN 96 X352 hx (hb hby d3_95) rfl (v := (.ref a1)) rfl rfl ?_
    refine g_iload 98 X352 hx (hb hby d3_96) rfl (v := x2_32) rfl ?_
    refine g_laload 99 X352 hx hZ e352 f353 (x2_32.toInt.toNat) (own_nat0 hB32.2.2.1) rfl (z := (([w0, w1, w2] : List Int64).getD x2_32.toInt.toNat 0)) (own_getJ (by have q := hB32.2.2; show _ < 3; omega)) (hb hby d3_98) rfl ?_
    refine g_iload 101 X352 hx (hb hby d3_99) rfl (v := (32 : Int32)) rfl ?_
    have hq101_hq_360 : 0 ≤ (([w0, w1, w2] : List Int64).getD x2_32.toInt.toNat 0).toInt := (own_wN w0 w1 w2 hW0 hW1 hW2 x2_32 hR32.2.2)
    have hq101_hp_361 : 0 ≤ (32 : Int32).toInt ∧ (32 : Int32).toInt ≤ 63 := by decide
    refine g_callS 104 X352 hx hZ (y := (⟨"com/example/prefixwood/prefixwood/huffman/TwoQueues", "digit", "(JI)I"⟩ : MethodName)) hown (hw _ (List.mem_of_getElem? (i := 17) rfl)) (hw _ (List.mem_of_getElem? (i := 18) rfl)) (hw _ (List.mem_of_getElem? (i := 4) rfl)) (hw _ (List.mem_of_getElem? (i := 19) rfl)) (by decide) e352 (rm4 l Z a0 hw [] (([w0, w1, w2] : List Int64).getD x2_32.toInt.toNat 0) (32 : Int32)  h352 n0 Zs356 hq101_hq_360 hq101_hp_361) (by rw [hml]; rfl) [(.long (([w0, w1, w2] : List Int64).getD x2_32.toInt.toNat 0)), (.int (32 : Int32))] [(.ref b332)] rfl rfl (lenOf pd_0 rfl) 1 (Nat.le_of_eq rfl) (hb hby d3_101) (by decide) (by decide) (by decide) (by decide) rfl ?_
    intro v360 T360 L360 X360 hQ360
    obtain ⟨r360, rfl, hr360, N360q, e360⟩ := hQ360
    have N360 := Fr.app N358 N360q
    show Go p e below s ({ frames := 1, cells := 10, slots := 2062, locals := 16 } : Room).cells ({ frames := 1, cells := 10, slots := 2062, locals := 16 } : Room).slots (Q3 Z a1 w0 w1 w2 h0 n0) T360 (mkF m 104 #[.val (.ref a1), .val (.ref bb32), .val (.long bt), .second, .val (.ref cc32), .val (.int (32 : Int32)), .val (.ref b332), .val (.ref bb32), .val (.int (3 : Int32)), .val (.int (2 : Int32)), .val (.int x2_32)] [(.int r360), (.ref b332)])
    have hD2_32 : own_dig (([w0, w1, w2] : List Int64).getD x2_32.toInt.toNat 0) 32 r360 := hr360
    have hE2_32 := own_dgB _ _ _ hD2_32
    refine g_iconst 105 X360 hx (hb hby d3_104) rfl (z := (1 : Int32)) rfl ?_
    refine g_iadd 106 X360 hx (hb hby d3_105) rfl (z := (r360 + (1 : Int32))) rfl ?_
    refine g_dup2 107 X360 hx (hb hby d3_106) rfl rfl rfl ?_
    refine g_iaload 108 X360 hx hZ e360 AU359 (r360.toInt.toNat + 1) (own_nat0 (by have q := hE2_32; rw [own_inc (by omega)]; omega)) (by have q := hE2_32; show (Int32.toInt _).toNat = _; rw [own_inc (by omega)]; omega) (z := ((own_up (own_up (List.replicate 257 (0 : Int32)) (r338.toInt.toNat + 1)) (r349.toInt.toNat + 1)).getD (r360.toInt.toNat + 1) 0)) (own_get (by have q := hE2_32; simp only [own_upl, List.length_replicate]; omega)) (hb hby d3_107) rfl ?_
    refine g_iconst 109 X360 hx (hb hby d3_108) rfl (z := (1 : Int32)) rfl ?_
    refine g_iadd 110 X360 hx (hb hby d3_109) rfl (z := (((own_up (own_up (List.replicate 257 (0 : Int32)) (r338.toInt.toNat + 1)) (r349.toInt.toNat + 1)).getD (r360.toInt.toNat + 1) 0) + (1 : Int32))) rfl ?_
    refine g_iastore 111 X360 hx hZ e360 AU359 (r360.toInt.toNat + 1) (own_nat0 (by have q := hE2_32; rw [own_inc (by omega)]; omega)) (by have q := hE2_32; show (Int32.toInt _).toNat = _; rw [own_inc (by omega)]; omega) (by have q := hE2_32; simp only [own_upl, List.length_replicate]; omega) (z := (((own_up (own_up (List.replicate 257 (0 : Int32)) (r338.toInt.toNat + 1)) (r349.toInt.toNat + 1)).getD (r360.toInt.toNat + 1) 0) + (1 : Int32))) rfl (hb hby d3_110) rfl ?_
    intro T363 h363 X363 e363 W363 A363
    have f364 := f353.other W363 (Nat.ne_of_lt (Nat.lt_of_lt_of_le fa_32.lt (Nat.le_of_eq g332.symm)))
    have f365 := f354.other W363 (Nat.ne_of_lt (Nat.lt_of_lt_of_le AX32.lt (Nat.le_of_eq g332.symm)))
    have f366 := f355.other W363 (Nat.ne_of_lt (Nat.lt_of_lt_of_le fc_32.lt (Nat.le_of_eq g332.symm)))
    have Zs367 : n0 ≤ h363.size := (Nat.le_trans Zs356 (Keep.of_wr W363).1)
    have K368 : Keep h0 h363 [] := K357.wr W363 (Or.inr sz_b332)
    have N369 := Fr.snoc X363 N360 g_b332
    have AU370 : AI Z h363 b332 .int (own_up (own_up (own_up (List.replicate 257 (0 : Int32)) (r338.toInt.toNat + 1)) (r349.toInt.toNat + 1)) (r360.toInt.toNat + 1)) := A363
    refine g_iinc 114 X363 hx (hb hby d3_111) rfl (x := (2 : Int32)) rfl (z := (3 : Int32)) (by decide) (Ls' := #[.val (.ref a1), .val (.ref bb32), .val (.long bt), .second, .val (.ref cc32), .val (.int (32 : Int32)), .val (.ref b332), .val (.ref bb32), .val (.int (3 : Int32)), .val (.int (3 : Int32)), .val (.int x2_32)]) rfl ?_
    refine g_goto 79 X363 hx (hb hby d3_114) (by decide) (by decide) ?_
    refine g_iload 81 X363 hx (hb hby d3_79) rfl (v := (3 : Int32)) rfl ?_
    refine g_iload 83 X363 hx (hb hby d3_81) rfl (v := (3 : Int32)) rfl ?_
    refine g_icmpYes 117 X363 hx (hb hby d3_83)  (flt (Int32.lt_irrefl)).2.1 (by decide) (by decide) ?_
    refine g_iconst 118 X363 hx (hb hby d3_117) rfl (z := (1 : Int32)) rfl ?_
    refine g_istore 120 X363 hx (hb hby d3_118) rfl (Ls' := #[.val (.ref a1), .val (.ref bb32), .val (.long bt), .second, .val (.ref cc32), .val (.int (32 : Int32)), .val (.ref b332), .val (.int (1 : Int32)), .val (.int (3 : Int32)), .val (.int (3 : Int32)), .val (.int x2_32)]) rfl ?_
    have LOOP120_32 : ∀ (fuel_32 : Nat) (lv32 : Int32) (gF32 : List Int32) (Tl_32 : State) (hl_32 : Heap) (lo_32 : List Loc), (257 - lv32.toInt).toNat < fuel_32 → (1 ≤ lv32.toInt ∧ lv32.toInt ≤ 257) → (gF32.length = 257) → (own_pfx (257 - lv32.toInt).toNat lv32.toInt.toNat gF32 = own_pfx 256 1 (own_C r338.toInt.toNat r349.toInt.toNat r360.toInt.toNat)) → (Stand p l e ({ frames := 1, cells := 10, slots := 2062, locals := 16 } : Room) s m #[(.ref a1)] below meth c Tl_32 lo_32 7 1291) → (Tl_32.heap = hl_32) → (Fr n0 lo_32) → (n0 ≤ hl_32.size) → (Keep h0 hl_32 []) → (AJ Z hl_32 a1 [w0, w1, w2]) → (AI Z hl_32 bb32 .int [x0_32, x1_32, x2_32]) → (AI Z hl_32 cc32 .int MM32) → (AI Z hl_32 b332 .int gF32) → Go p e below s ({ frames := 1, cells := 10, slots := 2062, locals := 16 } : Room).cells ({ frames := 1, cells := 10, slots := 2062, locals := 16 } : Room).slots (Q3 Z a1 w0 w1 w2 h0 n0) Tl_32 (mkF m 120 #[.val (.ref a1), .val (.ref bb32), .val (.long bt), .second, .val (.ref cc32), .val (.int (32 : Int32)), .val (.ref b332), .val (.int lv32), .val (.int (3 : Int32)), .val (.int (3 : Int32)), .val (.int x2_32)] []) := by
      intro fuel_32
      induction fuel_32 with
      | zero => intro lv32 gF32 Tl_32 hl_32 lo_32 hm; exact absurd hm (Nat.not_lt_zero _)
      | succ fuel_32 ih_32 =>
        intro lv32 gF32 Tl_32 hl_32 lo_32 hm_32 hv32 hgl32 hgF32 Xl_32 el_32 Nl_32 Zl_32 Kl_32 fl_32_0 fl_32_1 fl_32_2 fl_32_3
        refine g_iload 122 Xl_32 hx (hb hby d3_120) rfl (v := lv32) rfl ?_
        refine g_aload 124 Xl_32 hx (hb hby d3_122) rfl (v := (.ref b332)) rfl rfl ?_
        refine g_arraylengthI 125 Xl_32 hx hZ el_32 fl_32_3 (z := (257 : Int32)) (by rw [hgl32]; rfl) (hb hby d3_124) rfl ?_
        by_cases hc125_370 : lv32 < (257 : Int32)
        ·
          refine g_icmpNo 128 Xl_32 hx (hb hby d3_125)  (tlt hc125_370).2.1 rfl ?_
          refine g_aload 130 Xl_32 hx (hb hby d3_128) rfl (v := (.ref b332)) rfl rfl ?_
          refine g_iload 132 Xl_32 hx (hb hby d3_130) rfl (v := lv32) rfl ?_
          refine g_dup2 133 Xl_32 hx (hb hby d3_132) rfl rfl rfl ?_
          refine g_iaload 134 Xl_32 hx hZ el_32 fl_32_3 (lv32.toInt.toNat) (own_nat0 (by omega)) rfl (z := (gF32.getD lv32.toInt.toNat 0)) (own_get (by have q := Int32.lt_iff_toInt_lt.mp hc125_370; simp only [Int32.reduceToInt] at q; rw [hgl32]; omega)) (hb hby d3_133) rfl ?_
          refine g_aload 136 Xl_32 hx (hb hby d3_134) rfl (v := (.ref b332)) rfl rfl ?_
          refine g_iload 138 Xl_32 hx (hb hby d3_136) rfl (v := lv32) rfl ?_
          refine g_iconst 139 Xl_32 hx (hb hby d3_138) rfl (z := (1 : Int32)) rfl ?_
          refine g_isub 140 Xl_32 hx (hb hby d3_139) rfl (z := (lv32 - (1 : Int32))) rfl ?_
          refine g_iaload 141 Xl_32 hx hZ el_32 fl_32_3 (lv32.toInt.toNat - 1) (own_nat0 (by have q := Int32.lt_iff_toInt_lt.mp hc125_370; simp only [Int32.reduceToInt] at q; rw [own_dec1 (by omega)]; omega)) (by have q := Int32.lt_iff_toInt_lt.mp hc125_370; simp only [Int32.reduceToInt] at q; show (Int32.toInt _).toNat = _; rw [own_dec1 (by omega)]; omega) (z := (gF32.getD (lv32.toInt.toNat - 1) 0)) (own_get (by have q := Int32.lt_iff_toInt_lt.mp hc125_370; simp only [Int32.reduceToInt] at q; rw [hgl32]; omega)) (hb hby d3_140) rfl ?_
          refine g_iadd 142 Xl_32 hx (hb hby d3_141) rfl (z := ((gF32.getD lv32.toInt.toNat 0) + (gF32.getD (lv32.toInt.toNat - 1) 0))) rfl ?_
          refine g_iastore 143 Xl_32 hx hZ el_32 fl_32_3 (lv32.toInt.toNat) (own_nat0 (by omega)) rfl (by have q := Int32.lt_iff_toInt_lt.mp hc125_370; simp only [Int32.reduceToInt] at q; rw [hgl32]; omega) (z := ((gF32.getD lv32.toInt.toNat 0) + (gF32.getD (lv32.toInt.toNat - 1) 0))) rfl (hb hby d3_142) rfl ?_
          intro T372 h372 X372 e372 W372 A372
          have f373 := fl_32_0.other W372 (Nat.ne_of_lt (Nat.lt_of_lt_of_le fa_32.lt (Nat.le_of_eq g332.symm)))
          have f374 := fl_32_1.other W372 (Nat.ne_of_lt (Nat.lt_of_lt_of_le AX32.lt (Nat.le_of_eq g332.symm)))
          have f375 := fl_32_2.other W372 (Nat.ne_of_lt (Nat.lt_of_lt_of_le fc_32.lt (Nat.le_of_eq g332.symm)))
          have Zs376 : n0 ≤ h372.size := (Nat.le_trans Zl_32 (Keep.of_wr W372).1)
          have K377 : Keep h0 h372 [] := Kl_32.wr W372 (Or.inr sz_b332)
          have N378 := Fr.snoc X372 Nl_32 g_b332
          refine g_iinc 146 X372 hx (hb hby d3_143) rfl (x := lv32) rfl (z := (lv32 + (1 : Int32))) rfl (Ls' := #[.val (.ref a1), .val (.ref bb32), .val (.long bt), .second, .val (.ref cc32), .val (.int (32 : Int32)), .val (.ref b332), .val (.int (lv32 + (1 : Int32))), .val (.int (3 : Int32)), .val (.int (3 : Int32)), .val (.int x2_32)]) rfl ?_
          refine g_goto 120 X372 hx (hb hby d3_146) (by decide) (by decide) ?_
          exact ih_32 (lv32 + (1 : Int32)) (List.set gF32 (lv32.toInt.toNat) ((gF32.getD lv32.toInt.toNat 0) + (gF32.getD (lv32.toInt.toNat - 1) 0))) T372 h372 _ (by have q := Int32.lt_iff_toInt_lt.mp hc125_370; simp only [Int32.reduceToInt] at q; rw [own_inc (by omega)]; omega) (by have q := Int32.lt_iff_toInt_lt.mp hc125_370; simp only [Int32.reduceToInt] at q; rw [own_inc (by omega)]; omega) (by rw [List.length_set]; exact hgl32) (own_pfxstep lv32 gF32 _ (by have q := Int32.lt_iff_toInt_lt.mp hc125_370; simp only [Int32.reduceToInt] at q; omega) hgF32) X372 e372 N378 Zs376 K377 f373 f374 f375 A372
        ·
          refine g_icmpYes 149 Xl_32 hx (hb hby d3_125)  (flt hc125_370).2.1 (by decide) (by decide) ?_
          have hG32 : gF32 = own_pfx 256 1 (own_C r338.toInt.toNat r349.toInt.toNat r360.toInt.toNat) := by have q := mt Int32.lt_iff_toInt_lt.mpr hc125_370; simp only [Int32.reduceToInt] at q; rw [← hgF32, show (257 - lv32.toInt).toNat = 0 by omega]; rfl
          have hH32 := own_PS r338.toInt.toNat r349.toInt.toNat r360.toInt.toNat (by omega) (by omega) (by omega)
          rw [← hG32] at hH32
          have hQ32_ := own_qs gF32 r338.toInt.toNat r349.toInt.toNat r360.toInt.toNat (by omega) (by omega) (by omega) hH32
          have hq32_ := own_qB r338.toInt.toNat r349.toInt.toNat r360.toInt.toNat
          refine g_aloadN 150 Xl_32 hx (hb hby d3_149) rfl (v := (.ref bb32)) rfl rfl ?_
          refine g_astore 152 Xl_32 hx (hb hby d3_150) rfl (Ls' := #[.val (.ref a1), .val (.ref bb32), .val (.long bt), .second, .val (.ref cc32), .val (.int (32 : Int32)), .val (.ref b332), .val (.ref bb32), .val (.int (3 : Int32)), .val (.int (3 : Int32)), .val (.int x2_32)]) rfl rfl ?_
          refine g_aload 154 Xl_32 hx (hb hby d3_152) rfl (v := (.ref bb32)) rfl rfl ?_
          refine g_arraylengthI 155 Xl_32 hx hZ el_32 fl_32_1 (z := (3 : Int32)) rfl (hb hby d3_154) rfl ?_
          refine g_istore 157 Xl_32 hx (hb hby d3_155) rfl (Ls' := #[.val (.ref a1), .val (.ref bb32), .val (.long bt), .second, .val (.ref cc32), .val (.int (32 : Int32)), .val (.ref b332), .val (.ref bb32), .val (.int (3 : Int32)), .val (.int (3 : Int32)), .val (.int x2_32)]) rfl ?_
          refine g_iconst 158 Xl_32 hx (hb hby d3_157) rfl (z := (0 : Int32)) rfl ?_
          refine g_istore 160 Xl_32 hx (hb hby d3_158) rfl (Ls' := #[.val (.ref a1), .val (.ref bb32), .val (.long bt), .second, .val (.ref cc32), .val (.int (32 : Int32)), .val (.ref b332), .val (.ref bb32), .val (.int (3 : Int32)), .val (.int (0 : Int32)), .val (.int x2_32)]) rfl ?_
          refine g_iload 162 Xl_32 hx (hb hby d3_160) rfl (v := (0 : Int32)) rfl ?_
          refine g_iload 164 Xl_32 hx (hb hby d3_162) rfl (v := (3 : Int32)) rfl ?_
          refine g_icmpNo 167 Xl_32 hx (hb hby d3_164)  (tlt (by decide : (0 : Int32) < (3 : Int32))).2.1 rfl ?_
          refine g_aload 169 Xl_32 hx (hb hby d3_167) rfl (v := (.ref bb32)) rfl rfl ?_
          refine g_iload 171 Xl_32 hx (hb hby d3_169) rfl (v := (0 : Int32)) rfl ?_
          refine g_iaload 172 Xl_32 hx hZ el_32 fl_32_1 0 (by decide) rfl (z := x0_32) rfl (hb hby d3_171) rfl ?_
          refine g_istore 174 Xl_32 hx (hb hby d3_172) rfl (Ls' := #[.val (.ref a1), .val (.ref bb32), .val (.long bt), .second, .val (.ref cc32), .val (.int (32 : Int32)), .val (.ref b332), .val (.ref bb32), .val (.int (3 : Int32)), .val (.int (0 : Int32)), .val (.int x0_32)]) rfl ?_
          refine g_aload 176 Xl_32 hx (hb hby d3_174) rfl (v := (.ref cc32)) rfl rfl ?_
          refine g_aload 178 Xl_32 hx (hb hby d3_176) rfl (v := (.ref b332)) rfl rfl ?_
          refine g_aloadN 179 Xl_32 hx (hb hby d3_178) rfl (v := (.ref a1)) rfl rfl ?_
          refine g_iload 181 Xl_32 hx (hb hby d3_179) rfl (v := x0_32) rfl ?_
          refine g_laload 182 Xl_32 hx hZ el_32 fl_32_0 (x0_32.toInt.toNat) (own_nat0 hB32.1.1) rfl (z := (([w0, w1, w2] : List Int64).getD x0_32.toInt.toNat 0)) (own_getJ (by have q := hB32.1; show _ < 3; omega)) (hb hby d3_181) rfl ?_
          refine g_iload 184 Xl_32 hx (hb hby d3_182) rfl (v := (32 : Int32)) rfl ?_
          have hq184_hq_379 : 0 ≤ (([w0, w1, w2] : List Int64).getD x0_32.toInt.toNat 0).toInt := (own_wN w0 w1 w2 hW0 hW1 hW2 x0_32 hR32.1)
          have hq184_hp_380 : 0 ≤ (32 : Int32).toInt ∧ (32 : Int32).toInt ≤ 63 := by decide
          refine g_callS 187 Xl_32 hx hZ (y := (⟨"com/example/prefixwood/prefixwood/huffman/TwoQueues", "digit", "(JI)I"⟩ : MethodName)) hown (hw _ (List.mem_of_getElem? (i := 17) rfl)) (hw _ (List.mem_of_getElem? (i := 18) rfl)) (hw _ (List.mem_of_getElem? (i := 4) rfl)) (hw _ (List.mem_of_getElem? (i := 19) rfl)) (by decide) el_32 (rm4 l Z a0 hw [] (([w0, w1, w2] : List Int64).getD x0_32.toInt.toNat 0) (32 : Int32)  hl_32 n0 Zl_32 hq184_hq_379 hq184_hp_380) (by rw [hml]; rfl) [(.long (([w0, w1, w2] : List Int64).getD x0_32.toInt.toNat 0)), (.int (32 : Int32))] [(.ref b332), (.ref cc32)] rfl rfl (lenOf pd_0 rfl) 2 (Nat.le_of_eq rfl) (hb hby d3_184) (by decide) (by decide) (by decide) (by decide) rfl ?_
          intro v379 T379 L379 X379 hQ379
          obtain ⟨r379, rfl, hr379, N379q, e379⟩ := hQ379
          have N379 := Fr.app Nl_32 N379q
          show Go p e below s ({ frames := 1, cells := 10, slots := 2062, locals := 16 } : Room).cells ({ frames := 1, cells := 10, slots := 2062, locals := 16 } : Room).slots (Q3 Z a1 w0 w1 w2 h0 n0) T379 (mkF m 187 #[.val (.ref a1), .val (.ref bb32), .val (.long bt), .second, .val (.ref cc32), .val (.int (32 : Int32)), .val (.ref b332), .val (.ref bb32), .val (.int (3 : Int32)), .val (.int (0 : Int32)), .val (.int x0_32)] [(.int r379), (.ref b332), (.ref cc32)])
          have hs0_32 : r338 = r379 := own_z _ ((hD0_32 : _ = _).trans (hr379 : _ = _).symm)
          subst hs0_32
          refine g_dup2 188 X379 hx (hb hby d3_187) rfl rfl rfl ?_
          refine g_iaload 189 X379 hx hZ e379 fl_32_3 (r338.toInt.toNat) (own_nat0 (by omega)) rfl (z := (gF32.getD r338.toInt.toNat 0)) (own_get (by first | (simp only [own_upl]; rw [hgl32]; omega) | (rw [hgl32]; omega))) (hb hby d3_188) rfl ?_
          refine g_dup_x2 190 X379 hx (hb hby d3_189) rfl rfl rfl rfl ?_
          refine g_iconst 191 X379 hx (hb hby d3_190) rfl (z := (1 : Int32)) rfl ?_
          refine g_iadd 192 X379 hx (hb hby d3_191) rfl (z := ((gF32.getD r338.toInt.toNat 0) + (1 : Int32))) rfl ?_
          refine g_iastore 193 X379 hx hZ e379 fl_32_3 (r338.toInt.toNat) (own_nat0 (by omega)) rfl (by first | (simp only [own_upl]; rw [hgl32]; omega) | (rw [hgl32]; omega)) (z := ((gF32.getD r338.toInt.toNat 0) + (1 : Int32))) rfl (hb hby d3_192) rfl ?_
          intro T382 h382 X382 e382 W382 A382
          have f383 := fl_32_0.other W382 (Nat.ne_of_lt (Nat.lt_of_lt_of_le fa_32.lt (Nat.le_of_eq g332.symm)))
          have f384 := fl_32_1.other W382 (Nat.ne_of_lt (Nat.lt_of_lt_of_le AX32.lt (Nat.le_of_eq g332.symm)))
          have f385 := fl_32_2.other W382 (Nat.ne_of_lt (Nat.lt_of_lt_of_le fc_32.lt (Nat.le_of_eq g332.symm)))
          have Zs386 : n0 ≤ h382.size := (Nat.le_trans Zl_32 (Keep.of_wr W382).1)
          have K387 : Keep h0 h382 [] := Kl_32.wr W382 (Or.inr sz_b332)
          have N388 := Fr.snoc X382 N379 g_b332
          have AV389 : AI Z h382 b332 .int (own_up gF32 r338.toInt.toNat) := A382
          refine g_iload 195 X382 hx (hb hby d3_193) rfl (v := x0_32) rfl ?_
          refine g_iastore 196 X382 hx hZ e382 f385 (own_q0 r338.toInt.toNat r349.toInt.toNat r360.toInt.toNat) (own_nat0 (by rw [hQ32_.1]; exact Int.natCast_nonneg _)) (by show (Int32.toInt _).toNat = _; rw [hQ32_.1]; rfl) (by have q := hq32_.1; rw [hM32]; omega) (z := x0_32) rfl (hb hby d3_195) rfl ?_
          intro T390 h390 X390 e390 W390 A390
          have f391 := f383.other W390 nac_32
          have f392 := f384.other W390 nbc_32
          have f393 := AV389.other W390 (Ne.symm (Nat.ne_of_lt (Nat.lt_of_lt_of_le fc_32.lt (Nat.le_of_eq g332.symm))))
          have Zs394 : n0 ≤ h390.size := (Nat.le_trans Zs386 (Keep.of_wr W390).1)
          have K395 : Keep h0 h390 [] := K387.wr W390 (Or.inr sz_cc32)
          have N396 := Fr.snoc X390 N388 g_cc32
          refine g_iinc 199 X390 hx (hb hby d3_196) rfl (x := (0 : Int32)) rfl (z := (1 : Int32)) (by decide) (Ls' := #[.val (.ref a1), .val (.ref bb32), .val (.long bt), .second, .val (.ref cc32), .val (.int (32 : Int32)), .val (.ref b332), .val (.ref bb32), .val (.int (3 : Int32)), .val (.int (1 : Int32)), .val (.int x0_32)]) rfl ?_
          refine g_goto 160 X390 hx (hb hby d3_199) (by decide) (by decide) ?_
          refine g_iload 162 X390 hx (hb hby d3_160) rfl (v := (1 : Int32)) rfl ?_
          refine g_iload 164 X390 hx (hb hby d3_162) rfl (v := (3 : Int32)) rfl ?_
          refine g_icmpNo 167 X390 hx (hb hby d3_164)  (tlt (by decide : (1 : Int32) < (3 : Int32))).2.1 rfl ?_
          refine g_aload 169 X390 hx (hb hby d3_167) rfl (v := (.ref bb32)) rfl rfl ?_
          refine g_iload 171 X390 hx (hb hby d3_169) rfl (v := (1 : Int32)) rfl ?_
          refine g_iaload 172 X390 hx hZ e390 f392 1 (by decide) rfl (z := x1_32) rfl (hb hby d3_171) rfl ?_
          refine g_istore 174 X390 hx (hb hby d3_172) rfl (Ls' := #[.val (.ref a1), .val (.ref bb32), .val (.long bt), .second, .val (.ref cc32), .val (.int (32 : Int32)), .val (.ref b332), .val (.ref bb32), .val (.int (3 : Int32)), .val (.int (1 : Int32)), .val (.int x1_32)]) rfl ?_
          refine g_aload 176 X390 hx (hb hby d3_174) rfl (v := (.ref cc32)) rfl rfl ?_
          refine g_aload 178 X390 hx (hb hby d3_176) rfl (v := (.ref b332)) rfl rfl ?_
          refine g_aloadN 179 X390 hx (hb hby d3_178) rfl (v := (.ref a1)) rfl rfl ?_
          refine g_iload 181 X390 hx (hb hby d3_179) rfl (v := x1_32) rfl ?_
          refine g_laload 182 X390 hx hZ e390 f391 (x1_32.toInt.toNat) (own_nat0 hB32.2.1.1) rfl (z := (([w0, w1, w2] : List Int64).getD x1_32.toInt.toNat 0)) (own_getJ (by have q := hB32.2.1; show _ < 3; omega)) (hb hby d3_181) rfl ?_
          refine g_iload 184 X390 hx (hb hby d3_182) rfl (v := (32 : Int32)) rfl ?_
          have hq184_hq_397 : 0 ≤ (([w0, w1, w2] : List Int64).getD x1_32.toInt.toNat 0).toInt := (own_wN w0 w1 w2 hW0 hW1 hW2 x1_32 hR32.2.1)
          have hq184_hp_398 : 0 ≤ (32 : Int32).toInt ∧ (32 : Int32).toInt ≤ 63 := by decide
          refine g_callS 187 X390 hx hZ (y := (⟨"com/example/prefixwood/prefixwood/huffman/TwoQueues", "digit", "(JI)I"⟩ : MethodName)) hown (hw _ (List.mem_of_getElem? (i := 17) rfl)) (hw _ (List.mem_of_getElem? (i := 18) rfl)) (hw _ (List.mem_of_getElem? (i := 4) rfl)) (hw _ (List.mem_of_getElem? (i := 19) rfl)) (by decide) e390 (rm4 l Z a0 hw [] (([w0, w1, w2] : List Int64).getD x1_32.toInt.toNat 0) (32 : Int32)  h390 n0 Zs394 hq184_hq_397 hq184_hp_398) (by rw [hml]; rfl) [(.long (([w0, w1, w2] : List Int64).getD x1_32.toInt.toNat 0)), (.int (32 : Int32))] [(.ref b332), (.ref cc32)] rfl rfl (lenOf pd_0 rfl) 2 (Nat.le_of_eq rfl) (hb hby d3_184) (by decide) (by decide) (by decide) (by decide) rfl ?_
          intro v397 T397 L397 X397 hQ397
          obtain ⟨r397, rfl, hr397, N397q, e397⟩ := hQ397
          have N397 := Fr.app N396 N397q
          show Go p e below s ({ frames := 1, cells := 10, slots := 2062, locals := 16 } : Room).cells ({ frames := 1, cells := 10, slots := 2062, locals := 16 } : Room).slots (Q3 Z a1 w0 w1 w2 h0 n0) T397 (mkF m 187 #[.val (.ref a1), .val (.ref bb32), .val (.long bt), .second, .val (.ref cc32), .val (.int (32 : Int32)), .val (.ref b332), .val (.ref bb32), .val (.int (3 : Int32)), .val (.int (1 : Int32)), .val (.int x1_32)] [(.int r397), (.ref b332), (.ref cc32)])
          have hs1_32 : r349 = r397 := own_z _ ((hD1_32 : _ = _).trans (hr397 : _ = _).symm)
          subst hs1_32
          refine g_dup2 188 X397 hx (hb hby d3_187) rfl rfl rfl ?_
          refine g_iaload 189 X397 hx hZ e397 f393 (r349.toInt.toNat) (own_nat0 (by omega)) rfl (z := ((own_up gF32 r338.toInt.toNat).getD r349.toInt.toNat 0)) (own_get (by first | (simp only [own_upl]; rw [hgl32]; omega) | (rw [hgl32]; omega))) (hb hby d3_188) rfl ?_
          refine g_dup_x2 190 X397 hx (hb hby d3_189) rfl rfl rfl rfl ?_
          refine g_iconst 191 X397 hx (hb hby d3_190) rfl (z := (1 : Int32)) rfl ?_
          refine g_iadd 192 X397 hx (hb hby d3_191) rfl (z := (((own_up gF32 r338.toInt.toNat).getD r349.toInt.toNat 0) + (1 : Int32))) rfl ?_
          refine g_iastore 193 X397 hx hZ e397 f393 (r349.toInt.toNat) (own_nat0 (by omega)) rfl (by first | (simp only [own_upl]; rw [hgl32]; omega) | (rw [hgl32]; omega)) (z := (((own_up gF32 r338.toInt.toNat).getD r349.toInt.toNat 0) + (1 : Int32))) rfl (hb hby d3_192) rfl ?_
          intro T400 h400 X400 e400 W400 A400
          have f401 := f391.other W400 (Nat.ne_of_lt (Nat.lt_of_lt_of_le fa_32.lt (Nat.le_of_eq g332.symm)))
          have f402 := f392.other W400 (Nat.ne_of_lt (Nat.lt_of_lt_of_le AX32.lt (Nat.le_of_eq g332.symm)))
          have f403 := A390.other W400 (Nat.ne_of_lt (Nat.lt_of_lt_of_le fc_32.lt (Nat.le_of_eq g332.symm)))
          have Zs404 : n0 ≤ h400.size := (Nat.le_trans Zs394 (Keep.of_wr W400).1)
          have K405 : Keep h0 h400 [] := K395.wr W400 (Or.inr sz_b332)
          have N406 := Fr.snoc X400 N397 g_b332
          have AV407 : AI Z h400 b332 .int (own_up (own_up gF32 r338.toInt.toNat) r349.toInt.toNat) := A400
          refine g_iload 195 X400 hx (hb hby d3_193) rfl (v := x1_32) rfl ?_
          refine g_iastore 196 X400 hx hZ e400 f403 (own_q1 r338.toInt.toNat r349.toInt.toNat r360.toInt.toNat) (own_nat0 (by rw [hQ32_.2.1]; exact Int.natCast_nonneg _)) (by show (Int32.toInt _).toNat = _; rw [hQ32_.2.1]; rfl) (by have q := hq32_.2.1; rw [List.length_set, hM32]; omega) (z := x1_32) rfl (hb hby d3_195) rfl ?_
          intro T408 h408 X408 e408 W408 A408
          have f409 := f401.other W408 nac_32
          have f410 := f402.other W408 nbc_32
          have f411 := AV407.other W408 (Ne.symm (Nat.ne_of_lt (Nat.lt_of_lt_of_le fc_32.lt (Nat.le_of_eq g332.symm))))
          have Zs412 : n0 ≤ h408.size := (Nat.le_trans Zs404 (Keep.of_wr W408).1)
          have K413 : Keep h0 h408 [] := K405.wr W408 (Or.inr sz_cc32)
          have N414 := Fr.snoc X408 N406 g_cc32
          refine g_iinc 199 X408 hx (hb hby d3_196) rfl (x := (1 : Int32)) rfl (z := (2 : Int32)) (by decide) (Ls' := #[.val (.ref a1), .val (.ref bb32), .val (.long bt), .second, .val (.ref cc32), .val (.int (32 : Int32)), .val (.ref b332), .val (.ref bb32), .val (.int (3 : Int32)), .val (.int (2 : Int32)), .val (.int x1_32)]) rfl ?_
          refine g_goto 160 X408 hx (hb hby d3_199) (by decide) (by decide) ?_
          refine g_iload 162 X408 hx (hb hby d3_160) rfl (v := (2 : Int32)) rfl ?_
          refine g_iload 164 X408 hx (hb hby d3_162) rfl (v := (3 : Int32)) rfl ?_
          refine g_icmpNo 167 X408 hx (hb hby d3_164)  (tlt (by decide : (2 : Int32) < (3 : Int32))).2.1 rfl ?_
          refine g_aload 169 X408 hx (hb hby d3_167) rfl (v := (.ref bb32)) rfl rfl ?_
          refine g_iload 171 X408 hx (hb hby d3_169) rfl (v := (2 : Int32)) rfl ?_
          refine g_iaload 172 X408 hx hZ e408 f410 2 (by decide) rfl (z := x2_32) rfl (hb hby d3_171) rfl ?_
          refine g_istore 174 X408 hx (hb hby d3_172) rfl (Ls' := #[.val (.ref a1), .val (.ref bb32), .val (.long bt), .second, .val (.ref cc32), .val (.int (32 : Int32)), .val (.ref b332), .val (.ref bb32), .val (.int (3 : Int32)), .val (.int (2 : Int32)), .val (.int x2_32)]) rfl ?_
          refine g_aload 176 X408 hx (hb hby d3_174) rfl (v := (.ref cc32)) rfl rfl ?_
          refine g_aload 178 X408 hx (hb hby d3_176) rfl (v := (.ref b332)) rfl rfl ?_
          refine g_aloadN 179 X408 hx (hb hby d3_178) rfl (v := (.ref a1)) rfl rfl ?_
          refine g_iload 181 X408 hx (hb hby d3_179) rfl (v := x2_32) rfl ?_
          refine g_laload 182 X408 hx hZ e408 f409 (x2_32.toInt.toNat) (own_nat0 hB32.2.2.1) rfl (z := (([w0, w1, w2] : List Int64).getD x2_32.toInt.toNat 0)) (own_getJ (by have q := hB32.2.2; show _ < 3; omega)) (hb hby d3_181) rfl ?_
          refine g_iload 184 X408 hx (hb hby d3_182) rfl (v := (32 : Int32)) rfl ?_
          have hq184_hq_415 : 0 ≤ (([w0, w1, w2] : List Int64).getD x2_32.toInt.toNat 0).toInt := (own_wN w0 w1 w2 hW0 hW1 hW2 x2_32 hR32.2.2)
          have hq184_hp_416 : 0 ≤ (32 : Int32).toInt ∧ (32 : Int32).toInt ≤ 63 := by decide
          refine g_callS 187 X408 hx hZ (y := (⟨"com/example/prefixwood/prefixwood/huffman/TwoQueues", "digit", "(JI)I"⟩ : MethodName)) hown (hw _ (List.mem_of_getElem? (i := 17) rfl)) (hw _ (List.mem_of_getElem? (i := 18) rfl)) (hw _ (List.mem_of_getElem? (i := 4) rfl)) (hw _ (List.mem_of_getElem? (i := 19) rfl)) (by decide) e408 (rm4 l Z a0 hw [] (([w0, w1, w2] : List Int64).getD x2_32.toInt.toNat 0) (32 : Int32)  h408 n0 Zs412 hq184_hq_415 hq184_hp_416) (by rw [hml]; rfl) [(.long (([w0, w1, w2] : List Int64).getD x2_32.toInt.toNat 0)), (.int (32 : Int32))] [(.ref b332), (.ref cc32)] rfl rfl (lenOf pd_0 rfl) 2 (Nat.le_of_eq rfl) (hb hby d3_184) (by decide) (by decide) (by decide) (by decide) rfl ?_
          intro v415 T415 L415 X415 hQ415
          obtain ⟨r415, rfl, hr415, N415q, e415⟩ := hQ415
          have N415 := Fr.app N414 N415q
          show Go p e below s ({ frames := 1, cells := 10, slots := 2062, locals := 16 } : Room).cells ({ frames := 1, cells := 10, slots := 2062, locals := 16 } : Room).slots (Q3 Z a1 w0 w1 w2 h0 n0) T415 (mkF m 187 #[.val (.ref a1), .val (.ref bb32), .val (.long bt), .second, .val (.ref cc32), .val (.int (32 : Int32)), .val (.ref b332), .val (.ref bb32), .val (.int (3 : Int32)), .val (.int (2 : Int32)), .val (.int x2_32)] [(.int r415), (.ref b332), (.ref cc32)])
          have hs2_32 : r360 = r415 := own_z _ ((hD2_32 : _ = _).trans (hr415 : _ = _).symm)
          subst hs2_32
          refine g_dup2 188 X415 hx (hb hby d3_187) rfl rfl rfl ?_
          refine g_iaload 189 X415 hx hZ e415 f411 (r360.toInt.toNat) (own_nat0 (by omega)) rfl (z := ((own_up (own_up gF32 r338.toInt.toNat) r349.toInt.toNat).getD r360.toInt.toNat 0)) (own_get (by first | (simp only [own_upl]; rw [hgl32]; omega) | (rw [hgl32]; omega))) (hb hby d3_188) rfl ?_
          refine g_dup_x2 190 X415 hx (hb hby d3_189) rfl rfl rfl rfl ?_
          refine g_iconst 191 X415 hx (hb hby d3_190) rfl (z := (1 : Int32)) rfl ?_
          refine g_iadd 192 X415 hx (hb hby d3_191) rfl (z := (((own_up (own_up gF32 r338.toInt.toNat) r349.toInt.toNat).getD r360.toInt.toNat 0) + (1 : Int32))) rfl ?_
          refine g_iastore 193 X415 hx hZ e415 f411 (r360.toInt.toNat) (own_nat0 (by omega)) rfl (by first | (simp only [own_upl]; rw [hgl32]; omega) | (rw [hgl32]; omega)) (z := (((own_up (own_up gF32 r338.toInt.toNat) r349.toInt.toNat).getD r360.toInt.toNat 0) + (1 : Int32))) rfl (hb hby d3_192) rfl ?_
          intro T418 h418 X418 e418 W418 A418
          have f419 := f409.other W418 (Nat.ne_of_lt (Nat.lt_of_lt_of_le fa_32.lt (Nat.le_of_eq g332.symm)))
          have f420 := f410.other W418 (Nat.ne_of_lt (Nat.lt_of_lt_of_le AX32.lt (Nat.le_of_eq g332.symm)))
          have f421 := A408.other W418 (Nat.ne_of_lt (Nat.lt_of_lt_of_le fc_32.lt (Nat.le_of_eq g332.symm)))
          have Zs422 : n0 ≤ h418.size := (Nat.le_trans Zs412 (Keep.of_wr W418).1)
          have K423 : Keep h0 h418 [] := K413.wr W418 (Or.inr sz_b332)
          have N424 := Fr.snoc X418 N415 g_b332
          have AV425 : AI Z h418 b332 .int (own_up (own_up (own_up gF32 r338.toInt.toNat) r349.toInt.toNat) r360.toInt.toNat) := A418
          refine g_iload 195 X418 hx (hb hby d3_193) rfl (v := x2_32) rfl ?_
          refine g_iastore 196 X418 hx hZ e418 f421 (own_q2 r338.toInt.toNat r349.toInt.toNat r360.toInt.toNat) (own_nat0 (by rw [hQ32_.2.2]; exact Int.natCast_nonneg _)) (by show (Int32.toInt _).toNat = _; rw [hQ32_.2.2]; rfl) (by have q := hq32_.2.2; rw [List.length_set, List.length_set, hM32]; omega) (z := x2_32) rfl (hb hby d3_195) rfl ?_
          intro T426 h426 X426 e426 W426 A426
          have f427 := f419.other W426 nac_32
          have f428 := f420.other W426 nbc_32
          have f429 := AV425.other W426 (Ne.symm (Nat.ne_of_lt (Nat.lt_of_lt_of_le fc_32.lt (Nat.le_of_eq g332.symm))))
          have Zs430 : n0 ≤ h426.size := (Nat.le_trans Zs422 (Keep.of_wr W426).1)
          have K431 : Keep h0 h426 [] := K423.wr W426 (Or.inr sz_cc32)
          have N432 := Fr.snoc X426 N424 g_cc32
          refine g_iinc 199 X426 hx (hb hby d3_196) rfl (x := (2 : Int32)) rfl (z := (3 : Int32)) (by decide) (Ls' := #[.val (.ref a1), .val (.ref bb32), .val (.long bt), .second, .val (.ref cc32), .val (.int (32 : Int32)), .val (.ref b332), .val (.ref bb32), .val (.int (3 : Int32)), .val (.int (3 : Int32)), .val (.int x2_32)]) rfl ?_
          refine g_goto 160 X426 hx (hb hby d3_199) (by decide) (by decide) ?_
          refine g_iload 162 X426 hx (hb hby d3_160) rfl (v := (3 : Int32)) rfl ?_
          refine g_iload 164 X426 hx (hb hby d3_162) rfl (v := (3 : Int32)) rfl ?_
          refine g_icmpYes 202 X426 hx (hb hby d3_164)  (flt (Int32.lt_irrefl)).2.1 (by decide) (by decide) ?_
          refine g_aloadN 203 X426 hx (hb hby d3_202) rfl (v := (.ref bb32)) rfl rfl ?_
          refine g_astore 205 X426 hx (hb hby d3_203) rfl (Ls' := #[.val (.ref a1), .val (.ref bb32), .val (.long bt), .second, .val (.ref cc32), .val (.int (32 : Int32)), .val (.ref b332), .val (.ref bb32), .val (.int (3 : Int32)), .val (.int (3 : Int32)), .val (.int x2_32)]) rfl rfl ?_
          refine g_aload 207 X426 hx (hb hby d3_205) rfl (v := (.ref cc32)) rfl rfl ?_
          refine g_astoreN 208 X426 hx (hb hby d3_207) rfl (Ls' := #[.val (.ref a1), .val (.ref cc32), .val (.long bt), .second, .val (.ref cc32), .val (.int (32 : Int32)), .val (.ref b332), .val (.ref bb32), .val (.int (3 : Int32)), .val (.int (3 : Int32)), .val (.int x2_32)]) rfl rfl ?_
          refine g_aload 210 X426 hx (hb hby d3_208) rfl (v := (.ref bb32)) rfl rfl ?_
          refine g_astore 212 X426 hx (hb hby d3_210) rfl (Ls' := #[.val (.ref a1), .val (.ref cc32), .val (.long bt), .second, .val (.ref bb32), .val (.int (32 : Int32)), .val (.ref b332), .val (.ref bb32), .val (.int (3 : Int32)), .val (.int (3 : Int32)), .val (.int x2_32)]) rfl rfl ?_
          refine g_iinc 215 X426 hx (hb hby d3_212) rfl (x := (32 : Int32)) rfl (z := (40 : Int32)) (by decide) (Ls' := #[.val (.ref a1), .val (.ref cc32), .val (.long bt), .second, .val (.ref bb32), .val (.int (40 : Int32)), .val (.ref b332), .val (.ref bb32), .val (.int (3 : Int32)), .val (.int (3 : Int32)), .val (.int x2_32)]) rfl ?_
          refine g_goto 45 X426 hx (hb hby d3_215) (by decide) (by decide) ?_
          have AK40 : AI Z h426 cc32 .int (own_K w0 w1 w2 40) := by rw [← own_passL w0 w1 w2 32 x0_32 x1_32 x2_32 r338 r349 r360 MM32 hM32 hX32 hD0_32 hD1_32 hD2_32]; exact A426
          exact pass_40 l Z a0 hw a1 w0 w1 w2 h0 n0 hW0 hW1 hW2 hret hZ hx hby hml hown hlk bt hbt cc32 bb32 b332 bb32 x2_32 [x0_32, x1_32, x2_32] T426 h426 _ rfl (Ne.symm nbc_32) nac_32 nab_32 g_cc32 g_bb32 sz_cc32 sz_bb32 X426 e426 N432 Zs430 K431 f427 AK40 f428
    exact LOOP120_32 _ (1 : Int32) (own_C r338.toInt.toNat r349.toInt.toNat r360.toInt.toNat) T363 h363 _ (Nat.lt_succ_self _) (by decide) ((own_CS r338.toInt.toNat r349.toInt.toNat r360.toInt.toNat (by omega) (by omega) (by omega)).1) rfl X363 e363 N369 Zs367 K368 f364 f365 f366 AU370
set_option maxRecDepth 65536 in
set_option maxHeartbeats 40000000 in
theorem pass_24 (l : Launch) (Z : State) (a0 : Array Value) (hw : ∀ d ∈ tables_1, d.before a0 Z = true) (a1 : Addr) (w0 w1 w2 : Int64) (h0 : Heap) (n0 : Nat) (hW0 : 0 ≤ w0.toInt) (hW1 : 0 ≤ w1.toInt) (hW2 : 0 ≤ w2.toInt) {p : Program} {e : Env} {s : State} {m : MethodId} {below : List Frame} {meth : Method} {c : Code} (hret : meth.sig.returnType = some FieldType.int.array) (hZ : Z.Warmed39 s.vm) (hx : p.tables.exec = Jvm.exec) (hby : c.code = prog_51_method_4_code) (hml : c.maxLocals = 11) (hown : s.vm.findClass "com/example/prefixwood/prefixwood/huffman/TwoQueues" = some m.cls) (hlk : meth.locks = false) (bt : Int64) (hbt : bt.toBitVec = (w0.toBitVec ||| w1.toBitVec) ||| w2.toBitVec) :
    ∀ (bb24 cc24 ea24 eb24 : Addr) (yy24 : Int32) (MM24 : List Int32) (Tp_24 : State) (hp_24 : Heap) (lp_24 : List Loc), (MM24.length = 3) → (bb24 ≠ cc24) → (a1 ≠ bb24) → (a1 ≠ cc24) → (n0 ≤ bb24) → (n0 ≤ cc24) → (h0.size ≤ bb24) → (h0.size ≤ cc24) → (Stand p l e ({ frames := 1, cells := 10, slots := 2062, locals := 16 } : Room) s m #[(.ref a1)] below meth c Tp_24 lp_24 5 777) → (Tp_24.heap = hp_24) → (Fr n0 lp_24) → (n0 ≤ hp_24.size) → (Keep h0 hp_24 []) → (AJ Z hp_24 a1 [w0, w1, w2]) → (AI Z hp_24 bb24 .int (own_K w0 w1 w2 24)) → (AI Z hp_24 cc24 .int MM24) → Go p e below s ({ frames := 1, cells := 10, slots := 2062, locals := 16 } : Room).cells ({ frames := 1, cells := 10, slots := 2062, locals := 16 } : Room).slots (Q3 Z a1 w0 w1 w2 h0 n0) Tp_24 (mkF m 45 #[.val (.ref a1), .val (.ref bb24), .val (.long bt), .second, .val (.ref cc24), .val (.int (24 : Int32)), .val (.ref ea24), .val (.ref eb24), .val (.int (3 : Int32)), .val (.int (3 : Int32)), .val (.int yy24)] []) := by
  intro bb24 cc24 ea24 eb24 yy24 MM24 Tp_24 hp_24 lp_24 hM24 nbc_24 nab_24 nac_24 g_bb24 g_cc24 sz_bb24 sz_cc24 Xp_24 ep_24 Np_24 Zp_24 Kp_24 fa_24 fb_24 fc_24
  obtain ⟨x0_24, x1_24, x2_24, hk24, hX24⟩ := own_KX w0 w1 w2 24
  have AX24 : AI Z hp_24 bb24 .int [x0_24, x1_24, x2_24] := by rw [← hk24]; exact fb_24
  have hR24 := own_sixR _ _ _ _ _ _ hX24
  have hB24 := own_sixB _ _ _ _ _ _ hX24
  refine g_iload 47 Xp_24 hx (hb hby d3_45) rfl (v := (24 : Int32)) rfl ?_
  refine g_bipush 49 Xp_24 hx (hb hby d3_47) rfl (z := (64 : Int32)) rfl ?_
  refine g_icmpNo 52 Xp_24 hx (hb hby d3_49)  (tlt (by decide : (24 : Int32) < (64 : Int32))).2.1 rfl ?_
  refine g_lloadN 53 Xp_24 hx (hb hby d3_52) rfl (v := bt) rfl ?_
  refine g_iload 55 Xp_24 hx (hb hby d3_53) rfl (v := (24 : Int32)) rfl ?_
  refine g_lushr 56 Xp_24 hx (hb hby d3_55) rfl (z := ((bt.toUInt64 >>> ((24 : Int32) &&& 0x3f).toInt64.toUInt64).toInt64)) rfl ?_
  refine g_lconst 57 Xp_24 hx (hb hby d3_56) rfl (z := (0 : Int64)) rfl ?_
  by_cases hc57_432 : ((bt.toUInt64 >>> ((24 : Int32) &&& 0x3f).toInt64.toUInt64).toInt64) = (0 : Int64)
  ·
    refine g_lcmpYes 218 Xp_24 hx (hb hby d3_57) rfl (hb hby d3_58) (teqL hc57_432).1 (by decide) (by decide) ?_
    refine g_aloadN 219 Xp_24 hx (hb hby d3_218) rfl (v := (.ref bb24)) rfl rfl ?_
    have hend : own_K w0 w1 w2 24 = own_Srt w0 w1 w2 := (fun q => own_KS w0 w1 w2 24 q.1 q.2.1 q.2.2) (own_bitsL w0 w1 w2 (24 : Int32) 24 (by decide) hW0 hW1 hW2 bt hbt hc57_432)
    rw [hend] at fb_24
    exact g_retA Xp_24 hx hret hlk rfl rfl rfl (hb hby d3_219) (by decide) (by decide) (by
        show Q3 Z a1 w0 w1 w2 h0 n0 _ Tp_24.heap _
        rw [ep_24]
        exact ⟨bb24, rfl, Np_24, Kp_24, g_bb24, sz_bb24, fb_24⟩)
  ·
    refine g_lcmpNo 61 Xp_24 hx (hb hby d3_57) rfl (hb hby d3_58) (feqL hc57_432).1 rfl ?_
    refine g_sipush 64 Xp_24 hx (hb hby d3_61) rfl (z := (257 : Int32)) rfl ?_
    refine g_new_int 66 Xp_24 hx hZ (hw _ (List.mem_of_getElem? (i := 16) rfl)) ep_24 257 257 (by decide) rfl (by decide) (by decide) (by decide) (by decide) (hb hby d3_64) rfl ?_
    intro T434 h434 b434 X434 e434 E434 g434 A434
    have f435 := fa_24.ext E434
    have f436 := AX24.ext E434
    have f437 := fc_24.ext E434
    have Zs438 : n0 ≤ h434.size := (Nat.le_trans Zp_24 E434.1)
    have K439 : Keep h0 h434 [] := Kp_24.ext E434
    have g_b434 : n0 ≤ b434 := Nat.le_trans Zp_24 (Nat.le_of_eq g434.symm)
    have sz_b434 : h0.size ≤ b434 := Nat.le_trans Kp_24.1 (Nat.le_of_eq g434.symm)
    refine g_astore 68 X434 hx (hb hby d3_66) rfl (Ls' := #[.val (.ref a1), .val (.ref bb24), .val (.long bt), .second, .val (.ref cc24), .val (.int (24 : Int32)), .val (.ref b434), .val (.ref eb24), .val (.int (3 : Int32)), .val (.int (3 : Int32)), .val (.int yy24)]) rfl rfl ?_
    refine g_aloadN 69 X434 hx (hb hby d3_68) rfl (v := (.ref bb24)) rfl rfl ?_
    refine g_astore 71 X434 hx (hb hby d3_69) rfl (Ls' := #[.val (.ref a1), .val (.ref bb24), .val (.long bt), .second, .val (.ref cc24), .val (.int (24 : Int32)), .val (.ref b434), .val (.ref bb24), .val (.int (3 : Int32)), .val (.int (3 : Int32)), .val (.int yy24)]) rfl rfl ?_
    refine g_aload 73 X434 hx (hb hby d3_71) rfl (v := (.ref bb24)) rfl rfl ?_
    refine g_arraylengthI 74 X434 hx hZ e434 f436 (z := (3 : Int32)) rfl (hb hby d3_73) rfl ?_
    refine g_istore 76 X434 hx (hb hby d3_74) rfl (Ls' := #[.val (.ref a1), .val (.ref bb24), .val (.long bt), .second, .val (.ref cc24), .val (.int (24 : Int32)), .val (.ref b434), .val (.ref bb24), .val (.int (3 : Int32)), .val (.int (3 : Int32)), .val (.int yy24)]) rfl ?_
    refine g_iconst 77 X434 hx (hb hby d3_76) rfl (z := (0 : Int32)) rfl ?_
    refine g_istore 79 X434 hx (hb hby d3_77) rfl (Ls' := #[.val (.ref a1), .val (.ref bb24), .val (.long bt), .second, .val (.ref cc24), .val (.int (24 : Int32)), .val (.ref b434), .val (.ref bb24), .val (.int (3 : Int32)), .val (.int (0 : Int32)), .val (.int yy24)]) rfl ?_
    refine g_iload 81 X434 hx (hb hby d3_79) rfl (v := (0 : Int32)) rfl ?_
    refine g_iload 83 X434 hx (hb hby d3_81) rfl (v := (3 : Int32)) rfl ?_
    refine g_icmpNo 86 X434 hx (hb hby d3_83)  (tlt (by decide : (0 : Int32) < (3 : Int32))).2.1 rfl ?_
    refine g_aload 88 X434 hx (hb hby d3_86) rfl (v := (.ref bb24)) rfl rfl ?_
    refine g_iload 90 X434 hx (hb hby d3_88) rfl (v := (0 : Int32)) rfl ?_
    refine g_iaload 91 X434 hx hZ e434 f436 0 (by decide) rfl (z := x0_24) rfl (hb hby d3_90) rfl ?_
    refine g_istore 93 X434 hx (hb hby d3_91) rfl (Ls' := #[.val (.ref a1), .val (.ref bb24), .val (.long bt), .second, .val (.ref cc24), .val (.int (24 : Int32)), .val (.ref b434), .val (.ref bb24), .val (.int (3 : Int32)), .val (.int (0 : Int32)), .val (.int x0_24)]) rfl ?_
    refine g_aload 95 X434 hx (hb hby d3_93) rfl (v := (.ref b434)) rfl rfl ?_
    refine g_aloadN 96 X434 hx (hb hby d3_95) rfl (v := (.ref a1)) rfl rfl ?_
    refine g_iload 98 X434 hx (hb hby d3_96) rfl (v := x0_24) rfl ?_
    refine g_laload 99 X434 hx hZ e434 f435 (x0_24.toInt.toNat) (own_nat0 hB24.1.1) rfl (z := (([w0, w1, w2] : List Int64).getD x0_24.toInt.toNat 0)) (own_getJ (by have q := hB24.1; show _ < 3; omega)) (hb hby d3_98) rfl ?_
    refine g_iload 101 X434 hx (hb hby d3_99) rfl (v := (24 : Int32)) rfl ?_
    have hq101_hq_440 : 0 ≤ (([w0, w1, w2] : List Int64).getD x0_24.toInt.toNat 0).toInt := (own_wN w0 w1 w2 hW0 hW1 hW2 x0_24 hR24.1)
    have hq101_hp_441 : 0 ≤ (24 : Int32).toInt ∧ (24 : Int32).toInt ≤ 63 := by decide
    refine g_callS 104 X434 hx hZ (y := (⟨"com/example/prefixwood/prefixwood/huffman/TwoQueues", "digit", "(JI)I"⟩ : MethodName)) hown (hw _ (List.mem_of_getElem? (i := 17) rfl)) (hw _ (List.mem_of_getElem? (i := 18) rfl)) (hw _ (List.mem_of_getElem? (i := 4) rfl)) (hw _ (List.mem_of_getElem? (i := 19) rfl)) (by decide) e434 (rm4 l Z a0 hw [] (([w0, w1, w2] : List Int64).getD x0_24.toInt.toNat 0) (24 : Int32)  h434 n0 Zs438 hq101_hq_440 hq101_hp_441) (by rw [hml]; rfl) [(.long (([w0, w1, w2] : List Int64).getD x0_24.toInt.toNat 0)), (.int (24 : Int32))] [(.ref b434)] rfl rfl (lenOf pd_0 rfl) 1 (Nat.le_of_eq rfl) (hb hby d3_101) (by decide) (by decide) (by decide) (by decide) rfl ?_
    intro v440 T440 L440 X440 hQ440
    obtain ⟨r440, rfl, hr440, N440q, e440⟩ := hQ440
    have N440 := Fr.app Np_24 N440q
    show Go p e below s ({ frames := 1, cells := 10, slots := 2062, locals := 16 } : Room).cells ({ frames := 1, cells := 10, slots := 2062, locals := 16 } : Room).slots (Q3 Z a1 w0 w1 w2 h0 n0) T440 (mkF m 104 #[.val (.ref a1), .val (.ref bb24), .val (.long bt), .second, .val (.ref cc24), .val (.int (24 : Int32)), .val (.ref b434), .val (.ref bb24), .val (.int (3 : Int32)), .val (.int (0 : Int32)), .val (.int x0_24)] [(.int r440), (.ref b434)])
    have hD0_24 : own_dig (([w0, w1, w2] : List Int64).getD x0_24.toInt.toNat 0) 24 r440 := hr440
    have hE0_24 := own_dgB _ _ _ hD0_24
    refine g_iconst 105 X440 hx (hb hby d3_104) rfl (z := (1 : Int32)) rfl ?_
    refine g_iadd 106 X440 hx (hb hby d3_105) rfl (z := (r440 + (1 : Int32))) rfl ?_
    refine g_dup2 107 X440 hx (hb hby d3_106) rfl rfl rfl ?_
    refine g_iaload 108 X440 hx hZ e440 A434 (r440.toInt.toNat + 1) (own_nat0 (by have q := hE0_24; rw [own_inc (by omega)]; omega)) (by have q := hE0_24; show (Int32.toInt _).toNat = _; rw [own_inc (by omega)]; omega) (z := ((List.replicate 257 (0 : Int32)).getD (r440.toInt.toNat + 1) 0)) (own_get (by have q := hE0_24; simp only [own_upl, List.length_replicate]; omega)) (hb hby d3_107) rfl ?_
    refine g_iconst 109 X440 hx (hb hby d3_108) rfl (z := (1 : Int32)) rfl ?_
    refine g_iadd 110 X440 hx (hb hby d3_109) rfl (z := (((List.replicate 257 (0 : Int32)).getD (r440.toInt.toNat + 1) 0) + (1 : Int32))) rfl ?_
    refine g_iastore 111 X440 hx hZ e440 A434 (r440.toInt.toNat + 1) (own_nat0 (by have q := hE0_24; rw [own_inc (by omega)]; omega)) (by have q := hE0_24; show (Int32.toInt _).toNat = _; rw [own_inc (by omega)]; omega) (by have q := hE0_24; simp only [own_upl, List.length_replicate]; omega) (z := (((List.replicate 257 (0 : Int32)).getD (r440.toInt.toNat + 1) 0) + (1 : Int32))) rfl (hb hby d3_110) rfl ?_
    intro T443 h443 X443 e443 W443 A443
    have f444 := f435.other W443 (Nat.ne_of_lt (Nat.lt_of_lt_of_le fa_24.lt (Nat.le_of_eq g434.symm)))
    have f445 := f436.other W443 (Nat.ne_of_lt (Nat.lt_of_lt_of_le AX24.lt (Nat.le_of_eq g434.symm)))
    have f446 := f437.other W443 (Nat.ne_of_lt (Nat.lt_of_lt_of_le fc_24.lt (Nat.le_of_eq g434.symm)))
    have Zs447 : n0 ≤ h443.size := (Nat.le_trans Zs438 (Keep.of_wr W443).1)
    have K448 : Keep h0 h443 [] := K439.wr W443 (Or.inr sz_b434)
    have N449 := Fr.snoc X443 N440 g_b434
    have AU450 : AI Z h443 b434 .int (own_up (List.replicate 257 (0 : Int32)) (r440.toInt.toNat + 1)) := A443
    refine g_iinc 114 X443 hx (hb hby d3_111) rfl (x := (0 : Int32)) rfl (z := (1 : Int32)) (by decide) (Ls' := #[.val (.ref a1), .val (.ref bb24), .val (.long bt), .second, .val (.ref cc24), .val (.int (24 : Int32)), .val (.ref b434), .val (.ref bb24), .val (.int (3 : Int32)), .val (.int (1 : Int32)), .val (.int x0_24)]) rfl ?_
    refine g_goto 79 X443 hx (hb hby d3_114) (by decide) (by decide) ?_
    refine g_iload 81 X443 hx (hb hby d3_79) rfl (v := (1 : Int32)) rfl ?_
    refine g_iload 83 X443 hx (hb hby d3_81) rfl (v := (3 : Int32)) rfl ?_
    refine g_icmpNo 86 X443 hx (hb hby d3_83)  (tlt (by decide : (1 : Int32) < (3 : Int32))).2.1 rfl ?_
    refine g_aload 88 X443 hx (hb hby d3_86) rfl (v := (.ref bb24)) rfl rfl ?_
    refine g_iload 90 X443 hx (hb hby d3_88) rfl (v := (1 : Int32)) rfl ?_
    refine g_iaload 91 X443 hx hZ e443 f445 1 (by decide) rfl (z := x1_24) rfl (hb hby d3_90) rfl ?_
    refine g_istore 93 X443 hx (hb hby d3_91) rfl (Ls' := #[.val (.ref a1), .val (.ref bb24), .val (.long bt), .second, .val (.ref cc24), .val (.int (24 : Int32)), .val (.ref b434), .val (.ref bb24), .val (.int (3 : Int32)), .val (.int (1 : Int32)), .val (.int x1_24)]) rfl ?_
    refine g_aload 95 X443 hx (hb hby d3_93) rfl (v := (.ref b434)) rfl rfl ?_
    refine g_aloadN 96 X443 hx (hb hby d3_95) rfl (v := (.ref a1)) rfl rfl ?_
    refine g_iload 98 X443 hx (hb hby d3_96) rfl (v := x1_24) rfl ?_
    refine g_laload 99 X443 hx hZ e443 f444 (x1_24.toInt.toNat) (own_nat0 hB24.2.1.1) rfl (z := (([w0, w1, w2] : List Int64).getD x1_24.toInt.toNat 0)) (own_getJ (by have q := hB24.2.1; show _ < 3; omega)) (hb hby d3_98) rfl ?_
    refine g_iload 101 X443 hx (hb hby d3_99) rfl (v := (24 : Int32)) rfl ?_
    have hq101_hq_451 : 0 ≤ (([w0, w1, w2] : List Int64).getD x1_24.toInt.toNat 0).toInt := (own_wN w0 w1 w2 hW0 hW1 hW2 x1_24 hR24.2.1)
    have hq101_hp_452 : 0 ≤ (24 : Int32).toInt ∧ (24 : Int32).toInt ≤ 63 := by decide
    refine g_callS 104 X443 hx hZ (y := (⟨"com/example/prefixwood/prefixwood/huffman/TwoQueues", "digit", "(JI)I"⟩ : MethodName)) hown (hw _ (List.mem_of_getElem? (i := 17) rfl)) (hw _ (List.mem_of_getElem? (i := 18) rfl)) (hw _ (List.mem_of_getElem? (i := 4) rfl)) (hw _ (List.mem_of_getElem? (i := 19) rfl)) (by decide) e443 (rm4 l Z a0 hw [] (([w0, w1, w2] : List Int64).getD x1_24.toInt.toNat 0) (24 : Int32)  h443 n0 Zs447 hq101_hq_451 hq101_hp_452) (by rw [hml]; rfl) [(.long (([w0, w1, w2] : List Int64).getD x1_24.toInt.toNat 0)), (.int (24 : Int32))] [(.ref b434)] rfl rfl (lenOf pd_0 rfl) 1 (Nat.le_of_eq rfl) (hb hby d3_101) (by decide) (by decide) (by decide) (by decide) rfl ?_
    intro v451 T451 L451 X451 hQ451
    obtain ⟨r451, rfl, hr451, N451q, e451⟩ := hQ451
    have N451 := Fr.app N449 N451q
    show Go p e below s ({ frames := 1, cells := 10, slots := 2062, locals := 16 } : Room).cells ({ frames := 1, cells := 10, slots := 2062, locals := 16 } : Room).slots (Q3 Z a1 w0 w1 w2 h0 n0) T451 (mkF m 104 #[.val (.ref a1), .val (.ref bb24), .val (.long bt), .second, .val (.ref cc24), .val (.int (24 : Int32)), .val (.ref b434), .val (.ref bb24), .val (.int (3 : Int32)), .val (.int (1 : Int32)), .val (.int x1_24)] [(.int r451), (.ref b434)])
    have hD1_24 : own_dig (([w0, w1, w2] : List Int64).getD x1_24.toInt.toNat 0) 24 r451 := hr451
    have hE1_24 := own_dgB _ _ _ hD1_24
    refine g_iconst 105 X451 hx (hb hby d3_104) rfl (z := (1 : Int32)) rfl ?_
    refine g_iadd 106 X451 hx (hb hby d3_105) rfl (z := (r451 + (1 : Int32))) rfl ?_
    refine g_dup2 107 X451 hx (hb hby d3_106) rfl rfl rfl ?_
    refine g_iaload 108 X451 hx hZ e451 AU450 (r451.toInt.toNat + 1) (own_nat0 (by have q := hE1_24; rw [own_inc (by omega)]; omega)) (by have q := hE1_24; show (Int32.toInt _).toNat = _; rw [own_inc (by omega)]; omega) (z := ((own_up (List.replicate 257 (0 : Int32)) (r440.toInt.toNat + 1)).getD (r451.toInt.toNat + 1) 0)) (own_get (by have q := hE1_24; simp only [own_upl, List.length_replicate]; omega)) (hb hby d3_107) rfl ?_
    refine g_iconst 109 X451 hx (hb hby d3_108) rfl (z := (1 : Int32)) rfl ?_
    refine g_iadd 110 X451 hx (hb hby d3_109) rfl (z := (((own_up (List.replicate 257 (0 : Int32)) (r440.toInt.toNat + 1)).getD (r451.toInt.toNat + 1) 0) + (1 : Int32))) rfl ?_
    refine g_iastore 111 X451 hx hZ e451 AU450 (r451.toInt.toNat + 1) (own_nat0 (by have q := hE1_24; rw [own_inc (by omega)]; omega)) (by have q := hE1_24; show (Int32.toInt _).toNat = _; rw [own_inc (by omega)]; omega) (by have q := hE1_24; simp only [own_upl, List.length_replicate]; omega) (z := (((own_up (List.replicate 257 (0 : Int32)) (r440.toInt.toNat + 1)).getD (r451.toInt.toNat + 1) 0) + (1 : Int32))) rfl (hb hby d3_110) rfl ?_
    intro T454 h454 X454 e454 W454 A454
    have f455 := f444.other W454 (Nat.ne_of_lt (Nat.lt_of_lt_of_le fa_24.lt (Nat.le_of_eq g434.symm)))
    have f456 := f445.other W454 (Nat.ne_of_lt (Nat.lt_of_lt_of_le AX24.lt (Nat.le_of_eq g434.symm)))
    have f457 := f446.other W454 (Nat.ne_of_lt (Nat.lt_of_lt_of_le fc_24.lt (Nat.le_of_eq g434.symm)))
    have Zs458 : n0 ≤ h454.size := (Nat.le_trans Zs447 (Keep.of_wr W454).1)
    have K459 : Keep h0 h454 [] := K448.wr W454 (Or.inr sz_b434)
    have N460 := Fr.snoc X454 N451 g_b434
    have AU461 : AI Z h454 b434 .int (own_up (own_up (List.replicate 257 (0 : Int32)) (r440.toInt.toNat + 1)) (r451.toInt.toNat + 1)) := A454
    refine g_iinc 114 X454 hx (hb hby d3_111) rfl (x := (1 : Int32)) rfl (z := (2 : Int32)) (by decide) (Ls' := #[.val (.ref a1), .val (.ref bb24), .val (.long bt), .second, .val (.ref cc24), .val (.int (24 : Int32)), .val (.ref b434), .val (.ref bb24), .val (.int (3 : Int32)), .val (.int (2 : Int32)), .val (.int x1_24)]) rfl ?_
    refine g_goto 79 X454 hx (hb hby d3_114) (by decide) (by decide) ?_
    refine g_iload 81 X454 hx (hb hby d3_79) rfl (v := (2 : Int32)) rfl ?_
    refine g_iload 83 X454 hx (hb hby d3_81) rfl (v := (3 : Int32)) rfl ?_
    refine g_icmpNo 86 X454 hx (hb hby d3_83)  (tlt (by decide : (2 : Int32) < (3 : Int32))).2.1 rfl ?_
    refine g_aload 88 X454 hx (hb hby d3_86) rfl (v := (.ref bb24)) rfl rfl ?_
    refine g_iload 90 X454 hx (hb hby d3_88) rfl (v := (2 : Int32)) rfl ?_
    refine g_iaload 91 X454 hx hZ e454 f456 2 (by decide) rfl (z := x2_24) rfl (hb hby d3_90) rfl ?_
    refine g_istore 93 X454 hx (hb hby d3_91) rfl (Ls' := #[.val (.ref a1), .val (.ref bb24), .val (.long bt), .second, .val (.ref cc24), .val (.int (24 : Int32)), .val (.ref b434), .val (.ref bb24), .val (.int (3 : Int32)), .val (.int (2 : Int32)), .val (.int x2_24)]) rfl ?_
    refine g_aload 95 X454 hx (hb hby d3_93) rfl (v := (.ref b434)) rfl rfl ?_
    refine g_aloadN 96 X454 hx (hb hby d3_95) rfl (v := (.ref a1)) rfl rfl ?_
    refine g_iload 98 X454 hx (hb hby d3_96) rfl (v := x2_24) rfl ?_
    refine g_laload 99 X454 hx hZ e454 f455 (x2_24.toInt.toNat) (own_nat0 hB24.2.2.1) rfl (z := (([w0, w1, w2] : List Int64).getD x2_24.toInt.toNat 0)) (own_getJ (by have q := hB24.2.2; show _ < 3; omega)) (hb hby d3_98) rfl ?_
    refine g_iload 101 X454 hx (hb hby d3_99) rfl (v := (24 : Int32)) rfl ?_
    have hq101_hq_462 : 0 ≤ (([w0, w1, w2] : List Int64).getD x2_24.toInt.toNat 0).toInt := (own_wN w0 w1 w2 hW0 hW1 hW2 x2_24 hR24.2.2)
    have hq101_hp_463 : 0 ≤ (24 : Int32).toInt ∧ (24 : Int32).toInt ≤ 63 := by decide
    refine g_callS 104 X454 hx hZ (y := (⟨"com/example/prefixwood/prefixwood/huffman/TwoQueues", "digit", "(JI)I"⟩ : MethodName)) hown (hw _ (List.mem_of_getElem? (i := 17) rfl)) (hw _ (List.mem_of_getElem? (i := 18) rfl)) (hw _ (List.mem_of_getElem? (i := 4) rfl)) (hw _ (List.mem_of_getElem? (i := 19) rfl)) (by decide) e454 (rm4 l Z a0 hw [] (([w0, w1, w2] : List Int64).getD x2_24.toInt.toNat 0) (24 : Int32)  h454 n0 Zs458 hq101_hq_462 hq101_hp_463) (by rw [hml]; rfl) [(.long (([w0, w1, w2] : List Int64).getD x2_24.toInt.toNat 0)), (.int (24 : Int32))] [(.ref b434)] rfl rfl (lenOf pd_0 rfl) 1 (Nat.le_of_eq rfl) (hb hby d3_101) (by decide) (by decide) (by decide) (by decide) rfl ?_
    intro v462 T462 L462 X462 hQ462
    obtain ⟨r462, rfl, hr462, N462q, e462⟩ := hQ462
    have N462 := Fr.app N460 N462q
    show Go p e below s ({ frames := 1, cells := 10, slots := 2062, locals := 16 } : Room).cells ({ frames := 1, cells := 10, slots := 2062, locals := 16 } : Room).slots (Q3 Z a1 w0 w1 w2 h0 n0) T462 (mkF m 104 #[.val (.ref a1), .val (.ref bb24), .val (.long bt), .second, .val (.ref cc24), .val (.int (24 : Int32)), .val (.ref b434), .val (.ref bb24), .val (.int (3 : Int32)), .val (.int (2 : Int32)), .val (.int x2_24)] [(.int r462), (.ref b434)])
    have hD2_24 : own_dig (([w0, w1, w2] : List Int64).getD x2_24.toInt.toNat 0) 24 r462 := hr462
    have hE2_24 := own_dgB _ _ _ hD2_24
    refine g_iconst 105 X462 hx (hb hby d3_104) rfl (z := (1 : Int32)) rfl ?_
    refine g_iadd 106 X462 hx (hb hby d3_105) rfl (z := (r462 + (1 : Int32))) rfl ?_
    refine g_dup2 107 X462 hx (hb hby d3_106) rfl rfl rfl ?_
    refine g_iaload 108 X462 hx hZ e462 AU461 (r462.toInt.toNat + 1) (own_nat0 (by have q := hE2_24; rw [own_inc (by omega)]; omega)) (by have q := hE2_24; show (Int32.toInt _).toNat = _; rw [own_inc (by omega)]; omega) (z := ((own_up (own_up (List.replicate 257 (0 : Int32)) (r440.toInt.toNat + 1)) (r451.toInt.toNat + 1)).getD (r462.toInt.toNat + 1) 0)) (own_get (by have q := hE2_24; simp only [own_upl, List.length_replicate]; omega)) (hb hby d3_107) rfl ?_
    refine g_iconst 109 X462 hx (hb hby d3_108) rfl (z := (1 : Int32)) rfl ?_
    refine g_iadd 110 X462 hx (hb hby d3_109) rfl (z := (((own_up (own_up (List.replicate 257 (0 : Int32)) (r440.toInt.toNat + 1)) (r451.toInt.toNat + 1)).getD (r462.toInt.toNat + 1) 0) + (1 : Int32))) rfl ?_
    refine g_iastore 111 X462 hx hZ e462 AU461 (r462.toInt.toNat + 1) (own_nat0 (by have q := hE2_24; rw [own_inc (by omega)]; omega)) (by have q := hE2_24; show (Int32.toInt _).toNat = _; rw [own_inc (by omega)]; omega) (by have q := hE2_24; simp only [own_upl, List.length_replicate]; omega) (z := (((own_up (own_up (List.replicate 257 (0 : Int32)) (r440.toInt.toNat + 1)) (r451.toInt.toNat + 1)).getD (r462.toInt.toNat + 1) 0) + (1 : Int32))) rfl (hb hby d3_110) rfl ?_
    intro T465 h465 X465 e465 W465 A465
    have f466 := f455.other W465 (Nat.ne_of_lt (Nat.lt_of_lt_of_le fa_24.lt (Nat.le_of_eq g434.symm)))
    have f467 := f456.other W465 (Nat.ne_of_lt (Nat.lt_of_lt_of_le AX24.lt (Nat.le_of_eq g434.symm)))
    have f468 := f457.other W465 (Nat.ne_of_lt (Nat.lt_of_lt_of_le fc_24.lt (Nat.le_of_eq g434.symm)))
    have Zs469 : n0 ≤ h465.size := (Nat.le_trans Zs458 (Keep.of_wr W465).1)
    have K470 : Keep h0 h465 [] := K459.wr W465 (Or.inr sz_b434)
    have N471 := Fr.snoc X465 N462 g_b434
    have AU472 : AI Z h465 b434 .int (own_up (own_up (own_up (List.replicate 257 (0 : Int32)) (r440.toInt.toNat + 1)) (r451.toInt.toNat + 1)) (r462.toInt.toNat + 1)) := A465
    refine g_iinc 114 X465 hx (hb hby d3_111) rfl (x := (2 : Int32)) rfl (z := (3 : Int32)) (by decide) (Ls' := #[.val (.ref a1), .val (.ref bb24), .val (.long bt), .second, .val (.ref cc24), .val (.int (24 : Int32)), .val (.ref b434), .val (.ref bb24), .val (.int (3 : Int32)), .val (.int (3 : Int32)), .val (.int x2_24)]) rfl ?_
    refine g_goto 79 X465 hx (hb hby d3_114) (by decide) (by decide) ?_
    refine g_iload 81 X465 hx (hb hby d3_79) rfl (v := (3 : Int32)) rfl ?_
    refine g_iload 83 X465 hx (hb hby d3_81) rfl (v := (3 : Int32)) rfl ?_
    refine g_icmpYes 117 X465 hx (hb hby d3_83)  (flt (Int32.lt_irrefl)).2.1 (by decide) (by decide) ?_
    refine g_iconst 118 X465 hx (hb hby d3_117) rfl (z := (1 : Int32)) rfl ?_
    refine g_istore 120 X465 hx (hb hby d3_118) rfl (Ls' := #[.val (.ref a1), .val (.ref bb24), .val (.long bt), .second, .val (.ref cc24), .val (.int (24 : Int32)), .val (.ref b434), .val (.int (1 : Int32)), .val (.int (3 : Int32)), .val (.int (3 : Int32)), .val (.int x2_24)]) rfl ?_
    have LOOP120_24 : ∀ (fuel_24 : Nat) (lv24 : Int32) (gF24 : List Int32) (Tl_24 : State) (hl_24 : Heap) (lo_24 : List Loc), (257 - lv24.toInt).toNat < fuel_24 → (1 ≤ lv24.toInt ∧ lv24.toInt ≤ 257) → (gF24.length = 257) → (own_pfx (257 - lv24.toInt).toNat lv24.toInt.toNat gF24 = own_pfx 256 1 (own_C r440.toInt.toNat r451.toInt.toNat r462.toInt.toNat)) → (Stand p l e ({ frames := 1, cells := 10, slots := 2062, locals := 16 } : Room) s m #[(.ref a1)] below meth c Tl_24 lo_24 6 1034) → (Tl_24.heap = hl_24) → (Fr n0 lo_24) → (n0 ≤ hl_24.size) → (Keep h0 hl_24 []) → (AJ Z hl_24 a1 [w0, w1, w2]) → (AI Z hl_24 bb24 .int [x0_24, x1_24, x2_24]) → (AI Z hl_24 cc24 .int MM24) → (AI Z hl_24 b434 .int gF24) → Go p e below s ({ frames := 1, cells := 10, slots := 2062, locals := 16 } : Room).cells ({ frames := 1, cells := 10, slots := 2062, locals := 16 } : Room).slots (Q3 Z a1 w0 w1 w2 h0 n0) Tl_24 (mkF m 120 #[.val (.ref a1), .val (.ref bb24), .val (.long bt), .second, .val (.ref cc24), .val (.int (24 : Int32)), .val (.ref b434), .val (.int lv24), .val (.int (3 : Int32)), .val (.int (3 : Int32)), .val (.int x2_24)] []) := by
      intro fuel_24
      induction fuel_24 with
      | zero => intro lv24 gF24 Tl_24 hl_24 lo_24 hm; exact absurd hm (Nat.not_lt_zero _)
      | succ fuel_24 ih_24 =>
        intro lv24 gF24 Tl_24 hl_24 lo_24 hm_24 hv24 hgl24 hgF24 Xl_24 el_24 Nl_24 Zl_24 Kl_24 fl_24_0 fl_24_1 fl_24_2 fl_24_3
        refine g_iload 122 Xl_24 hx (hb hby d3_120) rfl (v := lv24) rfl ?_
        refine g_aload 124 Xl_24 hx (hb hby d3_122) rfl (v := (.ref b434)) rfl rfl ?_
        refine g_arraylengthI 125 Xl_24 hx hZ el_24 fl_24_3 (z := (257 : Int32)) (by rw [hgl24]; rfl) (hb hby d3_124) rfl ?_
        by_cases hc125_472 : lv24 < (257 : Int32)
        ·
          refine g_icmpNo 128 Xl_24 hx (hb hby d3_125)  (tlt hc125_472).2.1 rfl ?_
          refine g_aload 130 Xl_24 hx (hb hby d3_128) rfl (v := (.ref b434)) rfl rfl ?_
          refine g_iload 132 Xl_24 hx (hb hby d3_130) rfl (v := lv24) rfl ?_
          refine g_dup2 133 Xl_24 hx (hb hby d3_132) rfl rfl rfl ?_
          refine g_iaload 134 Xl_24 hx hZ el_24 fl_24_3 (lv24.toInt.toNat) (own_nat0 (by omega)) rfl (z := (gF24.getD lv24.toInt.toNat 0)) (own_get (by have q := Int32.lt_iff_toInt_lt.mp hc125_472; simp only [Int32.reduceToInt] at q; rw [hgl24]; omega)) (hb hby d3_133) rfl ?_
          refine g_aload 136 Xl_24 hx (hb hby d3_134) rfl (v := (.ref b434)) rfl rfl ?_
          refine g_iload 138 Xl_24 hx (hb hby d3_136) rfl (v := lv24) rfl ?_
          refine g_iconst 139 Xl_24 hx (hb hby d3_138) rfl (z := (1 : Int32)) rfl ?_
          refine g_isub 140 Xl_24 hx (hb hby d3_139) rfl (z := (lv24 - (1 : Int32))) rfl ?_
          refine g_iaload 141 Xl_24 hx hZ el_24 fl_24_3 (lv24.toInt.toNat - 1) (own_nat0 (by have q := Int32.lt_iff_toInt_lt.mp hc125_472; simp only [Int32.reduceToInt] at q; rw [own_dec1 (by omega)]; omega)) (by have q := Int32.lt_iff_toInt_lt.mp hc125_472; simp only [Int32.reduceToInt] at q; show (Int32.toInt _).toNat = _; rw [own_dec1 (by omega)]; omega) (z := (gF24.getD (lv24.toInt.toNat - 1) 0)) (own_get (by have q := Int32.lt_iff_toInt_lt.mp hc125_472; simp only [Int32.reduceToInt] at q; rw [hgl24]; omega)) (hb hby d3_140) rfl ?_
          refine g_iadd 142 Xl_24 hx (hb hby d3_141) rfl (z := ((gF24.getD lv24.toInt.toNat 0) + (gF24.getD (lv24.toInt.toNat - 1) 0))) rfl ?_
          refine g_iastore 143 Xl_24 hx hZ el_24 fl_24_3 (lv24.toInt.toNat) (own_nat0 (by omega)) rfl (by have q := Int32.lt_iff_toInt_lt.mp hc125_472; simp only [Int32.reduceToInt] at q; rw [hgl24]; omega) (z := ((gF24.getD lv24.toInt.toNat 0) + (gF24.getD (lv24.toInt.toNat - 1) 0))) rfl (hb hby d3_142) rfl ?_
          intro T474 h474 X474 e474 W474 A474
          have f475 := fl_24_0.other W474 (Nat.ne_of_lt (Nat.lt_of_lt_of_le fa_24.lt (Nat.le_of_eq g434.symm)))
          have f476 := fl_24_1.other W474 (Nat.ne_of_lt (Nat.lt_of_lt_of_le AX24.lt (Nat.le_of_eq g434.symm)))
          have f477 := fl_24_2.other W474 (Nat.ne_of_lt (Nat.lt_of_lt_of_le fc_24.lt (Nat.le_of_eq g434.symm)))
          have Zs478 : n0 ≤ h474.size := (Nat.le_trans Zl_24 (Keep.of_wr W474).1)
          have K479 : Keep h0 h474 [] := Kl_24.wr W474 (Or.inr sz_b434)
          have N480 := Fr.snoc X474 Nl_24 g_b434
          refine g_iinc 146 X474 hx (hb hby d3_143) rfl (x := lv24) rfl (z := (lv24 + (1 : Int32))) rfl (Ls' := #[.val (.ref a1), .val (.ref bb24), .val (.long bt), .second, .val (.ref cc24), .val (.int (24 : Int32)), .val (.ref b434), .val (.int (lv24 + (1 : Int32))), .val (.int (3 : Int32)), .val (.int (3 : Int32)), .val (.int x2_24)]) rfl ?_
          refine g_goto 120 X474 hx (hb hby d3_146) (by decide) (by decide) ?_
          exact ih_24 (lv24 + (1 : Int32)) (List.set gF24 (lv24.toInt.toNat) ((gF24.getD lv24.toInt.toNat 0) + (gF24.getD (lv24.toInt.toNat - 1) 0))) T474 h474 _ (by have q := Int32.lt_iff_toInt_lt.mp hc125_472; simp only [Int32.reduceToInt] at q; rw [own_inc (by omega)]; omega) (by have q := Int32.lt_iff_toInt_lt.mp hc125_472; simp only [Int32.reduceToInt] at q; rw [own_inc (by omega)]; omega) (by rw [List.length_set]; exact hgl24) (own_pfxstep lv24 gF24 _ (by have q := Int32.lt_iff_toInt_lt.mp hc125_472; simp only [Int32.reduceToInt] at q; omega) hgF24) X474 e474 N480 Zs478 K479 f475 f476 f477 A474
        ·
          refine g_icmpYes 149 Xl_24 hx (hb hby d3_125)  (flt hc125_472).2.1 (by decide) (by decide) ?_
          have hG24 : gF24 = own_pfx 256 1 (own_C r440.toInt.toNat r451.toInt.toNat r462.toInt.toNat) := by have q := mt Int32.lt_iff_toInt_lt.mpr hc125_472; simp only [Int32.reduceToInt] at q; rw [← hgF24, show (257 - lv24.toInt).toNat = 0 by omega]; rfl
          have hH24 := own_PS r440.toInt.toNat r451.toInt.toNat r462.toInt.toNat (by omega) (by omega) (by omega)
          rw [← hG24] at hH24
          have hQ24_ := own_qs gF24 r440.toInt.toNat r451.toInt.toNat r462.toInt.toNat (by omega) (by omega) (by omega) hH24
          have hq24_ := own_qB r440.toInt.toNat r451.toInt.toNat r462.toInt.toNat
          refine g_aloadN 150 Xl_24 hx (hb hby d3_149) rfl (v := (.ref bb24)) rfl rfl ?_
          refine g_astore 152 Xl_24 hx (hb hby d3_150) rfl (Ls' := #[.val (.ref a1), .val (.ref bb24), .val (.long bt), .second, .val (.ref cc24), .val (.int (24 : Int32)), .val (.ref b434), .val (.ref bb24), .val (.int (3 : Int32)), .val (.int (3 : Int32)), .val (.int x2_24)]) rfl rfl ?_
          refine g_aload 154 Xl_24 hx (hb hby d3_152) rfl (v := (.ref bb24)) rfl rfl ?_
          refine g_arraylengthI 155 Xl_24 hx hZ el_24 fl_24_1 (z := (3 : Int32)) rfl (hb hby d3_154) rfl ?_
          refine g_istore 157 Xl_24 hx (hb hby d3_155) rfl (Ls' := #[.val (.ref a1), .val (.ref bb24), .val (.long bt), .second, .val (.ref cc24), .val (.int (24 : Int32)), .val (.ref b434), .val (.ref bb24), .val (.int (3 : Int32)), .val (.int (3 : Int32)), .val (.int x2_24)]) rfl ?_
          refine g_iconst 158 Xl_24 hx (hb hby d3_157) rfl (z := (0 : Int32)) rfl ?_
          refine g_istore 160 Xl_24 hx (hb hby d3_158) rfl (Ls' := #[.val (.ref a1), .val (.ref bb24), .val (.long bt), .second, .val (.ref cc24), .val (.int (24 : Int32)), .val (.ref b434), .val (.ref bb24), .val (.int (3 : Int32)), .val (.int (0 : Int32)), .val (.int x2_24)]) rfl ?_
          refine g_iload 162 Xl_24 hx (hb hby d3_160) rfl (v := (0 : Int32)) rfl ?_
          refine g_iload 164 Xl_24 hx (hb hby d3_162) rfl (v := (3 : Int32)) rfl ?_
          refine g_icmpNo 167 Xl_24 hx (hb hby d3_164)  (tlt (by decide : (0 : Int32) < (3 : Int32))).2.1 rfl ?_
          refine g_aload 169 Xl_24 hx (hb hby d3_167) rfl (v := (.ref bb24)) rfl rfl ?_
          refine g_iload 171 Xl_24 hx (hb hby d3_169) rfl (v := (0 : Int32)) rfl ?_
          refine g_iaload 172 Xl_24 hx hZ el_24 fl_24_1 0 (by decide) rfl (z := x0_24) rfl (hb hby d3_171) rfl ?_
          refine g_istore 174 Xl_24 hx (hb hby d3_172) rfl (Ls' := #[.val (.ref a1), .val (.ref bb24), .val (.long bt), .second, .val (.ref cc24), .val (.int (24 : Int32)), .val (.ref b434), .val (.ref bb24), .val (.int (3 : Int32)), .val (.int (0 : Int32)), .val (.int x0_24)]) rfl ?_
          refine g_aload 176 Xl_24 hx (hb hby d3_174) rfl (v := (.ref cc24)) rfl rfl ?_
          refine g_aload 178 Xl_24 hx (hb hby d3_176) rfl (v := (.ref b434)) rfl rfl ?_
          refine g_aloadN 179 Xl_24 hx (hb hby d3_178) rfl (v := (.ref a1)) rfl rfl ?_
          refine g_iload 181 Xl_24 hx (hb hby d3_179) rfl (v := x0_24) rfl ?_
          refine g_laload 182 Xl_24 hx hZ el_24 fl_24_0 (x0_24.toInt.toNat) (own_nat0 hB24.1.1) rfl (z := (([w0, w1, w2] : List Int64).getD x0_24.toInt.toNat 0)) (own_getJ (by have q := hB24.1; show _ < 3; omega)) (hb hby d3_181) rfl ?_
          refine g_iload 184 Xl_24 hx (hb hby d3_182) rfl (v := (24 : Int32)) rfl ?_
          have hq184_hq_481 : 0 ≤ (([w0, w1, w2] : List Int64).getD x0_24.toInt.toNat 0).toInt := (own_wN w0 w1 w2 hW0 hW1 hW2 x0_24 hR24.1)
          have hq184_hp_482 : 0 ≤ (24 : Int32).toInt ∧ (24 : Int32).toInt ≤ 63 := by decide
          refine g_callS 187 Xl_24 hx hZ (y := (⟨"com/example/prefixwood/prefixwood/huffman/TwoQueues", "digit", "(JI)I"⟩ : MethodName)) hown (hw _ (List.mem_of_getElem? (i := 17) rfl)) (hw _ (List.mem_of_getElem? (i := 18) rfl)) (hw _ (List.mem_of_getElem? (i := 4) rfl)) (hw _ (List.mem_of_getElem? (i := 19) rfl)) (by decide) el_24 (rm4 l Z a0 hw [] (([w0, w1, w2] : List Int64).getD x0_24.toInt.toNat 0) (24 : Int32)  hl_24 n0 Zl_24 hq184_hq_481 hq184_hp_482) (by rw [hml]; rfl) [(.long (([w0, w1, w2] : List Int64).getD x0_24.toInt.toNat 0)), (.int (24 : Int32))] [(.ref b434), (.ref cc24)] rfl rfl (lenOf pd_0 rfl) 2 (Nat.le_of_eq rfl) (hb hby d3_184) (by decide) (by decide) (by decide) (by decide) rfl ?_
          intro v481 T481 L481 X481 hQ481
          obtain ⟨r481, rfl, hr481, N481q, e481⟩ := hQ481
          have N481 := Fr.app Nl_24 N481q
          show Go p e below s ({ frames := 1, cells := 10, slots := 2062, locals := 16 } : Room).cells ({ frames := 1, cells := 10, slots := 2062, locals := 16 } : Room).slots (Q3 Z a1 w0 w1 w2 h0 n0) T481 (mkF m 187 #[.val (.ref a1), .val (.ref bb24), .val (.long bt), .second, .val (.ref cc24), .val (.int (24 : Int32)), .val (.ref b434), .val (.ref bb24), .val (.int (3 : Int32)), .val (.int (0 : Int32)), .val (.int x0_24)] [(.int r481), (.ref b434), (.ref cc24)])
          have hs0_24 : r440 = r481 := own_z _ ((hD0_24 : _ = _).trans (hr481 : _ = _).symm)
          subst hs0_24
          refine g_dup2 188 X481 hx (hb hby d3_187) rfl rfl rfl ?_
          refine g_iaload 189 X481 hx hZ e481 fl_24_3 (r440.toInt.toNat) (own_nat0 (by omega)) rfl (z := (gF24.getD r440.toInt.toNat 0)) (own_get (by first | (simp only [own_upl]; rw [hgl24]; omega) | (rw [hgl24]; omega))) (hb hby d3_188) rfl ?_
          refine g_dup_x2 190 X481 hx (hb hby d3_189) rfl rfl rfl rfl ?_
          refine g_iconst 191 X481 hx (hb hby d3_190) rfl (z := (1 : Int32)) rfl ?_
          refine g_iadd 192 X481 hx (hb hby d3_191) rfl (z := ((gF24.getD r440.toInt.toNat 0) + (1 : Int32))) rfl ?_
          refine g_iastore 193 X481 hx hZ e481 fl_24_3 (r440.toInt.toNat) (own_nat0 (by omega)) rfl (by first | (simp only [own_upl]; rw [hgl24]; omega) | (rw [hgl24]; omega)) (z := ((gF24.getD r440.toInt.toNat 0) + (1 : Int32))) rfl (hb hby d3_192) rfl ?_
          intro T484 h484 X484 e484 W484 A484
          have f485 := fl_24_0.other W484 (Nat.ne_of_lt (Nat.lt_of_lt_of_le fa_24.lt (Nat.le_of_eq g434.symm)))
          have f486 := fl_24_1.other W484 (Nat.ne_of_lt (Nat.lt_of_lt_of_le AX24.lt (Nat.le_of_eq g434.symm)))
          have f487 := fl_24_2.other W484 (Nat.ne_of_lt (Nat.lt_of_lt_of_le fc_24.lt (Nat.le_of_eq g434.symm)))
          have Zs488 : n0 ≤ h484.size := (Nat.le_trans Zl_24 (Keep.of_wr W484).1)
          have K489 : Keep h0 h484 [] := Kl_24.wr W484 (Or.inr sz_b434)
          have N490 := Fr.snoc X484 N481 g_b434
          have AV491 : AI Z h484 b434 .int (own_up gF24 r440.toInt.toNat) := A484
          refine g_iload 195 X484 hx (hb hby d3_193) rfl (v := x0_24) rfl ?_
          refine g_iastore 196 X484 hx hZ e484 f487 (own_q0 r440.toInt.toNat r451.toInt.toNat r462.toInt.toNat) (own_nat0 (by rw [hQ24_.1]; exact Int.natCast_nonneg _)) (by show (Int32.toInt _).toNat = _; rw [hQ24_.1]; rfl) (by have q := hq24_.1; rw [hM24]; omega) (z := x0_24) rfl (hb hby d3_195) rfl ?_
          intro T492 h492 X492 e492 W492 A492
          have f493 := f485.other W492 nac_24
          have f494 := f486.other W492 nbc_24
          have f495 := AV491.other W492 (Ne.symm (Nat.ne_of_lt (Nat.lt_of_lt_of_le fc_24.lt (Nat.le_of_eq g434.symm))))
          have Zs496 : n0 ≤ h492.size := (Nat.le_trans Zs488 (Keep.of_wr W492).1)
          have K497 : Keep h0 h492 [] := K489.wr W492 (Or.inr sz_cc24)
          have N498 := Fr.snoc X492 N490 g_cc24
          refine g_iinc 199 X492 hx (hb hby d3_196) rfl (x := (0 : Int32)) rfl (z := (1 : Int32)) (by decide) (Ls' := #[.val (.ref a1), .val (.ref bb24), .val (.long bt), .second, .val (.ref cc24), .val (.int (24 : Int32)), .val (.ref b434), .val (.ref bb24), .val (.int (3 : Int32)), .val (.int (1 : Int32)), .val (.int x0_24)]) rfl ?_
          refine g_goto 160 X492 hx (hb hby d3_199) (by decide) (by decide) ?_
          refine g_iload 162 X492 hx (hb hby d3_160) rfl (v := (1 : Int32)) rfl ?_
          refine g_iload 164 X492 hx (hb hby d3_162) rfl (v := (3 : Int32)) rfl ?_
          refine g_icmpNo 167 X492 hx (hb hby d3_164)  (tlt (by decide : (1 : Int32) < (3 : Int32))).2.1 rfl ?_
          refine g_aload 169 X492 hx (hb hby d3_167) rfl (v := (.ref bb24)) rfl rfl ?_
          refine g_iload 171 X492 hx (hb hby d3_169) rfl (v := (1 : Int32)) rfl ?_
          refine g_iaload 172 X492 hx hZ e492 f494 1 (by decide) rfl (z := x1_24) rfl (hb hby d3_171) rfl ?_
          refine g_istore 174 X492 hx (hb hby d3_172) rfl (Ls' := #[.val (.ref a1), .val (.ref bb24), .val (.long bt), .second, .val (.ref cc24), .val (.int (24 : Int32)), .val (.ref b434), .val (.ref bb24), .val (.int (3 : Int32)), .val (.int (1 : Int32)), .val (.int x1_24)]) rfl ?_
          refine g_aload 176 X492 hx (hb hby d3_174) rfl (v := (.ref cc24)) rfl rfl ?_
          refine g_aload 178 X492 hx (hb hby d3_176) rfl (v := (.ref b434)) rfl rfl ?_
          refine g_aloadN 179 X492 hx (hb hby d3_178) rfl (v := (.ref a1)) rfl rfl ?_
          refine g_iload 181 X492 hx (hb hby d3_179) rfl (v := x1_24) rfl ?_
          refine g_laload 182 X492 hx hZ e492 f493 (x1_24.toInt.toNat) (own_nat0 hB24.2.1.1) rfl (z := (([w0, w1, w2] : List Int64).getD x1_24.toInt.toNat 0)) (own_getJ (by have q := hB24.2.1; show _ < 3; omega)) (hb hby d3_181) rfl ?_
          refine g_iload 184 X492 hx (hb hby d3_182) rfl (v := (24 : Int32)) rfl ?_
          have hq184_hq_499 : 0 ≤ (([w0, w1, w2] : List Int64).getD x1_24.toInt.toNat 0).toInt := (own_wN w0 w1 w2 hW0 hW1 hW2 x1_24 hR24.2.1)
          have hq184_hp_500 : 0 ≤ (24 : Int32).toInt ∧ (24 : Int32).toInt ≤ 63 := by decide
          refine g_callS 187 X492 hx hZ (y := (⟨"com/example/prefixwood/prefixwood/huffman/TwoQueues", "digit", "(JI)I"⟩ : MethodName)) hown (hw _ (List.mem_of_getElem? (i := 17) rfl)) (hw _ (List.mem_of_getElem? (i := 18) rfl)) (hw _ (List.mem_of_getElem? (i := 4) rfl)) (hw _ (List.mem_of_getElem? (i := 19) rfl)) (by decide) e492 (rm4 l Z a0 hw [] (([w0, w1, w2] : List Int64).getD x1_24.toInt.toNat 0) (24 : Int32)  h492 n0 Zs496 hq184_hq_499 hq184_hp_500) (by rw [hml]; rfl) [(.long (([w0, w1, w2] : List Int64).getD x1_24.toInt.toNat 0)), (.int (24 : Int32))] [(.ref b434), (.ref cc24)] rfl rfl (lenOf pd_0 rfl) 2 (Nat.le_of_eq rfl) (hb hby d3_184) (by decide) (by decide) (by decide) (by decide) rfl ?_
          intro v499 T499 L499 X499 hQ499
          obtain ⟨r499, rfl, hr499, N499q, e499⟩ := hQ499
          have N499 := Fr.app N498 N499q
          show Go p e below s ({ frames := 1, cells := 10, slots := 2062, locals := 16 } : Room).cells ({ frames := 1, cells := 10, slots := 2062, locals := 16 } : Room).slots (Q3 Z a1 w0 w1 w2 h0 n0) T499 (mkF m 187 #[.val (.ref a1), .val (.ref bb24), .val (.long bt), .second, .val (.ref cc24), .val (.int (24 : Int32)), .val (.ref b434), .val (.ref bb24), .val (.int (3 : Int32)), .val (.int (1 : Int32)), .val (.int x1_24)] [(.int r499), (.ref b434), (.ref cc24)])
          have hs1_24 : r451 = r499 := own_z _ ((hD1_24 : _ = _).trans (hr499 : _ = _).symm)
          subst hs1_24
          refine g_dup2 188 X499 hx (hb hby d3_187) rfl rfl rfl ?_
          refine g_iaload 189 X499 hx hZ e499 f495 (r451.toInt.toNat) (own_nat0 (by omega)) rfl (z := ((own_up gF24 r440.toInt.toNat).getD r451.toInt.toNat 0)) (own_get (by first | (simp only [own_upl]; rw [hgl24]; omega) | (rw [hgl24]; omega))) (hb hby d3_188) rfl ?_
          refine g_dup_x2 190 X499 hx (hb hby d3_189) rfl rfl rfl rfl ?_
          refine g_iconst 191 X499 hx (hb hby d3_190) rfl (z := (1 : Int32)) rfl ?_
          refine g_iadd 192 X499 hx (hb hby d3_191) rfl (z := (((own_up gF24 r440.toInt.toNat).getD r451.toInt.toNat 0) + (1 : Int32))) rfl ?_
          refine g_iastore 193 X499 hx hZ e499 f495 (r451.toInt.toNat) (own_nat0 (by omega)) rfl (by first | (simp only [own_upl]; rw [hgl24]; omega) | (rw [hgl24]; omega)) (z := (((own_up gF24 r440.toInt.toNat).getD r451.toInt.toNat 0) + (1 : Int32))) rfl (hb hby d3_192) rfl ?_
          intro T502 h502 X502 e502 W502 A502
          have f503 := f493.other W502 (Nat.ne_of_lt (Nat.lt_of_lt_of_le fa_24.lt (Nat.le_of_eq g434.symm)))
          have f504 := f494.other W502 (Nat.ne_of_lt (Nat.lt_of_lt_of_le AX24.lt (Nat.le_of_eq g434.symm)))
          have f505 := A492.other W502 (Nat.ne_of_lt (Nat.lt_of_lt_of_le fc_24.lt (Nat.le_of_eq g434.symm)))
          have Zs506 : n0 ≤ h502.size := (Nat.le_trans Zs496 (Keep.of_wr W502).1)
          have K507 : Keep h0 h502 [] := K497.wr W502 (Or.inr sz_b434)
          have N508 := Fr.snoc X502 N499 g_b434
          have AV509 : AI Z h502 b434 .int (own_up (own_up gF24 r440.toInt.toNat) r451.toInt.toNat) := A502
          refine g_iload 195 X502 hx (hb hby d3_193) rfl (v := x1_24) rfl ?_
          refine g_iastore 196 X502 hx hZ e502 f505 (own_q1 r440.toInt.toNat r451.toInt.toNat r462.toInt.toNat) (own_nat0 (by rw [hQ24_.2.1]; exact Int.natCast_nonneg _)) (by show (Int32.toInt _).toNat = _; rw [hQ24_.2.1]; rfl) (by have q := hq24_.2.1; rw [List.length_set, hM24]; omega) (z := x1_24) rfl (hb hby d3_195) rfl ?_
          intro T510 h510 X510 e510 W510 A510
          have f511 := f503.other W510 nac_24
          have f512 := f504.other W510 nbc_24
          have f513 := AV509.other W510 (Ne.symm (Nat.ne_of_lt (Nat.lt_of_lt_of_le fc_24.lt (Nat.le_of_eq g434.symm))))
          have Zs514 : n0 ≤ h510.size := (Nat.le_trans Zs506 (Keep.of_wr W510).1)
          have K515 : Keep h0 h510 [] := K507.wr W510 (Or.inr sz_cc24)
          have N516 := Fr.snoc X510 N508 g_cc24
          refine g_iinc 199 X510 hx (hb hby d3_196) rfl (x := (1 : Int32)) rfl (z := (2 : Int32)) (by decide) (Ls' := #[.val (.ref a1), .val (.ref bb24), .val (.long bt), .second, .val (.ref cc24), .val (.int (24 : Int32)), .val (.ref b434), .val (.ref bb24), .val (.int (3 : Int32)), .val (.int (2 : Int32)), .val (.int x1_24)]) rfl ?_
          refine g_goto 160 X510 hx (hb hby d3_199) (by decide) (by decide) ?_
          refine g_iload 162 X510 hx (hb hby d3_160) rfl (v := (2 : Int32)) rfl ?_
          refine g_iload 164 X510 hx (hb hby d3_162) rfl (v := (3 : Int32)) rfl ?_
          refine g_icmpNo 167 X510 hx (hb hby d3_164)  (tlt (by decide : (2 : Int32) < (3 : Int32))).2.1 rfl ?_
          refine g_aload 169 X510 hx (hb hby d3_167) rfl (v := (.ref bb24)) rfl rfl ?_
          refine g_iload 171 X510 hx (hb hby d3_169) rfl (v := (2 : Int32)) rfl ?_
          refine g_iaload 172 X510 hx hZ e510 f512 2 (by decide) rfl (z := x2_24) rfl (hb hby d3_171) rfl ?_
          refine g_istore 174 X510 hx (hb hby d3_172) rfl (Ls' := #[.val (.ref a1), .val (.ref bb24), .val (.long bt), .second, .val (.ref cc24), .val (.int (24 : Int32)), .val (.ref b434), .val (.ref bb24), .val (.int (3 : Int32)), .val (.int (2 : Int32)), .val (.int x2_24)]) rfl ?_
          refine g_aload 176 X510 hx (hb hby d3_174) rfl (v := (.ref cc24)) rfl rfl ?_
          refine g_aload 178 X510 hx (hb hby d3_176) rfl (v := (.ref b434)) rfl rfl ?_
          refine g_aloadN 179 X510 hx (hb hby d3_178) rfl (v := (.ref a1)) rfl rfl ?_
          refine g_iload 181 X510 hx (hb hby d3_179) rfl (v := x2_24) rfl ?_
          refine g_laload 182 X510 hx hZ e510 f511 (x2_24.toInt.toNat) (own_nat0 hB24.2.2.1) rfl (z := (([w0, w1, w2] : List Int64).getD x2_24.toInt.toNat 0)) (own_getJ (by have q := hB24.2.2; show _ < 3; omega)) (hb hby d3_181) rfl ?_
          refine g_iload 184 X510 hx (hb hby d3_182) rfl (v := (24 : Int32)) rfl ?_
          have hq184_hq_517 : 0 ≤ (([w0, w1, w2] : List Int64).getD x2_24.toInt.toNat 0).toInt := (own_wN w0 w1 w2 hW0 hW1 hW2 x2_24 hR24.2.2)
          have hq184_hp_518 : 0 ≤ (24 : Int32).toInt ∧ (24 : Int32).toInt ≤ 63 := by decide
          refine g_callS 187 X510 hx hZ (y := (⟨"com/example/prefixwood/prefixwood/huffman/TwoQueues", "digit", "(JI)I"⟩ : MethodName)) hown (hw _ (List.mem_of_getElem? (i := 17) rfl)) (hw _ (List.mem_of_getElem? (i := 18) rfl)) (hw _ (List.mem_of_getElem? (i := 4) rfl)) (hw _ (List.mem_of_getElem? (i := 19) rfl)) (by decide) e510 (rm4 l Z a0 hw [] (([w0, w1, w2] : List Int64).getD x2_24.toInt.toNat 0) (24 : Int32)  h510 n0 Zs514 hq184_hq_517 hq184_hp_518) (by rw [hml]; rfl) [(.long (([w0, w1, w2] : List Int64).getD x2_24.toInt.toNat 0)), (.int (24 : Int32))] [(.ref b434), (.ref cc24)] rfl rfl (lenOf pd_0 rfl) 2 (Nat.le_of_eq rfl) (hb hby d3_184) (by decide) (by decide) (by decide) (by decide) rfl ?_
          intro v517 T517 L517 X517 hQ517
          obtain ⟨r517, rfl, hr517, N517q, e517⟩ := hQ517
          have N517 := Fr.app N516 N517q
          show Go p e below s ({ frames := 1, cells := 10, slots := 2062, locals := 16 } : Room).cells ({ frames := 1, cells := 10, slots := 2062, locals := 16 } : Room).slots (Q3 Z a1 w0 w1 w2 h0 n0) T517 (mkF m 187 #[.val (.ref a1), .val (.ref bb24), .val (.long bt), .second, .val (.ref cc24), .val (.int (24 : Int32)), .val (.ref b434), .val (.ref bb24), .val (.int (3 : Int32)), .val (.int (2 : Int32)), .val (.int x2_24)] [(.int r517), (.ref b434), (.ref cc24)])
          have hs2_24 : r462 = r517 := own_z _ ((hD2_24 : _ = _).trans (hr517 : _ = _).symm)
          subst hs2_24
          refine g_dup2 188 X517 hx (hb hby d3_187) rfl rfl rfl ?_
          refine g_iaload 189 X517 hx hZ e517 f513 (r462.toInt.toNat) (own_nat0 (by omega)) rfl (z := ((own_up (own_up gF24 r440.toInt.toNat) r451.toInt.toNat).getD r462.toInt.toNat 0)) (own_get (by first | (simp only [own_upl]; rw [hgl24]; omega) | (rw [hgl24]; omega))) (hb hby d3_188) rfl ?_
          refine g_dup_x2 190 X517 hx (hb hby d3_189) rfl rfl rfl rfl ?_
          refine g_iconst 191 X517 hx (hb hby d3_190) rfl (z := (1 : Int32)) rfl ?_
          refine g_iadd 192 X517 hx (hb hby d3_191) rfl (z := (((own_up (own_up gF24 r440.toInt.toNat) r451.toInt.toNat).getD r462.toInt.toNat 0) + (1 : Int32))) rfl ?_
          refine g_iastore 193 X517 hx hZ e517 f513 (r462.toInt.toNat) (own_nat0 (by omega)) rfl (by first | (simp only [own_upl]; rw [hgl24]; omega) | (rw [hgl24]; omega)) (z := (((own_up (own_up gF24 r440.toInt.toNat) r451.toInt.toNat).getD r462.toInt.toNat 0) + (1 : Int32))) rfl (hb hby d3_192) rfl ?_
          intro T520 h520 X520 e520 W520 A520
          have f521 := f511.other W520 (Nat.ne_of_lt (Nat.lt_of_lt_of_le fa_24.lt (Nat.le_of_eq g434.symm)))
          have f522 := f512.other W520 (Nat.ne_of_lt (Nat.lt_of_lt_of_le AX24.lt (Nat.le_of_eq g434.symm)))
          have f523 := A510.other W520 (Nat.ne_of_lt (Nat.lt_of_lt_of_le fc_24.lt (Nat.le_of_eq g434.symm)))
          have Zs524 : n0 ≤ h520.size := (Nat.le_trans Zs514 (Keep.of_wr W520).1)
          have K525 : Keep h0 h520 [] := K515.wr W520 (Or.inr sz_b434)
          have N526 := Fr.snoc X520 N517 g_b434
          have AV527 : AI Z h520 b434 .int (own_up (own_up (own_up gF24 r440.toInt.toNat) r451.toInt.toNat) r462.toInt.toNat) := A520
          refine g_iload 195 X520 hx (hb hby d3_193) rfl (v := x2_24) rfl ?_
          refine g_iastore 196 X520 hx hZ e520 f523 (own_q2 r440.toInt.toNat r451.toInt.toNat r462.toInt.toNat) (own_nat0 (by rw [hQ24_.2.2]; exact Int.natCast_nonneg _)) (by show (Int32.toInt _).toNat = _; rw [hQ24_.2.2]; rfl) (by have q := hq24_.2.2; rw [List.length_set, List.length_set, hM24]; omega) (z := x2_24) rfl (hb hby d3_195) rfl ?_
          intro T528 h528 X528 e528 W528 A528
          have f529 := f521.other W528 nac_24
          have f530 := f522.other W528 nbc_24
          have f531 := AV527.other W528 (Ne.symm (Nat.ne_of_lt (Nat.lt_of_lt_of_le fc_24.lt (Nat.le_of_eq g434.symm))))
          have Zs532 : n0 ≤ h528.size := (Nat.le_trans Zs524 (Keep.of_wr W528).1)
          have K533 : Keep h0 h528 [] := K525.wr W528 (Or.inr sz_cc24)
          have N534 := Fr.snoc X528 N526 g_cc24
          refine g_iinc 199 X528 hx (hb hby d3_196) rfl (x := (2 : Int32)) rfl (z := (3 : Int32)) (by decide) (Ls' := #[.val (.ref a1), .val (.ref bb24), .val (.long bt), .second, .val (.ref cc24), .val (.int (24 : Int32)), .val (.ref b434), .val (.ref bb24), .val (.int (3 : Int32)), .val (.int (3 : Int32)), .val (.int x2_24)]) rfl ?_
          refine g_goto 160 X528 hx (hb hby d3_199) (by decide) (by decide) ?_
          refine g_iload 162 X528 hx (hb hby d3_160) rfl (v := (3 : Int32)) rfl ?_
          refine g_iload 164 X528 hx (hb hby d3_162) rfl (v := (3 : Int32)) rfl ?_
          refine g_icmpYes 202 X528 hx (hb hby d3_164)  (flt (Int32.lt_irrefl)).2.1 (by decide) (by decide) ?_
          refine g_aloadN 203 X528 hx (hb hby d3_202) rfl (v := (.ref bb24)) rfl rfl ?_
          refine g_astore 205 X528 hx (hb hby d3_203) rfl (Ls' := #[.val (.ref a1), .val (.ref bb24), .val (.long bt), .second, .val (.ref cc24), .val (.int (24 : Int32)), .val (.ref b434), .val (.ref bb24), .val (.int (3 : Int32)), .val (.int (3 : Int32)), .val (.int x2_24)]) rfl rfl ?_
          refine g_aload 207 X528 hx (hb hby d3_205) rfl (v := (.ref cc24)) rfl rfl ?_
          refine g_astoreN 208 X528 hx (hb hby d3_207) rfl (Ls' := #[.val (.ref a1), .val (.ref cc24), .val (.long bt), .second, .val (.ref cc24), .val (.int (24 : Int32)), .val (.ref b434), .val (.ref bb24), .val (.int (3 : Int32)), .val (.int (3 : Int32)), .val (.int x2_24)]) rfl rfl ?_
          refine g_aload 210 X528 hx (hb hby d3_208) rfl (v := (.ref bb24)) rfl rfl ?_
          refine g_astore 212 X528 hx (hb hby d3_210) rfl (Ls' := #[.val (.ref a1), .val (.ref cc24), .val (.long bt), .second, .val (.ref bb24), .val (.int (24 : Int32)), .val (.ref b434), .val (.ref bb24), .val (.int (3 : Int32)), .val (.int (3 : Int32)), .val (.int x2_24)]) rfl rfl ?_
          refine g_iinc 215 X528 hx (hb hby d3_212) rfl (x := (24 : Int32)) rfl (z := (32 : Int32)) (by decide) (Ls' := #[.val (.ref a1), .val (.ref cc24), .val (.long bt), .second, .val (.ref bb24), .val (.int (32 : Int32)), .val (.ref b434), .val (.ref bb24), .val (.int (3 : Int32)), .val (.int (3 : Int32)), .val (.int x2_24)]) rfl ?_
          refine g_goto 45 X528 hx (hb hby d3_215) (by decide) (by decide) ?_
          have AK32 : AI Z h528 cc24 .int (own_K w0 w1 w2 32) := by rw [← own_passL w0 w1 w2 24 x0_24 x1_24 x2_24 r440 r451 r462 MM24 hM24 hX24 hD0_24 hD1_24 hD2_24]; exact A528
          exact pass_32 l Z a0 hw a1 w0 w1 w2 h0 n0 hW0 hW1 hW2 hret hZ hx hby hml hown hlk bt hbt cc24 bb24 b434 bb24 x2_24 [x0_24, x1_24, x2_24] T528 h528 _ rfl (Ne.symm nbc_24) nac_24 nab_24 g_cc24 g_bb24 sz_cc24 sz_bb24 X528 e528 N534 Zs532 K533 f529 AK32 f530
    exact LOOP120_24 _ (1 : Int32) (own_C r440.toInt.toNat r451.toInt.toNat r462.toInt.toNat) T465 h465 _ (Nat.lt_succ_self _) (by decide) ((own_CS r440.toInt.toNat r451.toInt.toNat r462.toInt.toNat (by omega) (by omega) (by omega)).1) rfl X465 e465 N471 Zs469 K470 f466 f467 f468 AU472
set_option maxRecDepth 65536 in
set_option maxHeartbeats 40000000 in
theorem pass_16 (l : Launch) (Z : State) (a0 : Array Value) (hw : ∀ d ∈ tables_1, d.before a0 Z = true) (a1 : Addr) (w0 w1 w2 : Int64) (h0 : Heap) (n0 : Nat) (hW0 : 0 ≤ w0.toInt) (hW1 : 0 ≤ w1.toInt) (hW2 : 0 ≤ w2.toInt) {p : Program} {e : Env} {s : State} {m : MethodId} {below : List Frame} {meth : Method} {c : Code} (hret : meth.sig.returnType = some FieldType.int.array) (hZ : Z.Warmed39 s.vm) (hx : p.tables.exec = Jvm.exec) (hby : c.code = prog_51_method_4_code) (hml : c.maxLocals = 11) (hown : s.vm.findClass "com/example/prefixwood/prefixwood/huffman/TwoQueues" = some m.cls) (hlk : meth.locks = false) (bt : Int64) (hbt : bt.toBitVec = (w0.toBitVec ||| w1.toBitVec) ||| w2.toBitVec) :
    ∀ (bb16 cc16 ea16 eb16 : Addr) (yy16 : Int32) (MM16 : List Int32) (Tp_16 : State) (hp_16 : Heap) (lp_16 : List Loc), (MM16.length = 3) → (bb16 ≠ cc16) → (a1 ≠ bb16) → (a1 ≠ cc16) → (n0 ≤ bb16) → (n0 ≤ cc16) → (h0.size ≤ bb16) → (h0.size ≤ cc16) → (Stand p l e ({ frames := 1, cells := 10, slots := 2062, locals := 16 } : Room) s m #[(.ref a1)] below meth c Tp_16 lp_16 4 520) → (Tp_16.heap = hp_16) → (Fr n0 lp_16) → (n0 ≤ hp_16.size) → (Keep h0 hp_16 []) → (AJ Z hp_16 a1 [w0, w1, w2]) → (AI Z hp_16 bb16 .int (own_K w0 w1 w2 16)) → (AI Z hp_16 cc16 .int MM16) → Go p e below s ({ frames := 1, cells := 10, slots := 2062, locals := 16 } : Room).cells ({ frames := 1, cells := 10, slots := 2062, locals := 16 } : Room).slots (Q3 Z a1 w0 w1 w2 h0 n0) Tp_16 (mkF m 45 #[.val (.ref a1), .val (.ref bb16), .val (.long bt), .second, .val (.ref cc16), .val (.int (16 : Int32)), .val (.ref ea16), .val (.ref eb16), .val (.int (3 : Int32)), .val (.int (3 : Int32)), .val (.int yy16)] []) := by
  intro bb16 cc16 ea16 eb16 yy16 MM16 Tp_16 hp_16 lp_16 hM16 nbc_16 nab_16 nac_16 g_bb16 g_cc16 sz_bb16 sz_cc16 Xp_16 ep_16 Np_16 Zp_16 Kp_16 fa_16 fb_16 fc_16
  obtain ⟨x0_16, x1_16, x2_16, hk16, hX16⟩ := own_KX w0 w1 w2 16
  have AX16 : AI Z hp_16 bb16 .int [x0_16, x1_16, x2_16] := by rw [← hk16]; exact fb_16
  have hR16 := own_sixR _ _ _ _ _ _ hX16
  have hB16 := own_sixB _ _ _ _ _ _ hX16
  refine g_iload 47 Xp_16 hx (hb hby d3_45) rfl (v := (16 : Int32)) rfl ?_
  refine g_bipush 49 Xp_16 hx (hb hby d3_47) rfl (z := (64 : Int32)) rfl ?_
  refine g_icmpNo 52 Xp_16 hx (hb hby d3_49)  (tlt (by decide : (16 : Int32) < (64 : Int32))).2.1 rfl ?_
  refine g_lloadN 53 Xp_16 hx (hb hby d3_52) rfl (v := bt) rfl ?_
  refine g_iload 55 Xp_16 hx (hb hby d3_53) rfl (v := (16 : Int32)) rfl ?_
  refine g_lushr 56 Xp_16 hx (hb hby d3_55) rfl (z := ((bt.toUInt64 >>> ((16 : Int32) &&& 0x3f).toInt64.toUInt64).toInt64)) rfl ?_
  refine g_lconst 57 Xp_16 hx (hb hby d3_56) rfl (z := (0 : Int64)) rfl ?_
  by_cases hc57_534 : ((bt.toUInt64 >>> ((16 : Int32) &&& 0x3f).toInt64.toUInt64).toInt64) = (0 : Int64)
  ·
    refine g_lcmpYes 218 Xp_16 hx (hb hby d3_57) rfl (hb hby d3_58) (teqL hc57_534).1 (by decide) (by decide) ?_
    refine g_aloadN 219 Xp_16 hx (hb hby d3_218) rfl (v := (.ref bb16)) rfl rfl ?_
    have hend : own_K w0 w1 w2 16 = own_Srt w0 w1 w2 := (fun q => own_KS w0 w1 w2 16 q.1 q.2.1 q.2.2) (own_bitsL w0 w1 w2 (16 : Int32) 16 (by decide) hW0 hW1 hW2 bt hbt hc57_534)
    rw [hend] at fb_16
    exact g_retA Xp_16 hx hret hlk rfl rfl rfl (hb hby d3_219) (by decide) (by decide) (by
        show Q3 Z a1 w0 w1 w2 h0 n0 _ Tp_16.heap _
        rw [ep_16]
        exact ⟨bb16, rfl, Np_16, Kp_16, g_bb16, sz_bb16, fb_16⟩)
  ·
    refine g_lcmpNo 61 Xp_16 hx (hb hby d3_57) rfl (hb hby d3_58) (feqL hc57_534).1 rfl ?_
    refine g_sipush 64 Xp_16 hx (hb hby d3_61) rfl (z := (257 : Int32)) rfl ?_
    refine g_new_int 66 Xp_16 hx hZ (hw _ (List.mem_of_getElem? (i := 16) rfl)) ep_16 257 257 (by decide) rfl (by decide) (by decide) (by decide) (by decide) (hb hby d3_64) rfl ?_
    intro T536 h536 b536 X536 e536 E536 g536 A536
    have f537 := fa_16.ext E536
    have f538 := AX16.ext E536
    have f539 := fc_16.ext E536
    have Zs540 : n0 ≤ h536.size := (Nat.le_trans Zp_16 E536.1)
    have K541 : Keep h0 h536 [] := Kp_16.ext E536
    have g_b536 : n0 ≤ b536 := Nat.le_trans Zp_16 (Nat.le_of_eq g536.symm)
    have sz_b536 : h0.size ≤ b536 := Nat.le_trans Kp_16.1 (Nat.le_of_eq g536.symm)
    refine g_astore 68 X536 hx (hb hby d3_66) rfl (Ls' := #[.val (.ref a1), .val (.ref bb16), .val (.long bt), .second, .val (.ref cc16), .val (.int (16 : Int32)), .val (.ref b536), .val (.ref eb16), .val (.int (3 : Int32)), .val (.int (3 : Int32)), .val (.int yy16)]) rfl rfl ?_
    refine g_aloadN 69 X536 hx (hb hby d3_68) rfl (v := (.ref bb16)) rfl rfl ?_
    refine g_astore 71 X536 hx (hb hby d3_69) rfl (Ls' := #[.val (.ref a1), .val (.ref bb16), .val (.long bt), .second, .val (.ref cc16), .val (.int (16 : Int32)), .val (.ref b536), .val (.ref bb16), .val (.int (3 : Int32)), .val (.int (3 : Int32)), .val (.int yy16)]) rfl rfl ?_
    refine g_aload 73 X536 hx (hb hby d3_71) rfl (v := (.ref bb16)) rfl rfl ?_
    refine g_arraylengthI 74 X536 hx hZ e536 f538 (z := (3 : Int32)) rfl (hb hby d3_73) rfl ?_
    refine g_istore 76 X536 hx (hb hby d3_74) rfl (Ls' := #[.val (.ref a1), .val (.ref bb16), .val (.long bt), .second, .val (.ref cc16), .val (.int (16 : Int32)), .val (.ref b536), .val (.ref bb16), .val (.int (3 : Int32)), .val (.int (3 : Int32)), .val (.int yy16)]) rfl ?_
    refine g_iconst 77 X536 hx (hb hby d3_76) rfl (z := (0 : Int32)) rfl ?_
    refine g_istore 79 X536 hx (hb hby d3_77) rfl (Ls' := #[.val (.ref a1), .val (.ref bb16), .val (.long bt), .second, .val (.ref cc16), .val (.int (16 : Int32)), .val (.ref b536), .val (.ref bb16), .val (.int (3 : Int32)), .val (.int (0 : Int32)), .val (.int yy16)]) rfl ?_
    refine g_iload 81 X536 hx (hb hby d3_79) rfl (v := (0 : Int32)) rfl ?_
    refine g_iload 83 X536 hx (hb hby d3_81) rfl (v := (3 : Int32)) rfl ?_
    refine g_icmpNo 86 X536 hx (hb hby d3_83)  (tlt (by decide : (0 : Int32) < (3 : Int32))).2.1 rfl ?_
    refine g_aload 88 X536 hx (hb hby d3_86) rfl (v := (.ref bb16)) rfl rfl ?_
    refine g_iload 90 X536 hx (hb hby d3_88) rfl (v := (0 : Int32)) rfl ?_
    refine g_iaload 91 X536 hx hZ e536 f538 0 (by decide) rfl (z := x0_16) rfl (hb hby d3_90) rfl ?_
    refine g_istore 93 X536 hx (hb hby d3_91) rfl (Ls' := #[.val (.ref a1), .val (.ref bb16), .val (.long bt), .second, .val (.ref cc16), .val (.int (16 : Int32)), .val (.ref b536), .val (.ref bb16), .val (.int (3 : Int32)), .val (.int (0 : Int32)), .val (.int x0_16)]) rfl ?_
    refine g_aload 95 X536 hx (hb hby d3_93) rfl (v := (.ref b536)) rfl rfl ?_
    refine g_aloadN 96 X536 hx (hb hby d3_95) rfl (v := (.ref a1)) rfl rfl ?_
    refine g_iload 98 X536 hx (hb hby d3_96) rfl (v := x0_16) rfl ?_
    refine g_laload 99 X536 hx hZ e536 f537 (x0_16.toInt.toNat) (own_nat0 hB16.1.1) rfl (z := (([w0, w1, w2] : List Int64).getD x0_16.toInt.toNat 0)) (own_getJ (by have q := hB16.1; show _ < 3; omega)) (hb hby d3_98) rfl ?_
    refine g_iload 101 X536 hx (hb hby d3_99) rfl (v := (16 : Int32)) rfl ?_
    have hq101_hq_542 : 0 ≤ (([w0, w1, w2] : List Int64).getD x0_16.toInt.toNat 0).toInt := (own_wN w0 w1 w2 hW0 hW1 hW2 x0_16 hR16.1)
    have hq101_hp_543 : 0 ≤ (16 : Int32).toInt ∧ (16 : Int32).toInt ≤ 63 := by decide
    refine g_callS 104 X536 hx hZ (y := (⟨"com/example/prefixwood/prefixwood/huffman/TwoQueues", "digit", "(JI)I"⟩ : MethodName)) hown (hw _ (List.mem_of_getElem? (i := 17) rfl)) (hw _ (List.mem_of_getElem? (i := 18) rfl)) (hw _ (List.mem_of_getElem? (i := 4) rfl)) (hw _ (List.mem_of_getElem? (i := 19) rfl)) (by decide) e536 (rm4 l Z a0 hw [] (([w0, w1, w2] : List Int64).getD x0_16.toInt.toNat 0) (16 : Int32)  h536 n0 Zs540 hq101_hq_542 hq101_hp_543) (by rw [hml]; rfl) [(.long (([w0, w1, w2] : List Int64).getD x0_16.toInt.toNat 0)), (.int (16 : Int32))] [(.ref b536)] rfl rfl (lenOf pd_0 rfl) 1 (Nat.le_of_eq rfl) (hb hby d3_101) (by decide) (by decide) (by decide) (by decide) rfl ?_
    intro v542 T542 L542 X542 hQ542
    obtain ⟨r542, rfl, hr542, N542q, e542⟩ := hQ542
    have N542 := Fr.app Np_16 N542q
    show Go p e below s ({ frames := 1, cells := 10, slots := 2062, locals := 16 } : Room).cells ({ frames := 1, cells := 10, slots := 2062, locals := 16 } : Room).slots (Q3 Z a1 w0 w1 w2 h0 n0) T542 (mkF m 104 #[.val (.ref a1), .val (.ref bb16), .val (.long bt), .second, .val (.ref cc16), .val (.int (16 : Int32)), .val (.ref b536), .val (.ref bb16), .val (.int (3 : Int32)), .val (.int (0 : Int32)), .val (.int x0_16)] [(.int r542), (.ref b536)])
    have hD0_16 : own_dig (([w0, w1, w2] : List Int64).getD x0_16.toInt.toNat 0) 16 r542 := hr542
    have hE0_16 := own_dgB _ _ _ hD0_16
    refine g_iconst 105 X542 hx (hb hby d3_104) rfl (z := (1 : Int32)) rfl ?_
    refine g_iadd 106 X542 hx (hb hby d3_105) rfl (z := (r542 + (1 : Int32))) rfl ?_
    refine g_dup2 107 X542 hx (hb hby d3_106) rfl rfl rfl ?_
    refine g_iaload 108 X542 hx hZ e542 A536 (r542.toInt.toNat + 1) (own_nat0 (by have q := hE0_16; rw [own_inc (by omega)]; omega)) (by have q := hE0_16; show (Int32.toInt _).toNat = _; rw [own_inc (by omega)]; omega) (z := ((List.replicate 257 (0 : Int32)).getD (r542.toInt.toNat + 1) 0)) (own_get (by have q := hE0_16; simp only [own_upl, List.length_replicate]; omega)) (hb hby d3_107) rfl ?_
    refine g_iconst 109 X542 hx (hb hby d3_108) rfl (z := (1 : Int32)) rfl ?_
    refine g_iadd 110 X542 hx (hb hby d3_109) rfl (z := (((List.replicate 257 (0 : Int32)).getD (r542.toInt.toNat + 1) 0) + (1 : Int32))) rfl ?_
    refine g_iastore 111 X542 hx hZ e542 A536 (r542.toInt.toNat + 1) (own_nat0 (by have q := hE0_16; rw [own_inc (by omega)]; omega)) (by have q := hE0_16; show (Int32.toInt _).toNat = _; rw [own_inc (by omega)]; omega) (by have q := hE0_16; simp only [own_upl, List.length_replicate]; omega) (z := (((List.replicate 257 (0 : Int32)).getD (r542.toInt.toNat + 1) 0) + (1 : Int32))) rfl (hb hby d3_110) rfl ?_
    intro T545 h545 X545 e545 W545 A545
    have f546 := f537.other W545 (Nat.ne_of_lt (Nat.lt_of_lt_of_le fa_16.lt (Nat.le_of_eq g536.symm)))
    have f547 := f538.other W545 (Nat.ne_of_lt (Nat.lt_of_lt_of_le AX16.lt (Nat.le_of_eq g536.symm)))
    have f548 := f539.other W545 (Nat.ne_of_lt (Nat.lt_of_lt_of_le fc_16.lt (Nat.le_of_eq g536.symm)))
    have Zs549 : n0 ≤ h545.size := (Nat.le_trans Zs540 (Keep.of_wr W545).1)
    have K550 : Keep h0 h545 [] := K541.wr W545 (Or.inr sz_b536)
    have N551 := Fr.snoc X545 N542 g_b536
    have AU552 : AI Z h545 b536 .int (own_up (List.replicate 257 (0 : Int32)) (r542.toInt.toNat + 1)) := A545
    refine g_iinc 114 X545 hx (hb hby d3_111) rfl (x := (0 : Int32)) rfl (z := (1 : Int32)) (by decide) (Ls' := #[.val (.ref a1), .val (.ref bb16), .val (.long bt), .second, .val (.ref cc16), .val (.int (16 : Int32)), .val (.ref b536), .val (.ref bb16), .val (.int (3 : Int32)), .val (.int (1 : Int32)), .val (.int x0_16)]) rfl ?_
    refine g_goto 79 X545 hx (hb hby d3_114) (by decide) (by decide) ?_
    refine g_iload 81 X545 hx (hb hby d3_79) rfl (v := (1 : Int32)) rfl ?_
    refine g_iload 83 X545 hx (hb hby d3_81) rfl (v := (3 : Int32)) rfl ?_
    refine g_icmpNo 86 X545 hx (hb hby d3_83)  (tlt (by decide : (1 : Int32) < (3 : Int32))).2.1 rfl ?_
    refine g_aload 88 X545 hx (hb hby d3_86) rfl (v := (.ref bb16)) rfl rfl ?_
    refine g_iload 90 X545 hx (hb hby d3_88) rfl (v := (1 : Int32)) rfl ?_
    refine g_iaload 91 X545 hx hZ e545 f547 1 (by decide) rfl (z := x1_16) rfl (hb hby d3_90) rfl ?_
    refine g_istore 93 X545 hx (hb hby d3_91) rfl (Ls' := #[.val (.ref a1), .val (.ref bb16), .val (.long bt), .second, .val (.ref cc16), .val (.int (16 : Int32)), .val (.ref b536), .val (.ref bb16), .val (.int (3 : Int32)), .val (.int (1 : Int32)), .val (.int x1_16)]) rfl ?_
    refine g_aload 95 X545 hx (hb hby d3_93) rfl (v := (.ref b536)) rfl rfl ?_
    refine g_aloadN 96 X545 hx (hb hby d3_95) rfl (v := (.ref a1)) rfl rfl ?_
    refine g_iload 98 X545 hx (hb hby d3_96) rfl (v := x1_16) rfl ?_
    refine g_laload 99 X545 hx hZ e545 f546 (x1_16.toInt.toNat) (own_nat0 hB16.2.1.1) rfl (z := (([w0, w1, w2] : List Int64).getD x1_16.toInt.toNat 0)) (own_getJ (by have q := hB16.2.1; show _ < 3; omega)) (hb hby d3_98) rfl ?_
    refine g_iload 101 X545 hx (hb hby d3_99) rfl (v := (16 : Int32)) rfl ?_
    have hq101_hq_553 : 0 ≤ (([w0, w1, w2] : List Int64).getD x1_16.toInt.toNat 0).toInt := (own_wN w0 w1 w2 hW0 hW1 hW2 x1_16 hR16.2.1)
    have hq101_hp_554 : 0 ≤ (16 : Int32).toInt ∧ (16 : Int32).toInt ≤ 63 := by decide
    refine g_callS 104 X545 hx hZ (y := (⟨"com/example/prefixwood/prefixwood/huffman/TwoQueues", "digit", "(JI)I"⟩ : MethodName)) hown (hw _ (List.mem_of_getElem? (i := 17) rfl)) (hw _ (List.mem_of_getElem? (i := 18) rfl)) (hw _ (List.mem_of_getElem? (i := 4) rfl)) (hw _ (List.mem_of_getElem? (i := 19) rfl)) (by decide) e545 (rm4 l Z a0 hw [] (([w0, w1, w2] : List Int64).getD x1_16.toInt.toNat 0) (16 : Int32)  h545 n0 Zs549 hq101_hq_553 hq101_hp_554) (by rw [hml]; rfl) [(.long (([w0, w1, w2] : List Int64).getD x1_16.toInt.toNat 0)), (.int (16 : Int32))] [(.ref b536)] rfl rfl (lenOf pd_0 rfl) 1 (Nat.le_of_eq rfl) (hb hby d3_101) (by decide) (by decide) (by decide) (by decide) rfl ?_
    intro v553 T553 L553 X553 hQ553
    obtain ⟨r553, rfl, hr553, N553q, e553⟩ := hQ553
    have N553 := Fr.app N551 N553q
    show Go p e below s ({ frames := 1, cells := 10, slots := 2062, locals := 16 } : Room).cells ({ frames := 1, cells := 10, slots := 2062, locals := 16 } : Room).slots (Q3 Z a1 w0 w1 w2 h0 n0) T553 (mkF m 104 #[.val (.ref a1), .val (.ref bb16), .val (.long bt), .second, .val (.ref cc16), .val (.int (16 : Int32)), .val (.ref b536), .val (.ref bb16), .val (.int (3 : Int32)), .val (.int (1 : Int32)), .val (.int x1_16)] [(.int r553), (.ref b536)])
    have hD1_16 : own_dig (([w0, w1, w2] : List Int64).getD x1_16.toInt.toNat 0) 16 r553 := hr553
    have hE1_16 := own_dgB _ _ _ hD1_16
    refine g_iconst 105 X553 hx (hb hby d3_104) rfl (z := (1 : Int32)) rfl ?_
    refine g_iadd 106 X553 hx (hb hby d3_105) rfl (z := (r553 + (1 : Int32))) rfl ?_
    refine g_dup2 107 X553 hx (hb hby d3_106) rfl rfl rfl ?_
    refine g_iaload 108 X553 hx hZ e553 AU552 (r553.toInt.toNat + 1) (own_nat0 (by have q := hE1_16; rw [own_inc (by omega)]; omega)) (by have q := hE1_16; show (Int32.toInt _).toNat = _; rw [own_inc (by omega)]; omega) (z := ((own_up (List.replicate 257 (0 : Int32)) (r542.toInt.toNat + 1)).getD (r553.toInt.toNat + 1) 0)) (own_get (by have q := hE1_16; simp only [own_upl, List.length_replicate]; omega)) (hb hby d3_107) rfl ?_
    refine g_iconst 109 X553 hx (hb hby d3_108) rfl (z := (1 : Int32)) rfl ?_
    refine g_iadd 110 X553 hx (hb hby d3_109) rfl (z := (((own_up (List.replicate 257 (0 : Int32)) (r542.toInt.toNat + 1)).getD (r553.toInt.toNat + 1) 0) + (1 : Int32))) rfl ?_
    refine g_iastore 111 X553 hx hZ e553 AU552 (r553.toInt.toNat + 1) (own_nat0 (by have q := hE1_16; rw [own_inc (by omega)]; omega)) (by have q := hE1_16; show (Int32.toInt _).toNat = _; rw [own_inc (by omega)]; omega) (by have q := hE1_16; simp only [own_upl, List.length_replicate]; omega) (z := (((own_up (List.replicate 257 (0 : Int32)) (r542.toInt.toNat + 1)).getD (r553.toInt.toNat + 1) 0) + (1 : Int32))) rfl (hb hby d3_110) rfl ?_
    intro T556 h556 X556 e556 W556 A556
    have f557 := f546.other W556 (Nat.ne_of_lt (Nat.lt_of_lt_of_le fa_16.lt (Nat.le_of_eq g536.symm)))
    have f558 := f547.other W556 (Nat.ne_of_lt (Nat.lt_of_lt_of_le AX16.lt (Nat.le_of_eq g536.symm)))
    have f559 := f548.other W556 (Nat.ne_of_lt (Nat.lt_of_lt_of_le fc_16.lt (Nat.le_of_eq g536.symm)))
    have Zs560 : n0 ≤ h556.size := (Nat.le_trans Zs549 (Keep.of_wr W556).1)
    have K561 : Keep h0 h556 [] := K550.wr W556 (Or.inr sz_b536)
    have N562 := Fr.snoc X556 N553 g_b536
    have AU563 : AI Z h556 b536 .int (own_up (own_up (List.replicate 257 (0 : Int32)) (r542.toInt.toNat + 1)) (r553.toInt.toNat + 1)) := A556
    refine g_iinc 114 X556 hx (hb hby d3_111) rfl (x := (1 : Int32)) rfl (z := (2 : Int32)) (by decide) (Ls' := #[.val (.ref a1), .val (.ref bb16), .val (.long bt), .second, .val (.ref cc16), .val (.int (16 : Int32)), .val (.ref b536), .val (.ref bb16), .val (.int (3 : Int32)), .val (.int (2 : Int32)), .val (.int x1_16)]) rfl ?_
    refine g_goto 79 X556 hx (hb hby d3_114) (by decide) (by decide) ?_
    refine g_iload 81 X556 hx (hb hby d3_79) rfl (v := (2 : Int32)) rfl ?_
    refine g_iload 83 X556 hx (hb hby d3_81) rfl (v := (3 : Int32)) rfl ?_
    refine g_icmpNo 86 X556 hx (hb hby d3_83)  (tlt (by decide : (2 : Int32) < (3 : Int32))).2.1 rfl ?_
    refine g_aload 88 X556 hx (hb hby d3_86) rfl (v := (.ref bb16)) rfl rfl ?_
    refine g_iload 90 X556 hx (hb hby d3_88) rfl (v := (2 : Int32)) rfl ?_
    refine g_iaload 91 X556 hx hZ e556 f558 2 (by decide) rfl (z := x2_16) rfl (hb hby d3_90) rfl ?_
    refine g_istore 93 X556 hx (hb hby d3_91) rfl (Ls' := #[.val (.ref a1), .val (.ref bb16), .val (.long bt), .second, .val (.ref cc16), .val (.int (16 : Int32)), .val (.ref b536), .val (.ref bb16), .val (.int (3 : Int32)), .val (.int (2 : Int32)), .val (.int x2_16)]) rfl ?_
    refine g_aload 95 X556 hx (hb hby d3_93) rfl (v := (.ref b536)) rfl rfl ?_
    refine g_aloadN 96 X556 hx (hb hby d3_95) rfl (v := (.ref a1)) rfl rfl ?_
    refine g_iload 98 X556 hx (hb hby d3_96) rfl (v := x2_16) rfl ?_
    refine g_laload 99 X556 hx hZ e556 f557 (x2_16.toInt.toNat) (own_nat0 hB16.2.2.1) rfl (z := (([w0, w1, w2] : List Int64).getD x2_16.toInt.toNat 0)) (own_getJ (by have q := hB16.2.2; show _ < 3; omega)) (hb hby d3_98) rfl ?_
    refine g_iload 101 X556 hx (hb hby d3_99) rfl (v := (16 : Int32)) rfl ?_
    have hq101_hq_564 : 0 ≤ (([w0, w1, w2] : List Int64).getD x2_16.toInt.toNat 0).toInt := (own_wN w0 w1 w2 hW0 hW1 hW2 x2_16 hR16.2.2)
    have hq101_hp_565 : 0 ≤ (16 : Int32).toInt ∧ (16 : Int32).toInt ≤ 63 := by decide
    refine g_callS 104 X556 hx hZ (y := (⟨"com/example/prefixwood/prefixwood/huffman/TwoQueues", "digit", "(JI)I"⟩ : MethodName)) hown (hw _ (List.mem_of_getElem? (i := 17) rfl)) (hw _ (List.mem_of_getElem? (i := 18) rfl)) (hw _ (List.mem_of_getElem? (i := 4) rfl)) (hw _ (List.mem_of_getElem? (i := 19) rfl)) (by decide) e556 (rm4 l Z a0 hw [] (([w0, w1, w2] : List Int64).getD x2_16.toInt.toNat 0) (16 : Int32)  h556 n0 Zs560 hq101_hq_564 hq101_hp_565) (by rw [hml]; rfl) [(.long (([w0, w1, w2] : List Int64).getD x2_16.toInt.toNat 0)), (.int (16 : Int32))] [(.ref b536)] rfl rfl (lenOf pd_0 rfl) 1 (Nat.le_of_eq rfl) (hb hby d3_101) (by decide) (by decide) (by decide) (by decide) rfl ?_
    intro v564 T564 L564 X564 hQ564
    obtain ⟨r564, rfl, hr564, N564q, e564⟩ := hQ564
    have N564 := Fr.app N562 N564q
    show Go p e below s ({ frames := 1, cells := 10, slots := 2062, locals := 16 } : Room).cells ({ frames := 1, cells := 10, slots := 2062, locals := 16 } : Room).slots (Q3 Z a1 w0 w1 w2 h0 n0) T564 (mkF m 104 #[.val (.ref a1), .val (.ref bb16), .val (.long bt), .second, .val (.ref cc16), .val (.int (16 : Int32)), .val (.ref b536), .val (.ref bb16), .val (.int (3 : Int32)), .val (.int (2 : Int32)), .val (.int x2_16)] [(.int r564), (.ref b536)])
    have hD2_16 : own_dig (([w0, w1, w2] : List Int64).getD x2_16.toInt.toNat 0) 16 r564 := hr564
    have hE2_16 := own_dgB _ _ _ hD2_16
    refine g_iconst 105 X564 hx (hb hby d3_104) rfl (z := (1 : Int32)) rfl ?_
    refine g_iadd 106 X564 hx (hb hby d3_105) rfl (z := (r564 + (1 : Int32))) rfl ?_
    refine g_dup2 107 X564 hx (hb hby d3_106) rfl rfl rfl ?_
    refine g_iaload 108 X564 hx hZ e564 AU563 (r564.toInt.toNat + 1) (own_nat0 (by have q := hE2_16; rw [own_inc (by omega)]; omega)) (by have q := hE2_16; show (Int32.toInt _).toNat = _; rw [own_inc (by omega)]; omega) (z := ((own_up (own_up (List.replicate 257 (0 : Int32)) (r542.toInt.toNat + 1)) (r553.toInt.toNat + 1)).getD (r564.toInt.toNat + 1) 0)) (own_get (by have q := hE2_16; simp only [own_upl, List.length_replicate]; omega)) (hb hby d3_107) rfl ?_
    refine g_iconst 109 X564 hx (hb hby d3_108) rfl (z := (1 : Int32)) rfl ?_
    refine g_iadd 110 X564 hx (hb hby d3_109) rfl (z := (((own_up (own_up (List.replicate 257 (0 : Int32)) (r542.toInt.toNat + 1)) (r553.toInt.toNat + 1)).getD (r564.toInt.toNat + 1) 0) + (1 : Int32))) rfl ?_
    refine g_iastore 111 X564 hx hZ e564 AU563 (r564.toInt.toNat + 1) (own_nat0 (by have q := hE2_16; rw [own_inc (by omega)]; omega)) (by have q := hE2_16; show (Int32.toInt _).toNat = _; rw [own_inc (by omega)]; omega) (by have q := hE2_16; simp only [own_upl, List.length_replicate]; omega) (z := (((own_up (own_up (List.replicate 257 (0 : Int32)) (r542.toInt.toNat + 1)) (r553.toInt.toNat + 1)).getD (r564.toInt.toNat + 1) 0) + (1 : Int32))) rfl (hb hby d3_110) rfl ?_
    intro T567 h567 X567 e567 W567 A567
    have f568 := f557.other W567 (Nat.ne_of_lt (Nat.lt_of_lt_of_le fa_16.lt (Nat.le_of_eq g536.symm)))
    have f569 := f558.other W567 (Nat.ne_of_lt (Nat.lt_of_lt_of_le AX16.lt (Nat.le_of_eq g536.symm)))
    have f570 := f559.other W567 (Nat.ne_of_lt (Nat.lt_of_lt_of_le fc_16.lt (Nat.le_of_eq g536.symm)))
    have Zs571 : n0 ≤ h567.size := (Nat.le_trans Zs560 (Keep.of_wr W567).1)
    have K572 : Keep h0 h567 [] := K561.wr W567 (Or.inr sz_b536)
    have N573 := Fr.snoc X567 N564 g_b536
    have AU574 : AI Z h567 b536 .int (own_up (own_up (own_up (List.replicate 257 (0 : Int32)) (r542.toInt.toNat + 1)) (r553.toInt.toNat + 1)) (r564.toInt.toNat + 1)) := A567
    refine g_iinc 114 X567 hx (hb hby d3_111) rfl (x := (2 : Int32)) rfl (z := (3 : Int32)) (by decide) (Ls' := #[.val (.ref a1), .val (.ref bb16), .val (.long bt), .second, .val (.ref cc16), .val (.int (16 : Int32)), .val (.ref b536), .val (.ref bb16), .val (.int (3 : Int32)), .val (.int (3 : Int32)), .val (.int x2_16)]) rfl ?_
    refine g_goto 79 X567 hx (hb hby d3_114) (by decide) (by decide) ?_
    refine g_iload 81 X567 hx (hb hby d3_79) rfl (v := (3 : Int32)) rfl ?_
    refine g_iload 83 X567 hx (hb hby d3_81) rfl (v := (3 : Int32)) rfl ?_
    refine g_icmpYes 117 X567 hx (hb hby d3_83)  (flt (Int32.lt_irrefl)).2.1 (by decide) (by decide) ?_
    refine g_iconst 118 X567 hx (hb hby d3_117) rfl (z := (1 : Int32)) rfl ?_
    refine g_istore 120 X567 hx (hb hby d3_118) rfl (Ls' := #[.val (.ref a1), .val (.ref bb16), .val (.long bt), .second, .val (.ref cc16), .val (.int (16 : Int32)), .val (.ref b536), .val (.int (1 : Int32)), .val (.int (3 : Int32)), .val (.int (3 : Int32)), .val (.int x2_16)]) rfl ?_
    have LOOP120_16 : ∀ (fuel_16 : Nat) (lv16 : Int32) (gF16 : List Int32) (Tl_16 : State) (hl_16 : Heap) (lo_16 : List Loc), (257 - lv16.toInt).toNat < fuel_16 → (1 ≤ lv16.toInt ∧ lv16.toInt ≤ 257) → (gF16.length = 257) → (own_pfx (257 - lv16.toInt).toNat lv16.toInt.toNat gF16 = own_pfx 256 1 (own_C r542.toInt.toNat r553.toInt.toNat r564.toInt.toNat)) → (Stand p l e ({ frames := 1, cells := 10, slots := 2062, locals := 16 } : Room) s m #[(.ref a1)] below meth c Tl_16 lo_16 5 777) → (Tl_16.heap = hl_16) → (Fr n0 lo_16) → (n0 ≤ hl_16.size) → (Keep h0 hl_16 []) → (AJ Z hl_16 a1 [w0, w1, w2]) → (AI Z hl_16 bb16 .int [x0_16, x1_16, x2_16]) → (AI Z hl_16 cc16 .int MM16) → (AI Z hl_16 b536 .int gF16) → Go p e below s ({ frames := 1, cells := 10, slots := 2062, locals := 16 } : Room).cells ({ frames := 1, cells := 10, slots := 2062, locals := 16 } : Room).slots (Q3 Z a1 w0 w1 w2 h0 n0) Tl_16 (mkF m 120 #[.val (.ref a1), .val (.ref bb16), .val (.long bt), .second, .val (.ref cc16), .val (.int (16 : Int32)), .val (.ref b536), .val (.int lv16), .val (.int (3 : Int32)), .val (.int (3 : Int32)), .val (.int x2_16)] []) := by
      intro fuel_16
      induction fuel_16 with
      | zero => intro lv16 gF16 Tl_16 hl_16 lo_16 hm; exact absurd hm (Nat.not_lt_zero _)
      | succ fuel_16 ih_16 =>
        intro lv16 gF16 Tl_16 hl_16 lo_16 hm_16 hv16 hgl16 hgF16 Xl_16 el_16 Nl_16 Zl_16 Kl_16 fl_16_0 fl_16_1 fl_16_2 fl_16_3
        refine g_iload 122 Xl_16 hx (hb hby d3_120) rfl (v := lv16) rfl ?_
        refine g_aload 124 Xl_16 hx (hb hby d3_122) rfl (v := (.ref b536)) rfl rfl ?_
        refine g_arraylengthI 125 Xl_16 hx hZ el_16 fl_16_3 (z := (257 : Int32)) (by rw [hgl16]; rfl) (hb hby d3_124) rfl ?_
        by_cases hc125_574 : lv16 < (257 : Int32)
        ·
          refine g_icmpNo 128 Xl_16 hx (hb hby d3_125)  (tlt hc125_574).2.1 rfl ?_
          refine g_aload 130 Xl_16 hx (hb hby d3_128) rfl (v := (.ref b536)) rfl rfl ?_
          refine g_iload 132 Xl_16 hx (hb hby d3_130) rfl (v := lv16) rfl ?_
          refine g_dup2 133 Xl_16 hx (hb hby d3_132) rfl rfl rfl ?_
          refine g_iaload 134 Xl_16 hx hZ el_16 fl_16_3 (lv16.toInt.toNat) (own_nat0 (by omega)) rfl (z := (gF16.getD lv16.toInt.toNat 0)) (own_get (by have q := Int32.lt_iff_toInt_lt.mp hc125_574; simp only [Int32.reduceToInt] at q; rw [hgl16]; omega)) (hb hby d3_133) rfl ?_
          refine g_aload 136 Xl_16 hx (hb hby d3_134) rfl (v := (.ref b536)) rfl rfl ?_
          refine g_iload 138 Xl_16 hx (hb hby d3_136) rfl (v := lv16) rfl ?_
          refine g_iconst 139 Xl_16 hx (hb hby d3_138) rfl (z := (1 : Int32)) rfl ?_
          refine g_isub 140 Xl_16 hx (hb hby d3_139) rfl (z := (lv16 - (1 : Int32))) rfl ?_
          refine g_iaload 141 Xl_16 hx hZ el_16 fl_16_3 (lv16.toInt.toNat - 1) (own_nat0 (by have q := Int32.lt_iff_toInt_lt.mp hc125_574; simp only [Int32.reduceToInt] at q; rw [own_dec1 (by omega)]; omega)) (by have q := Int32.lt_iff_toInt_lt.mp hc125_574; simp only [Int32.reduceToInt] at q; show (Int32.toInt _).toNat = _; rw [own_dec1 (by omega)]; omega) (z := (gF16.getD (lv16.toInt.toNat - 1) 0)) (own_get (by have q := Int32.lt_iff_toInt_lt.mp hc125_574; simp only [Int32.reduceToInt] at q; rw [hgl16]; omega)) (hb hby d3_140) rfl ?_
          refine g_iadd 142 Xl_16 hx (hb hby d3_141) rfl (z := ((gF16.getD lv16.toInt.toNat 0) + (gF16.getD (lv16.toInt.toNat - 1) 0))) rfl ?_
          refine g_iastore 143 Xl_16 hx hZ el_16 fl_16_3 (lv16.toInt.toNat) (own_nat0 (by omega)) rfl (by have q := Int32.lt_iff_toInt_lt.mp hc125_574; simp only [Int32.reduceToInt] at q; rw [hgl16]; omega) (z := ((gF16.getD lv16.toInt.toNat 0) + (gF16.getD (lv16.toInt.toNat - 1) 0))) rfl (hb hby d3_142) rfl ?_
          intro T576 h576 X576 e576 W576 A576
          have f577 := fl_16_0.other W576 (Nat.ne_of_lt (Nat.lt_of_lt_of_le fa_16.lt (Nat.le_of_eq g536.symm)))
          have f578 := fl_16_1.other W576 (Nat.ne_of_lt (Nat.lt_of_lt_of_le AX16.lt (Nat.le_of_eq g536.symm)))
          have f579 := fl_16_2.other W576 (Nat.ne_of_lt (Nat.lt_of_lt_of_le fc_16.lt (Nat.le_of_eq g536.symm)))
          have Zs580 : n0 ≤ h576.size := (Nat.le_trans Zl_16 (Keep.of_wr W576).1)
          have K581 : Keep h0 h576 [] := Kl_16.wr W576 (Or.inr sz_b536)
          have N582 := Fr.snoc X576 Nl_16 g_b536
          refine g_iinc 146 X576 hx (hb hby d3_143) rfl (x := lv16) rfl (z := (lv16 + (1 : Int32))) rfl (Ls' := #[.val (.ref a1), .val (.ref bb16), .val (.long bt), .second, .val (.ref cc16), .val (.int (16 : Int32)), .val (.ref b536), .val (.int (lv16 + (1 : Int32))), .val (.int (3 : Int32)), .val (.int (3 : Int32)), .val (.int x2_16)]) rfl ?_
          refine g_goto 120 X576 hx (hb hby d3_146) (by decide) (by decide) ?_
          exact ih_16 (lv16 + (1 : Int32)) (List.set gF16 (lv16.toInt.toNat) ((gF16.getD lv16.toInt.toNat 0) + (gF16.getD (lv16.toInt.toNat - 1) 0))) T576 h576 _ (by have q := Int32.lt_iff_toInt_lt.mp hc125_574; simp only [Int32.reduceToInt] at q; rw [own_inc (by omega)]; omega) (by have q := Int32.lt_iff_toInt_lt.mp hc125_574; simp only [Int32.reduceToInt] at q; rw [own_inc (by omega)]; omega) (by rw [List.length_set]; exact hgl16) (own_pfxstep lv16 gF16 _ (by have q := Int32.lt_iff_toInt_lt.mp hc125_574; simp only [Int32.reduceToInt] at q; omega) hgF16) X576 e576 N582 Zs580 K581 f577 f578 f579 A576
        ·
          refine g_icmpYes 149 Xl_16 hx (hb hby d3_125)  (flt hc125_574).2.1 (by decide) (by decide) ?_
          have hG16 : gF16 = own_pfx 256 1 (own_C r542.toInt.toNat r553.toInt.toNat r564.toInt.toNat) := by have q := mt Int32.lt_iff_toInt_lt.mpr hc125_574; simp only [Int32.reduceToInt] at q; rw [← hgF16, show (257 - lv16.toInt).toNat = 0 by omega]; rfl
          have hH16 := own_PS r542.toInt.toNat r553.toInt.toNat r564.toInt.toNat (by omega) (by omega) (by omega)
          rw [← hG16] at hH16
          have hQ16_ := own_qs gF16 r542.toInt.toNat r553.toInt.toNat r564.toInt.toNat (by omega) (by omega) (by omega) hH16
          have hq16_ := own_qB r542.toInt.toNat r553.toInt.toNat r564.toInt.toNat
          refine g_aloadN 150 Xl_16 hx (hb hby d3_149) rfl (v := (.ref bb16)) rfl rfl ?_
          refine g_astore 152 Xl_16 hx (hb hby d3_150) rfl (Ls' := #[.val (.ref a1), .val (.ref bb16), .val (.long bt), .second, .val (.ref cc16), .val (.int (16 : Int32)), .val (.ref b536), .val (.ref bb16), .val (.int (3 : Int32)), .val (.int (3 : Int32)), .val (.int x2_16)]) rfl rfl ?_
          refine g_aload 154 Xl_16 hx (hb hby d3_152) rfl (v := (.ref bb16)) rfl rfl ?_
          refine g_arraylengthI 155 Xl_16 hx hZ el_16 fl_16_1 (z := (3 : Int32)) rfl (hb hby d3_154) rfl ?_
          refine g_istore 157 Xl_16 hx (hb hby d3_155) rfl (Ls' := #[.val (.ref a1), .val (.ref bb16), .val (.long bt), .second, .val (.ref cc16), .val (.int (16 : Int32)), .val (.ref b536), .val (.ref bb16), .val (.int (3 : Int32)), .val (.int (3 : Int32)), .val (.int x2_16)]) rfl ?_
          refine g_iconst 158 Xl_16 hx (hb hby d3_157) rfl (z := (0 : Int32)) rfl ?_
          refine g_istore 160 Xl_16 hx (hb hby d3_158) rfl (Ls' := #[.val (.ref a1), .val (.ref bb16), .val (.long bt), .second, .val (.ref cc16), .val (.int (16 : Int32)), .val (.ref b536), .val (.ref bb16), .val (.int (3 : Int32)), .val (.int (0 : Int32)), .val (.int x2_16)]) rfl ?_
          refine g_iload 162 Xl_16 hx (hb hby d3_160) rfl (v := (0 : Int32)) rfl ?_
          refine g_iload 164 Xl_16 hx (hb hby d3_162) rfl (v := (3 : Int32)) rfl ?_
          refine g_icmpNo 167 Xl_16 hx (hb hby d3_164)  (tlt (by decide : (0 : Int32) < (3 : Int32))).2.1 rfl ?_
          refine g_aload 169 Xl_16 hx (hb hby d3_167) rfl (v := (.ref bb16)) rfl rfl ?_
          refine g_iload 171 Xl_16 hx (hb hby d3_169) rfl (v := (0 : Int32)) rfl ?_
          refine g_iaload 172 Xl_16 hx hZ el_16 fl_16_1 0 (by decide) rfl (z := x0_16) rfl (hb hby d3_171) rfl ?_
          refine g_istore 174 Xl_16 hx (hb hby d3_172) rfl (Ls' := #[.val (.ref a1), .val (.ref bb16), .val (.long bt), .second, .val (.ref cc16), .val (.int (16 : Int32)), .val (.ref b536), .val (.ref bb16), .val (.int (3 : Int32)), .val (.int (0 : Int32)), .val (.int x0_16)]) rfl ?_
          refine g_aload 176 Xl_16 hx (hb hby d3_174) rfl (v := (.ref cc16)) rfl rfl ?_
          refine g_aload 178 Xl_16 hx (hb hby d3_176) rfl (v := (.ref b536)) rfl rfl ?_
          refine g_aloadN 179 Xl_16 hx (hb hby d3_178) rfl (v := (.ref a1)) rfl rfl ?_
          refine g_iload 181 Xl_16 hx (hb hby d3_179) rfl (v := x0_16) rfl ?_
          refine g_laload 182 Xl_16 hx hZ el_16 fl_16_0 (x0_16.toInt.toNat) (own_nat0 hB16.1.1) rfl (z := (([w0, w1, w2] : List Int64).getD x0_16.toInt.toNat 0)) (own_getJ (by have q := hB16.1; show _ < 3; omega)) (hb hby d3_181) rfl ?_
          refine g_iload 184 Xl_16 hx (hb hby d3_182) rfl (v := (16 : Int32)) rfl ?_
          have hq184_hq_583 : 0 ≤ (([w0, w1, w2] : List Int64).getD x0_16.toInt.toNat 0).toInt := (own_wN w0 w1 w2 hW0 hW1 hW2 x0_16 hR16.1)
          have hq184_hp_584 : 0 ≤ (16 : Int32).toInt ∧ (16 : Int32).toInt ≤ 63 := by decide
          refine g_callS 187 Xl_16 hx hZ (y := (⟨"com/example/prefixwood/prefixwood/huffman/TwoQueues", "digit", "(JI)I"⟩ : MethodName)) hown (hw _ (List.mem_of_getElem? (i := 17) rfl)) (hw _ (List.mem_of_getElem? (i := 18) rfl)) (hw _ (List.mem_of_getElem? (i := 4) rfl)) (hw _ (List.mem_of_getElem? (i := 19) rfl)) (by decide) el_16 (rm4 l Z a0 hw [] (([w0, w1, w2] : List Int64).getD x0_16.toInt.toNat 0) (16 : Int32)  hl_16 n0 Zl_16 hq184_hq_583 hq184_hp_584) (by rw [hml]; rfl) [(.long (([w0, w1, w2] : List Int64).getD x0_16.toInt.toNat 0)), (.int (16 : Int32))] [(.ref b536), (.ref cc16)] rfl rfl (lenOf pd_0 rfl) 2 (Nat.le_of_eq rfl) (hb hby d3_184) (by decide) (by decide) (by decide) (by decide) rfl ?_
          intro v583 T583 L583 X583 hQ583
          obtain ⟨r583, rfl, hr583, N583q, e583⟩ := hQ583
          have N583 := Fr.app Nl_16 N583q
          show Go p e below s ({ frames := 1, cells := 10, slots := 2062, locals := 16 } : Room).cells ({ frames := 1, cells := 10, slots := 2062, locals := 16 } : Room).slots (Q3 Z a1 w0 w1 w2 h0 n0) T583 (mkF m 187 #[.val (.ref a1), .val (.ref bb16), .val (.long bt), .second, .val (.ref cc16), .val (.int (16 : Int32)), .val (.ref b536), .val (.ref bb16), .val (.int (3 : Int32)), .val (.int (0 : Int32)), .val (.int x0_16)] [(.int r583), (.ref b536), (.ref cc16)])
          have hs0_16 : r542 = r583 := own_z _ ((hD0_16 : _ = _).trans (hr583 : _ = _).symm)
          subst hs0_16
          refine g_dup2 188 X583 hx (hb hby d3_187) rfl rfl rfl ?_
          refine g_iaload 189 X583 hx hZ e583 fl_16_3 (r542.toInt.toNat) (own_nat0 (by omega)) rfl (z := (gF16.getD r542.toInt.toNat 0)) (own_get (by first | (simp only [own_upl]; rw [hgl16]; omega) | (rw [hgl16]; omega))) (hb hby d3_188) rfl ?_
          refine g_dup_x2 190 X583 hx (hb hby d3_189) rfl rfl rfl rfl ?_
          refine g_iconst 191 X583 hx (hb hby d3_190) rfl (z := (1 : Int32)) rfl ?_
          refine g_iadd 192 X583 hx (hb hby d3_191) rfl (z := ((gF16.getD r542.toInt.toNat 0) + (1 : Int32))) rfl ?_
          refine g_iastore 193 X583 hx hZ e583 fl_16_3 (r542.toInt.toNat) (own_nat0 (by omega)) rfl (by first | (simp only [own_upl]; rw [hgl16]; omega) | (rw [hgl16]; omega)) (z := ((gF16.getD r542.toInt.toNat 0) + (1 : Int32))) rfl (hb hby d3_192) rfl ?_
          intro T586 h586 X586 e586 W586 A586
          have f587 := fl_16_0.other W586 (Nat.ne_of_lt (Nat.lt_of_lt_of_le fa_16.lt (Nat.le_of_eq g536.symm)))
          have f588 := fl_16_1.other W586 (Nat.ne_of_lt (Nat.lt_of_lt_of_le AX16.lt (Nat.le_of_eq g536.symm)))
          have f589 := fl_16_2.other W586 (Nat.ne_of_lt (Nat.lt_of_lt_of_le fc_16.lt (Nat.le_of_eq g536.symm)))
          have Zs590 : n0 ≤ h586.size := (Nat.le_trans Zl_16 (Keep.of_wr W586).1)
          have K591 : Keep h0 h586 [] := Kl_16.wr W586 (Or.inr sz_b536)
          have N592 := Fr.snoc X586 N583 g_b536
          have AV593 : AI Z h586 b536 .int (own_up gF16 r542.toInt.toNat) := A586
          refine g_iload 195 X586 hx (hb hby d3_193) rfl (v := x0_16) rfl ?_
          refine g_iastore 196 X586 hx hZ e586 f589 (own_q0 r542.toInt.toNat r553.toInt.toNat r564.toInt.toNat) (own_nat0 (by rw [hQ16_.1]; exact Int.natCast_nonneg _)) (by show (Int32.toInt _).toNat = _; rw [hQ16_.1]; rfl) (by have q := hq16_.1; rw [hM16]; omega) (z := x0_16) rfl (hb hby d3_195) rfl ?_
          intro T594 h594 X594 e594 W594 A594
          have f595 := f587.other W594 nac_16
          have f596 := f588.other W594 nbc_16
          have f597 := AV593.other W594 (Ne.symm (Nat.ne_of_lt (Nat.lt_of_lt_of_le fc_16.lt (Nat.le_of_eq g536.symm))))
          have Zs598 : n0 ≤ h594.size := (Nat.le_trans Zs590 (Keep.of_wr W594).1)
          have K599 : Keep h0 h594 [] := K591.wr W594 (Or.inr sz_cc16)
          have N600 := Fr.snoc X594 N592 g_cc16
          refine g_iinc 199 X594 hx (hb hby d3_196) rfl (x := (0 : Int32)) rfl (z := (1 : Int32)) (by decide) (Ls' := #[.val (.ref a1), .val (.ref bb16), .val (.long bt), .second, .val (.ref cc16), .val (.int (16 : Int32)), .val (.ref b536), .val (.ref bb16), .val (.int (3 : Int32)), .val (.int (1 : Int32)), .val (.int x0_16)]) rfl ?_
          refine g_goto 160 X594 hx (hb hby d3_199) (by decide) (by decide) ?_
          refine g_iload 162 X594 hx (hb hby d3_160) rfl (v := (1 : Int32)) rfl ?_
          refine g_iload 164 X594 hx (hb hby d3_162) rfl (v := (3 : Int32)) rfl ?_
          refine g_icmpNo 167 X594 hx (hb hby d3_164)  (tlt (by decide : (1 : Int32) < (3 : Int32))).2.1 rfl ?_
          refine g_aload 169 X594 hx (hb hby d3_167) rfl (v := (.ref bb16)) rfl rfl ?_
          refine g_iload 171 X594 hx (hb hby d3_169) rfl (v := (1 : Int32)) rfl ?_
          refine g_iaload 172 X594 hx hZ e594 f596 1 (by decide) rfl (z := x1_16) rfl (hb hby d3_171) rfl ?_
          refine g_istore 174 X594 hx (hb hby d3_172) rfl (Ls' := #[.val (.ref a1), .val (.ref bb16), .val (.long bt), .second, .val (.ref cc16), .val (.int (16 : Int32)), .val (.ref b536), .val (.ref bb16), .val (.int (3 : Int32)), .val (.int (1 : Int32)), .val (.int x1_16)]) rfl ?_
          refine g_aload 176 X594 hx (hb hby d3_174) rfl (v := (.ref cc16)) rfl rfl ?_
          refine g_aload 178 X594 hx (hb hby d3_176) rfl (v := (.ref b536)) rfl rfl ?_
          refine g_aloadN 179 X594 hx (hb hby d3_178) rfl (v := (.ref a1)) rfl rfl ?_
          refine g_iload 181 X594 hx (hb hby d3_179) rfl (v := x1_16) rfl ?_
          refine g_laload 182 X594 hx hZ e594 f595 (x1_16.toInt.toNat) (own_nat0 hB16.2.1.1) rfl (z := (([w0, w1, w2] : List Int64).getD x1_16.toInt.toNat 0)) (own_getJ (by have q := hB16.2.1; show _ < 3; omega)) (hb hby d3_181) rfl ?_
          refine g_iload 184 X594 hx (hb hby d3_182) rfl (v := (16 : Int32)) rfl ?_
          have hq184_hq_601 : 0 ≤ (([w0, w1, w2] : List Int64).getD x1_16.toInt.toNat 0).toInt := (own_wN w0 w1 w2 hW0 hW1 hW2 x1_16 hR16.2.1)
          have hq184_hp_602 : 0 ≤ (16 : Int32).toInt ∧ (16 : Int32).toInt ≤ 63 := by decide
          refine g_callS 187 X594 hx hZ (y := (⟨"com/example/prefixwood/prefixwood/huffman/TwoQueues", "digit", "(JI)I"⟩ : MethodName)) hown (hw _ (List.mem_of_getElem? (i := 17) rfl)) (hw _ (List.mem_of_getElem? (i := 18) rfl)) (hw _ (List.mem_of_getElem? (i := 4) rfl)) (hw _ (List.mem_of_getElem? (i := 19) rfl)) (by decide) e594 (rm4 l Z a0 hw [] (([w0, w1, w2] : List Int64).getD x1_16.toInt.toNat 0) (16 : Int32)  h594 n0 Zs598 hq184_hq_601 hq184_hp_602) (by rw [hml]; rfl) [(.long (([w0, w1, w2] : List Int64).getD x1_16.toInt.toNat 0)), (.int (16 : Int32))] [(.ref b536), (.ref cc16)] rfl rfl (lenOf pd_0 rfl) 2 (Nat.le_of_eq rfl) (hb hby d3_184) (by decide) (by decide) (by decide) (by decide) rfl ?_
          intro v601 T601 L601 X601 hQ601
          obtain ⟨r601, rfl, hr601, N601q, e601⟩ := hQ601
          have N601 := Fr.app N600 N601q
          show Go p e below s ({ frames := 1, cells := 10, slots := 2062, locals := 16 } : Room).cells ({ frames := 1, cells := 10, slots := 2062, locals := 16 } : Room).slots (Q3 Z a1 w0 w1 w2 h0 n0) T601 (mkF m 187 #[.val (.ref a1), .val (.ref bb16), .val (.long bt), .second, .val (.ref cc16), .val (.int (16 : Int32)), .val (.ref b536), .val (.ref bb16), .val (.int (3 : Int32)), .val (.int (1 : Int32)), .val (.int x1_16)] [(.int r601), (.ref b536), (.ref cc16)])
          have hs1_16 : r553 = r601 := own_z _ ((hD1_16 : _ = _).trans (hr601 : _ = _).symm)
          subst hs1_16
          refine g_dup2 188 X601 hx (hb hby d3_187) rfl rfl rfl ?_
          refine g_iaload 189 X601 hx hZ e601 f597 (r553.toInt.toNat) (own_nat0 (by omega)) rfl (z := ((own_up gF16 r542.toInt.toNat).getD r553.toInt.toNat 0)) (own_get (by first | (simp only [own_upl]; rw [hgl16]; omega) | (rw [hgl16]; omega))) (hb hby d3_188) rfl ?_
          refine g_dup_x2 190 X601 hx (hb hby d3_189) rfl rfl rfl rfl ?_
          refine g_iconst 191 X601 hx (hb hby d3_190) rfl (z := (1 : Int32)) rfl ?_
          refine g_iadd 192 X601 hx (hb hby d3_191) rfl (z := (((own_up gF16 r542.toInt.toNat).getD r553.toInt.toNat 0) + (1 : Int32))) rfl ?_
          refine g_iastore 193 X601 hx hZ e601 f597 (r553.toInt.toNat) (own_nat0 (by omega)) rfl (by first | (simp only [own_upl]; rw [hgl16]; omega) | (rw [hgl16]; omega)) (z := (((own_up gF16 r542.toInt.toNat).getD r553.toInt.toNat 0) + (1 : Int32))) rfl (hb hby d3_192) rfl ?_
          intro T604 h604 X604 e604 W604 A604
          have f605 := f595.other W604 (Nat.ne_of_lt (Nat.lt_of_lt_of_le fa_16.lt (Nat.le_of_eq g536.symm)))
          have f606 := f596.other W604 (Nat.ne_of_lt (Nat.lt_of_lt_of_le AX16.lt (Nat.le_of_eq g536.symm)))
          have f607 := A594.other W604 (Nat.ne_of_lt (Nat.lt_of_lt_of_le fc_16.lt (Nat.le_of_eq g536.symm)))
          have Zs608 : n0 ≤ h604.size := (Nat.le_trans Zs598 (Keep.of_wr W604).1)
          have K609 : Keep h0 h604 [] := K599.wr W604 (Or.inr sz_b536)
          have N610 := Fr.snoc X604 N601 g_b536
          have AV611 : AI Z h604 b536 .int (own_up (own_up gF16 r542.toInt.toNat) r553.toInt.toNat) := A604
          refine g_iload 195 X604 hx (hb hby d3_193) rfl (v := x1_16) rfl ?_
          refine g_iastore 196 X604 hx hZ e604 f607 (own_q1 r542.toInt.toNat r553.toInt.toNat r564.toInt.toNat) (own_nat0 (by rw [hQ16_.2.1]; exact Int.natCast_nonneg _)) (by show (Int32.toInt _).toNat = _; rw [hQ16_.2.1]; rfl) (by have q := hq16_.2.1; rw [List.length_set, hM16]; omega) (z := x1_16) rfl (hb hby d3_195) rfl ?_
          intro T612 h612 X612 e612 W612 A612
          have f613 := f605.other W612 nac_16
          have f614 := f606.other W612 nbc_16
          have f615 := AV611.other W612 (Ne.symm (Nat.ne_of_lt (Nat.lt_of_lt_of_le fc_16.lt (Nat.le_of_eq g536.symm))))
          have Zs616 : n0 ≤ h612.size := (Nat.le_trans Zs608 (Keep.of_wr W612).1)
          have K617 : Keep h0 h612 [] := K609.wr W612 (Or.inr sz_cc16)
          have N618 := Fr.snoc X612 N610 g_cc16
          refine g_iinc 199 X612 hx (hb hby d3_196) rfl (x := (1 : Int32)) rfl (z := (2 : Int32)) (by decide) (Ls' := #[.val (.ref a1), .val (.ref bb16), .val (.long bt), .second, .val (.ref cc16), .val (.int (16 : Int32)), .val (.ref b536), .val (.ref bb16), .val (.int (3 : Int32)), .val (.int (2 : Int32)), .val (.int x1_16)]) rfl ?_
          refine g_goto 160 X612 hx (hb hby d3_199) (by decide) (by decide) ?_
          refine g_iload 162 X612 hx (hb hby d3_160) rfl (v := (2 : Int32)) rfl ?_
          refine g_iload 164 X612 hx (hb hby d3_162) rfl (v := (3 : Int32)) rfl ?_
          refine g_icmpNo 167 X612 hx (hb hby d3_164)  (tlt (by decide : (2 : Int32) < (3 : Int32))).2.1 rfl ?_
          refine g_aload 169 X612 hx (hb hby d3_167) rfl (v := (.ref bb16)) rfl rfl ?_
          refine g_iload 171 X612 hx (hb hby d3_169) rfl (v := (2 : Int32)) rfl ?_
          refine g_iaload 172 X612 hx hZ e612 f614 2 (by decide) rfl (z := x2_16) rfl (hb hby d3_171) rfl ?_
          refine g_istore 174 X612 hx (hb hby d3_172) rfl (Ls' := #[.val (.ref a1), .val (.ref bb16), .val (.long bt), .second, .val (.ref cc16), .val (.int (16 : Int32)), .val (.ref b536), .val (.ref bb16), .val (.int (3 : Int32)), .val (.int (2 : Int32)), .val (.int x2_16)]) rfl ?_
          refine g_aload 176 X612 hx (hb hby d3_174) rfl (v := (.ref cc16)) rfl rfl ?_
          refine g_aload 178 X612 hx (hb hby d3_176) rfl (v := (.ref b536)) rfl rfl ?_
          refine g_aloadN 179 X612 hx (hb hby d3_178) rfl (v := (.ref a1)) rfl rfl ?_
          refine g_iload 181 X612 hx (hb hby d3_179) rfl (v := x2_16) rfl ?_
          refine g_laload 182 X612 hx hZ e612 f613 (x2_16.toInt.toNat) (own_nat0 hB16.2.2.1) rfl (z := (([w0, w1, w2] : List Int64).getD x2_16.toInt.toNat 0)) (own_getJ (by have q := hB16.2.2; show _ < 3; omega)) (hb hby d3_181) rfl ?_
          refine g_iload 184 X612 hx (hb hby d3_182) rfl (v := (16 : Int32)) rfl ?_
          have hq184_hq_619 : 0 ≤ (([w0, w1, w2] : List Int64).getD x2_16.toInt.toNat 0).toInt := (own_wN w0 w1 w2 hW0 hW1 hW2 x2_16 hR16.2.2)
          have hq184_hp_620 : 0 ≤ (16 : Int32).toInt ∧ (16 : Int32).toInt ≤ 63 := by decide
          refine g_callS 187 X612 hx hZ (y := (⟨"com/example/prefixwood/prefixwood/huffman/TwoQueues", "digit", "(JI)I"⟩ : MethodName)) hown (hw _ (List.mem_of_getElem? (i := 17) rfl)) (hw _ (List.mem_of_getElem? (i := 18) rfl)) (hw _ (List.mem_of_getElem? (i := 4) rfl)) (hw _ (List.mem_of_getElem? (i := 19) rfl)) (by decide) e612 (rm4 l Z a0 hw [] (([w0, w1, w2] : List Int64).getD x2_16.toInt.toNat 0) (16 : Int32)  h612 n0 Zs616 hq184_hq_619 hq184_hp_620) (by rw [hml]; rfl) [(.long (([w0, w1, w2] : List Int64).getD x2_16.toInt.toNat 0)), (.int (16 : Int32))] [(.ref b536), (.ref cc16)] rfl rfl (lenOf pd_0 rfl) 2 (Nat.le_of_eq rfl) (hb hby d3_184) (by decide) (by decide) (by decide) (by decide) rfl ?_
          intro v619 T619 L619 X619 hQ619
          obtain ⟨r619, rfl, hr619, N619q, e619⟩ := hQ619
          have N619 := Fr.app N618 N619q
          show Go p e below s ({ frames := 1, cells := 10, slots := 2062, locals := 16 } : Room).cells ({ frames := 1, cells := 10, slots := 2062, locals := 16 } : Room).slots (Q3 Z a1 w0 w1 w2 h0 n0) T619 (mkF m 187 #[.val (.ref a1), .val (.ref bb16), .val (.long bt), .second, .val (.ref cc16), .val (.int (16 : Int32)), .val (.ref b536), .val (.ref bb16), .val (.int (3 : Int32)), .val (.int (2 : Int32)), .val (.int x2_16)] [(.int r619), (.ref b536), (.ref cc16)])
          have hs2_16 : r564 = r619 := own_z _ ((hD2_16 : _ = _).trans (hr619 : _ = _).symm)
          subst hs2_16
          refine g_dup2 188 X619 hx (hb hby d3_187) rfl rfl rfl ?_
          refine g_iaload 189 X619 hx hZ e619 f615 (r564.toInt.toNat) (own_nat0 (by omega)) rfl (z := ((own_up (own_up gF16 r542.toInt.toNat) r553.toInt.toNat).getD r564.toInt.toNat 0)) (own_get (by first | (simp only [own_upl]; rw [hgl16]; omega) | (rw [hgl16]; omega))) (hb hby d3_188) rfl ?_
          refine g_dup_x2 190 X619 hx (hb hby d3_189) rfl rfl rfl rfl ?_
          refine g_iconst 191 X619 hx (hb hby d3_190) rfl (z := (1 : Int32)) rfl ?_
          refine g_iadd 192 X619 hx (hb hby d3_191) rfl (z := (((own_up (own_up gF16 r542.toInt.toNat) r553.toInt.toNat).getD r564.toInt.toNat 0) + (1 : Int32))) rfl ?_
          refine g_iastore 193 X619 hx hZ e619 f615 (r564.toInt.toNat) (own_nat0 (by omega)) rfl (by first | (simp only [own_upl]; rw [hgl16]; omega) | (rw [hgl16]; omega)) (z := (((own_up (own_up gF16 r542.toInt.toNat) r553.toInt.toNat).getD r564.toInt.toNat 0) + (1 : Int32))) rfl (hb hby d3_192) rfl ?_
          intro T622 h622 X622 e622 W622 A622
          have f623 := f613.other W622 (Nat.ne_of_lt (Nat.lt_of_lt_of_le fa_16.lt (Nat.le_of_eq g536.symm)))
          have f624 := f614.other W622 (Nat.ne_of_lt (Nat.lt_of_lt_of_le AX16.lt (Nat.le_of_eq g536.symm)))
          have f625 := A612.other W622 (Nat.ne_of_lt (Nat.lt_of_lt_of_le fc_16.lt (Nat.le_of_eq g536.symm)))
          have Zs626 : n0 ≤ h622.size := (Nat.le_trans Zs616 (Keep.of_wr W622).1)
          have K627 : Keep h0 h622 [] := K617.wr W622 (Or.inr sz_b536)
          have N628 := Fr.snoc X622 N619 g_b536
          have AV629 : AI Z h622 b536 .int (own_up (own_up (own_up gF16 r542.toInt.toNat) r553.toInt.toNat) r564.toInt.toNat) := A622
          refine g_iload 195 X622 hx (hb hby d3_193) rfl (v := x2_16) rfl ?_
          refine g_iastore 196 X622 hx hZ e622 f625 (own_q2 r542.toInt.toNat r553.toInt.toNat r564.toInt.toNat) (own_nat0 (by rw [hQ16_.2.2]; exact Int.natCast_nonneg _)) (by show (Int32.toInt _).toNat = _; rw [hQ16_.2.2]; rfl) (by have q := hq16_.2.2; rw [List.length_set, List.length_set, hM16]; omega) (z := x2_16) rfl (hb hby d3_195) rfl ?_
          intro T630 h630 X630 e630 W630 A630
          have f631 := f623.other W630 nac_16
          have f632 := f624.other W630 nbc_16
          have f633 := AV629.other W630 (Ne.symm (Nat.ne_of_lt (Nat.lt_of_lt_of_le fc_16.lt (Nat.le_of_eq g536.symm))))
          have Zs634 : n0 ≤ h630.size := (Nat.le_trans Zs626 (Keep.of_wr W630).1)
          have K635 : Keep h0 h630 [] := K627.wr W630 (Or.inr sz_cc16)
          have N636 := Fr.snoc X630 N628 g_cc16
          refine g_iinc 199 X630 hx (hb hby d3_196) rfl (x := (2 : Int32)) rfl (z := (3 : Int32)) (by decide) (Ls' := #[.val (.ref a1), .val (.ref bb16), .val (.long bt), .second, .val (.ref cc16), .val (.int (16 : Int32)), .val (.ref b536), .val (.ref bb16), .val (.int (3 : Int32)), .val (.int (3 : Int32)), .val (.int x2_16)]) rfl ?_
          refine g_goto 160 X630 hx (hb hby d3_199) (by decide) (by decide) ?_
          refine g_iload 162 X630 hx (hb hby d3_160) rfl (v := (3 : Int32)) rfl ?_
          refine g_iload 164 X630 hx (hb hby d3_162) rfl (v := (3 : Int32)) rfl ?_
          refine g_icmpYes 202 X630 hx (hb hby d3_164)  (flt (Int32.lt_irrefl)).2.1 (by decide) (by decide) ?_
          refine g_aloadN 203 X630 hx (hb hby d3_202) rfl (v := (.ref bb16)) rfl rfl ?_
          refine g_astore 205 X630 hx (hb hby d3_203) rfl (Ls' := #[.val (.ref a1), .val (.ref bb16), .val (.long bt), .second, .val (.ref cc16), .val (.int (16 : Int32)), .val (.ref b536), .val (.ref bb16), .val (.int (3 : Int32)), .val (.int (3 : Int32)), .val (.int x2_16)]) rfl rfl ?_
          refine g_aload 207 X630 hx (hb hby d3_205) rfl (v := (.ref cc16)) rfl rfl ?_
          refine g_astoreN 208 X630 hx (hb hby d3_207) rfl (Ls' := #[.val (.ref a1), .val (.ref cc16), .val (.long bt), .second, .val (.ref cc16), .val (.int (16 : Int32)), .val (.ref b536), .val (.ref bb16), .val (.int (3 : Int32)), .val (.int (3 : Int32)), .val (.int x2_16)]) rfl rfl ?_
          refine g_aload 210 X630 hx (hb hby d3_208) rfl (v := (.ref bb16)) rfl rfl ?_
          refine g_astore 212 X630 hx (hb hby d3_210) rfl (Ls' := #[.val (.ref a1), .val (.ref cc16), .val (.long bt), .second, .val (.ref bb16), .val (.int (16 : Int32)), .val (.ref b536), .val (.ref bb16), .val (.int (3 : Int32)), .val (.int (3 : Int32)), .val (.int x2_16)]) rfl rfl ?_
          refine g_iinc 215 X630 hx (hb hby d3_212) rfl (x := (16 : Int32)) rfl (z := (24 : Int32)) (by decide) (Ls' := #[.val (.ref a1), .val (.ref cc16), .val (.long bt), .second, .val (.ref bb16), .val (.int (24 : Int32)), .val (.ref b536), .val (.ref bb16), .val (.int (3 : Int32)), .val (.int (3 : Int32)), .val (.int x2_16)]) rfl ?_
          refine g_goto 45 X630 hx (hb hby d3_215) (by decide) (by decide) ?_
          have AK24 : AI Z h630 cc16 .int (own_K w0 w1 w2 24) := by rw [← own_passL w0 w1 w2 16 x0_16 x1_16 x2_16 r542 r553 r564 MM16 hM16 hX16 hD0_16 hD1_16 hD2_16]; exact A630
          exact pass_24 l Z a0 hw a1 w0 w1 w2 h0 n0 hW0 hW1 hW2 hret hZ hx hby hml hown hlk bt hbt cc16 bb16 b536 bb16 x2_16 [x0_16, x1_16, x2_16] T630 h630 _ rfl (Ne.symm nbc_16) nac_16 nab_16 g_cc16 g_bb16 sz_cc16 sz_bb16 X630 e630 N636 Zs634 K635 f631 AK24 f632
    exact LOOP120_16 _ (1 : Int32) (own_C r542.toInt.toNat r553.toInt.toNat r564.toInt.toNat) T567 h567 _ (Nat.lt_succ_self _) (by decide) ((own_CS r542.toInt.toNat r553.toInt.toNat r564.toInt.toNat (by omega) (by omega) (by omega)).1) rfl X567 e567 N573 Zs571 K572 f568 f569 f570 AU574
set_option maxRecDepth 65536 in
set_option maxHeartbeats 40000000 in
theorem pass_8 (l : Launch) (Z : State) (a0 : Array Value) (hw : ∀ d ∈ tables_1, d.before a0 Z = true) (a1 : Addr) (w0 w1 w2 : Int64) (h0 : Heap) (n0 : Nat) (hW0 : 0 ≤ w0.toInt) (hW1 : 0 ≤ w1.toInt) (hW2 : 0 ≤ w2.toInt) {p : Program} {e : Env} {s : State} {m : MethodId} {below : List Frame} {meth : Method} {c : Code} (hret : meth.sig.returnType = some FieldType.int.array) (hZ : Z.Warmed39 s.vm) (hx : p.tables.exec = Jvm.exec) (hby : c.code = prog_51_method_4_code) (hml : c.maxLocals = 11) (hown : s.vm.findClass "com/example/prefixwood/prefixwood/huffman/TwoQueues" = some m.cls) (hlk : meth.locks = false) (bt : Int64) (hbt : bt.toBitVec = (w0.toBitVec ||| w1.toBitVec) ||| w2.toBitVec) :
    ∀ (bb8 cc8 ea8 eb8 : Addr) (yy8 : Int32) (MM8 : List Int32) (Tp_8 : State) (hp_8 : Heap) (lp_8 : List Loc), (MM8.length = 3) → (bb8 ≠ cc8) → (a1 ≠ bb8) → (a1 ≠ cc8) → (n0 ≤ bb8) → (n0 ≤ cc8) → (h0.size ≤ bb8) → (h0.size ≤ cc8) → (Stand p l e ({ frames := 1, cells := 10, slots := 2062, locals := 16 } : Room) s m #[(.ref a1)] below meth c Tp_8 lp_8 3 263) → (Tp_8.heap = hp_8) → (Fr n0 lp_8) → (n0 ≤ hp_8.size) → (Keep h0 hp_8 []) → (AJ Z hp_8 a1 [w0, w1, w2]) → (AI Z hp_8 bb8 .int (own_K w0 w1 w2 8)) → (AI Z hp_8 cc8 .int MM8) → Go p e below s ({ frames := 1, cells := 10, slots := 2062, locals := 16 } : Room).cells ({ frames := 1, cells := 10, slots := 2062, locals := 16 } : Room).slots (Q3 Z a1 w0 w1 w2 h0 n0) Tp_8 (mkF m 45 #[.val (.ref a1), .val (.ref bb8), .val (.long bt), .second, .val (.ref cc8), .val (.int (8 : Int32)), .val (.ref ea8), .val (.ref eb8), .val (.int (3 : Int32)), .val (.int (3 : Int32)), .val (.int yy8)] []) := by
  intro bb8 cc8 ea8 eb8 yy8 MM8 Tp_8 hp_8 lp_8 hM8 nbc_8 nab_8 nac_8 g_bb8 g_cc8 sz_bb8 sz_cc8 Xp_8 ep_8 Np_8 Zp_8 Kp_8 fa_8 fb_8 fc_8
  obtain ⟨x0_8, x1_8, x2_8, hk8, hX8⟩ := own_KX w0 w1 w2 8
  have AX8 : AI Z hp_8 bb8 .int [x0_8, x1_8, x2_8] := by rw [← hk8]; exact fb_8
  have hR8 := own_sixR _ _ _ _ _ _ hX8
  have hB8 := own_sixB _ _ _ _ _ _ hX8
  refine g_iload 47 Xp_8 hx (hb hby d3_45) rfl (v := (8 : Int32)) rfl ?_
  refine g_bipush 49 Xp_8 hx (hb hby d3_47) rfl (z := (64 : Int32)) rfl ?_
  refine g_icmpNo 52 Xp_8 hx (hb hby d3_49)  (tlt (by decide : (8 : Int32) < (64 : Int32))).2.1 rfl ?_
  refine g_lloadN 53 Xp_8 hx (hb hby d3_52) rfl (v := bt) rfl ?_
  refine g_iload 55 Xp_8 hx (hb hby d3_53) rfl (v := (8 : Int32)) rfl ?_
  refine g_lushr 56 Xp_8 hx (hb hby d3_55) rfl (z := ((bt.toUInt64 >>> ((8 : Int32) &&& 0x3f).toInt64.toUInt64).toInt64)) rfl ?_
  refine g_lconst 57 Xp_8 hx (hb hby d3_56) rfl (z := (0 : Int64)) rfl ?_
  by_cases hc57_636 : ((bt.toUInt64 >>> ((8 : Int32) &&& 0x3f).toInt64.toUInt64).toInt64) = (0 : Int64)
  ·
    refine g_lcmpYes 218 Xp_8 hx (hb hby d3_57) rfl (hb hby d3_58) (teqL hc57_636).1 (by decide) (by decide) ?_
    refine g_aloadN 219 Xp_8 hx (hb hby d3_218) rfl (v := (.ref bb8)) rfl rfl ?_
    have hend : own_K w0 w1 w2 8 = own_Srt w0 w1 w2 := (fun q => own_KS w0 w1 w2 8 q.1 q.2.1 q.2.2) (own_bitsL w0 w1 w2 (8 : Int32) 8 (by decide) hW0 hW1 hW2 bt hbt hc57_636)
    rw [hend] at fb_8
    exact g_retA Xp_8 hx hret hlk rfl rfl rfl (hb hby d3_219) (by decide) (by decide) (by
        show Q3 Z a1 w0 w1 w2 h0 n0 _ Tp_8.heap _
        rw [ep_8]
        exact ⟨bb8, rfl, Np_8, Kp_8, g_bb8, sz_bb8, fb_8⟩)
  ·
    refine g_lcmpNo 61 Xp_8 hx (hb hby d3_57) rfl (hb hby d3_58) (feqL hc57_636).1 rfl ?_
    refine g_sipush 64 Xp_8 hx (hb hby d3_61) rfl (z := (257 : Int32)) rfl ?_
    refine g_new_int 66 Xp_8 hx hZ (hw _ (List.mem_of_getElem? (i := 16) rfl)) ep_8 257 257 (by decide) rfl (by decide) (by decide) (by decide) (by decide) (hb hby d3_64) rfl ?_
    intro T638 h638 b638 X638 e638 E638 g638 A638
    have f639 := fa_8.ext E638
    have f640 := AX8.ext E638
    have f641 := fc_8.ext E638
    have Zs642 : n0 ≤ h638.size := (Nat.le_trans Zp_8 E638.1)
    have K643 : Keep h0 h638 [] := Kp_8.ext E638
    have g_b638 : n0 ≤ b638 := Nat.le_trans Zp_8 (Nat.le_of_eq g638.symm)
    have sz_b638 : h0.size ≤ b638 := Nat.le_trans Kp_8.1 (Nat.le_of_eq g638.symm)
    refine g_astore 68 X638 hx (hb hby d3_66) rfl (Ls' := #[.val (.ref a1), .val (.ref bb8), .val (.long bt), .second, .val (.ref cc8), .val (.int (8 : Int32)), .val (.ref b638), .val (.ref eb8), .val (.int (3 : Int32)), .val (.int (3 : Int32)), .val (.int yy8)]) rfl rfl ?_
    refine g_aloadN 69 X638 hx (hb hby d3_68) rfl (v := (.ref bb8)) rfl rfl ?_
    refine g_astore 71 X638 hx (hb hby d3_69) rfl (Ls' := #[.val (.ref a1), .val (.ref bb8), .val (.long bt), .second, .val (.ref cc8), .val (.int (8 : Int32)), .val (.ref b638), .val (.ref bb8), .val (.int (3 : Int32)), .val (.int (3 : Int32)), .val (.int yy8)]) rfl rfl ?_
    refine g_aload 73 X638 hx (hb hby d3_71) rfl (v := (.ref bb8)) rfl rfl ?_
    refine g_arraylengthI 74 X638 hx hZ e638 f640 (z := (3 : Int32)) rfl (hb hby d3_73) rfl ?_
    refine g_istore 76 X638 hx (hb hby d3_74) rfl (Ls' := #[.val (.ref a1), .val (.ref bb8), .val (.long bt), .second, .val (.ref cc8), .val (.int (8 : Int32)), .val (.ref b638), .val (.ref bb8), .val (.int (3 : Int32)), .val (.int (3 : Int32)), .val (.int yy8)]) rfl ?_
    refine g_iconst 77 X638 hx (hb hby d3_76) rfl (z := (0 : Int32)) rfl ?_
    refine g_istore 79 X638 hx (hb hby d3_77) rfl (Ls' := #[.val (.ref a1), .val (.ref bb8), .val (.long bt), .second, .val (.ref cc8), .val (.int (8 : Int32)), .val (.ref b638), .val (.ref bb8), .val (.int (3 : Int32)), .val (.int (0 : Int32)), .val (.int yy8)]) rfl ?_
    refine g_iload 81 X638 hx (hb hby d3_79) rfl (v := (0 : Int32)) rfl ?_
    refine g_iload 83 X638 hx (hb hby d3_81) rfl (v := (3 : Int32)) rfl ?_
    refine g_icmpNo 86 X638 hx (hb hby d3_83)  (tlt (by decide : (0 : Int32) < (3 : Int32))).2.1 rfl ?_
    refine g_aload 88 X638 hx (hb hby d3_86) rfl (v := (.ref bb8)) rfl rfl ?_
    refine g_iload 90 X638 hx (hb hby d3_88) rfl (v := (0 : Int32)) rfl ?_
    refine g_iaload 91 X638 hx hZ e638 f640 0 (by decide) rfl (z := x0_8) rfl (hb hby d3_90) rfl ?_
    refine g_istore 93 X638 hx (hb hby d3_91) rfl (Ls' := #[.val (.ref a1), .val (.ref bb8), .val (.long bt), .second, .val (.ref cc8), .val (.int (8 : Int32)), .val (.ref b638), .val (.ref bb8), .val (.int (3 : Int32)), .val (.int (0 : Int32)), .val (.int x0_8)]) rfl ?_
    refine g_aload 95 X638 hx (hb hby d3_93) rfl (v := (.ref b638)) rfl rfl ?_
    refine g_aloadN 96 X638 hx (hb hby d3_95) rfl (v := (.ref a1)) rfl rfl ?_
    refine g_iload 98 X638 hx (hb hby d3_96) rfl (v := x0_8) rfl ?_
    refine g_laload 99 X638 hx hZ e638 f639 (x0_8.toInt.toNat) (own_nat0 hB8.1.1) rfl (z := (([w0, w1, w2] : List Int64).getD x0_8.toInt.toNat 0)) (own_getJ (by have q := hB8.1; show _ < 3; omega)) (hb hby d3_98) rfl ?_
    refine g_iload 101 X638 hx (hb hby d3_99) rfl (v := (8 : Int32)) rfl ?_
    have hq101_hq_644 : 0 ≤ (([w0, w1, w2] : List Int64).getD x0_8.toInt.toNat 0).toInt := (own_wN w0 w1 w2 hW0 hW1 hW2 x0_8 hR8.1)
    have hq101_hp_645 : 0 ≤ (8 : Int32).toInt ∧ (8 : Int32).toInt ≤ 63 := by decide
    refine g_callS 104 X638 hx hZ (y := (⟨"com/example/prefixwood/prefixwood/huffman/TwoQueues", "digit", "(JI)I"⟩ : MethodName)) hown (hw _ (List.mem_of_getElem? (i := 17) rfl)) (hw _ (List.mem_of_getElem? (i := 18) rfl)) (hw _ (List.mem_of_getElem? (i := 4) rfl)) (hw _ (List.mem_of_getElem? (i := 19) rfl)) (by decide) e638 (rm4 l Z a0 hw [] (([w0, w1, w2] : List Int64).getD x0_8.toInt.toNat 0) (8 : Int32)  h638 n0 Zs642 hq101_hq_644 hq101_hp_645) (by rw [hml]; rfl) [(.long (([w0, w1, w2] : List Int64).getD x0_8.toInt.toNat 0)), (.int (8 : Int32))] [(.ref b638)] rfl rfl (lenOf pd_0 rfl) 1 (Nat.le_of_eq rfl) (hb hby d3_101) (by decide) (by decide) (by decide) (by decide) rfl ?_
    intro v644 T644 L644 X644 hQ644
    obtain ⟨r644, rfl, hr644, N644q, e644⟩ := hQ644
    have N644 := Fr.app Np_8 N644q
    show Go p e below s ({ frames := 1, cells := 10, slots := 2062, locals := 16 } : Room).cells ({ frames := 1, cells := 10, slots := 2062, locals := 16 } : Room).slots (Q3 Z a1 w0 w1 w2 h0 n0) T644 (mkF m 104 #[.val (.ref a1), .val (.ref bb8), .val (.long bt), .second, .val (.ref cc8), .val (.int (8 : Int32)), .val (.ref b638), .val (.ref bb8), .val (.int (3 : Int32)), .val (.int (0 : Int32)), .val (.int x0_8)] [(.int r644), (.ref b638)])
    have hD0_8 : own_dig (([w0, w1, w2] : List Int64).getD x0_8.toInt.toNat 0) 8 r644 := hr644
    have hE0_8 := own_dgB _ _ _ hD0_8
    refine g_iconst 105 X644 hx (hb hby d3_104) rfl (z := (1 : Int32)) rfl ?_
    refine g_iadd 106 X644 hx (hb hby d3_105) rfl (z := (r644 + (1 : Int32))) rfl ?_
    refine g_dup2 107 X644 hx (hb hby d3_106) rfl rfl rfl ?_
    refine g_iaload 108 X644 hx hZ e644 A638 (r644.toInt.toNat + 1) (own_nat0 (by have q := hE0_8; rw [own_inc (by omega)]; omega)) (by have q := hE0_8; show (Int32.toInt _).toNat = _; rw [own_inc (by omega)]; omega) (z := ((List.replicate 257 (0 : Int32)).getD (r644.toInt.toNat + 1) 0)) (own_get (by have q := hE0_8; simp only [own_upl, List.length_replicate]; omega)) (hb hby d3_107) rfl ?_
    refine g_iconst 109 X644 hx (hb hby d3_108) rfl (z := (1 : Int32)) rfl ?_
    refine g_iadd 110 X644 hx (hb hby d3_109) rfl (z := (((List.replicate 257 (0 : Int32)).getD (r644.toInt.toNat + 1) 0) + (1 : Int32))) rfl ?_
    refine g_iastore 111 X644 hx hZ e644 A638 (r644.toInt.toNat + 1) (own_nat0 (by have q := hE0_8; rw [own_inc (by omega)]; omega)) (by have q := hE0_8; show (Int32.toInt _).toNat = _; rw [own_inc (by omega)]; omega) (by have q := hE0_8; simp only [own_upl, List.length_replicate]; omega) (z := (((List.replicate 257 (0 : Int32)).getD (r644.toInt.toNat + 1) 0) + (1 : Int32))) rfl (hb hby d3_110) rfl ?_
    intro T647 h647 X647 e647 W647 A647
    have f648 := f639.other W647 (Nat.ne_of_lt (Nat.lt_of_lt_of_le fa_8.lt (Nat.le_of_eq g638.symm)))
    have f649 := f640.other W647 (Nat.ne_of_lt (Nat.lt_of_lt_of_le AX8.lt (Nat.le_of_eq g638.symm)))
    have f650 := f641.other W647 (Nat.ne_of_lt (Nat.lt_of_lt_of_le fc_8.lt (Nat.le_of_eq g638.symm)))
    have Zs651 : n0 ≤ h647.size := (Nat.le_trans Zs642 (Keep.of_wr W647).1)
    have K652 : Keep h0 h647 [] := K643.wr W647 (Or.inr sz_b638)
    have N653 := Fr.snoc X647 N644 g_b638
    have AU654 : AI Z h647 b638 .int (own_up (List.replicate 257 (0 : Int32)) (r644.toInt.toNat + 1)) := A647
    refine g_iinc 114 X647 hx (hb hby d3_111) rfl (x := (0 : Int32)) rfl (z := (1 : Int32)) (by decide) (Ls' := #[.val (.ref a1), .val (.ref bb8), .val (.long bt), .second, .val (.ref cc8), .val (.int (8 : Int32)), .val (.ref b638), .val (.ref bb8), .val (.int (3 : Int32)), .val (.int (1 : Int32)), .val (.int x0_8)]) rfl ?_
    refine g_goto 79 X647 hx (hb hby d3_114) (by decide) (by decide) ?_
    refine g_iload 81 X647 hx (hb hby d3_79) rfl (v := (1 : Int32)) rfl ?_
    refine g_iload 83 X647 hx (hb hby d3_81) rfl (v := (3 : Int32)) rfl ?_
    refine g_icmpNo 86 X647 hx (hb hby d3_83)  (tlt (by decide : (1 : Int32) < (3 : Int32))).2.1 rfl ?_
    refine g_aload 88 X647 hx (hb hby d3_86) rfl (v := (.ref bb8)) rfl rfl ?_
    refine g_iload 90 X647 hx (hb hby d3_88) rfl (v := (1 : Int32)) rfl ?_
    refine g_iaload 91 X647 hx hZ e647 f649 1 (by decide) rfl (z := x1_8) rfl (hb hby d3_90) rfl ?_
    refine g_istore 93 X647 hx (hb hby d3_91) rfl (Ls' := #[.val (.ref a1), .val (.ref bb8), .val (.long bt), .second, .val (.ref cc8), .val (.int (8 : Int32)), .val (.ref b638), .val (.ref bb8), .val (.int (3 : Int32)), .val (.int (1 : Int32)), .val (.int x1_8)]) rfl ?_
    refine g_aload 95 X647 hx (hb hby d3_93) rfl (v := (.ref b638)) rfl rfl ?_
    refine g_aloadN 96 X647 hx (hb hby d3_95) rfl (v := (.ref a1)) rfl rfl ?_
    refine g_iload 98 X647 hx (hb hby d3_96) rfl (v := x1_8) rfl ?_
    refine g_laload 99 X647 hx hZ e647 f648 (x1_8.toInt.toNat) (own_nat0 hB8.2.1.1) rfl (z := (([w0, w1, w2] : List Int64).getD x1_8.toInt.toNat 0)) (own_getJ (by have q := hB8.2.1; show _ < 3; omega)) (hb hby d3_98) rfl ?_
    refine g_iload 101 X647 hx (hb hby d3_99) rfl (v := (8 : Int32)) rfl ?_
    have hq101_hq_655 : 0 ≤ (([w0, w1, w2] : List Int64).getD x1_8.toInt.toNat 0).toInt := (own_wN w0 w1 w2 hW0 hW1 hW2 x1_8 hR8.2.1)
    have hq101_hp_656 : 0 ≤ (8 : Int32).toInt ∧ (8 : Int32).toInt ≤ 63 := by decide
    refine g_callS 104 X647 hx hZ (y := (⟨"com/example/prefixwood/prefixwood/huffman/TwoQueues", "digit", "(JI)I"⟩ : MethodName)) hown (hw _ (List.mem_of_getElem? (i := 17) rfl)) (hw _ (List.mem_of_getElem? (i := 18) rfl)) (hw _ (List.mem_of_getElem? (i := 4) rfl)) (hw _ (List.mem_of_getElem? (i := 19) rfl)) (by decide) e647 (rm4 l Z a0 hw [] (([w0, w1, w2] : List Int64).getD x1_8.toInt.toNat 0) (8 : Int32)  h647 n0 Zs651 hq101_hq_655 hq101_hp_656) (by rw [hml]; rfl) [(.long (([w0, w1, w2] : List Int64).getD x1_8.toInt.toNat 0)), (.int (8 : Int32))] [(.ref b638)] rfl rfl (lenOf pd_0 rfl) 1 (Nat.le_of_eq rfl) (hb hby d3_101) (by decide) (by decide) (by decide) (by decide) rfl ?_
    intro v655 T655 L655 X655 hQ655
    obtain ⟨r655, rfl, hr655, N655q, e655⟩ := hQ655
    have N655 := Fr.app N653 N655q
    show Go p e below s ({ frames := 1, cells := 10, slots := 2062, locals := 16 } : Room).cells ({ frames := 1, cells := 10, slots := 2062, locals := 16 } : Room).slots (Q3 Z a1 w0 w1 w2 h0 n0) T655 (mkF m 104 #[.val (.ref a1), .val (.ref bb8), .val (.long bt), .second, .val (.ref cc8), .val (.int (8 : Int32)), .val (.ref b638), .val (.ref bb8), .val (.int (3 : Int32)), .val (.int (1 : Int32)), .val (.int x1_8)] [(.int r655), (.ref b638)])
    have hD1_8 : own_dig (([w0, w1, w2] : List Int64).getD x1_8.toInt.toNat 0) 8 r655 := hr655
    have hE1_8 := own_dgB _ _ _ hD1_8
    refine g_iconst 105 X655 hx (hb hby d3_104) rfl (z := (1 : Int32)) rfl ?_
    refine g_iadd 106 X655 hx (hb hby d3_105) rfl (z := (r655 + (1 : Int32))) rfl ?_
    refine g_dup2 107 X655 hx (hb hby d3_106) rfl rfl rfl ?_
    refine g_iaload 108 X655 hx hZ e655 AU654 (r655.toInt.toNat + 1) (own_nat0 (by have q := hE1_8; rw [own_inc (by omega)]; omega)) (by have q := hE1_8; show (Int32.toInt _).toNat = _; rw [own_inc (by omega)]; omega) (z := ((own_up (List.replicate 257 (0 : Int32)) (r644.toInt.toNat + 1)).getD (r655.toInt.toNat + 1) 0)) (own_get (by have q := hE1_8; simp only [own_upl, List.length_replicate]; omega)) (hb hby d3_107) rfl ?_
    refine g_iconst 109 X655 hx (hb hby d3_108) rfl (z := (1 : Int32)) rfl ?_
    refine g_iadd 110 X655 hx (hb hby d3_109) rfl (z := (((own_up (List.replicate 257 (0 : Int32)) (r644.toInt.toNat + 1)).getD (r655.toInt.toNat + 1) 0) + (1 : Int32))) rfl ?_
    refine g_iastore 111 X655 hx hZ e655 AU654 (r655.toInt.toNat + 1) (own_nat0 (by have q := hE1_8; rw [own_inc (by omega)]; omega)) (by have q := hE1_8; show (Int32.toInt _).toNat = _; rw [own_inc (by omega)]; omega) (by have q := hE1_8; simp only [own_upl, List.length_replicate]; omega) (z := (((own_up (List.replicate 257 (0 : Int32)) (r644.toInt.toNat + 1)).getD (r655.toInt.toNat + 1) 0) + (1 : Int32))) rfl (hb hby d3_110) rfl ?_
    intro T658 h658 X658 e658 W658 A658
    have f659 := f648.other W658 (Nat.ne_of_lt (Nat.lt_of_lt_of_le fa_8.lt (Nat.le_of_eq g638.symm)))
    have f660 := f649.other W658 (Nat.ne_of_lt (Nat.lt_of_lt_of_le AX8.lt (Nat.le_of_eq g638.symm)))
    have f661 := f650.other W658 (Nat.ne_of_lt (Nat.lt_of_lt_of_le fc_8.lt (Nat.le_of_eq g638.symm)))
    have Zs662 : n0 ≤ h658.size := (Nat.le_trans Zs651 (Keep.of_wr W658).1)
    have K663 : Keep h0 h658 [] := K652.wr W658 (Or.inr sz_b638)
    have N664 := Fr.snoc X658 N655 g_b638
    have AU665 : AI Z h658 b638 .int (own_up (own_up (List.replicate 257 (0 : Int32)) (r644.toInt.toNat + 1)) (r655.toInt.toNat + 1)) := A658
    refine g_iinc 114 X658 hx (hb hby d3_111) rfl (x := (1 : Int32)) rfl (z := (2 : Int32)) (by decide) (Ls' := #[.val (.ref a1), .val (.ref bb8), .val (.long bt), .second, .val (.ref cc8), .val (.int (8 : Int32)), .val (.ref b638), .val (.ref bb8), .val (.int (3 : Int32)), .val (.int (2 : Int32)), .val (.int x1_8)]) rfl ?_
    refine g_goto 79 X658 hx (hb hby d3_114) (by decide) (by decide) ?_
    refine g_iload 81 X658 hx (hb hby d3_79) rfl (v := (2 : Int32)) rfl ?_
    refine g_iload 83 X658 hx (hb hby d3_81) rfl (v := (3 : Int32)) rfl ?_
    refine g_icmpNo 86 X658 hx (hb hby d3_83)  (tlt (by decide : (2 : Int32) < (3 : Int32))).2.1 rfl ?_
    refine g_aload 88 X658 hx (hb hby d3_86) rfl (v := (.ref bb8)) rfl rfl ?_
    refine g_iload 90 X658 hx (hb hby d3_88) rfl (v := (2 : Int32)) rfl ?_
    refine g_iaload 91 X658 hx hZ e658 f660 2 (by decide) rfl (z := x2_8) rfl (hb hby d3_90) rfl ?_
    refine g_istore 93 X658 hx (hb hby d3_91) rfl (Ls' := #[.val (.ref a1), .val (.ref bb8), .val (.long bt), .second, .val (.ref cc8), .val (.int (8 : Int32)), .val (.ref b638), .val (.ref bb8), .val (.int (3 : Int32)), .val (.int (2 : Int32)), .val (.int x2_8)]) rfl ?_
    refine g_aload 95 X658 hx (hb hby d3_93) rfl (v := (.ref b638)) rfl rfl ?_
    refine g_aloadN 96 X658 hx (hb hby d3_95) rfl (v := (.ref a1)) rfl rfl ?_
    refine g_iload 98 X658 hx (hb hby d3_96) rfl (v := x2_8) rfl ?_
    refine g_laload 99 X658 hx hZ e658 f659 (x2_8.toInt.toNat) (own_nat0 hB8.2.2.1) rfl (z := (([w0, w1, w2] : List Int64).getD x2_8.toInt.toNat 0)) (own_getJ (by have q := hB8.2.2; show _ < 3; omega)) (hb hby d3_98) rfl ?_
    refine g_iload 101 X658 hx (hb hby d3_99) rfl (v := (8 : Int32)) rfl ?_
    have hq101_hq_666 : 0 ≤ (([w0, w1, w2] : List Int64).getD x2_8.toInt.toNat 0).toInt := (own_wN w0 w1 w2 hW0 hW1 hW2 x2_8 hR8.2.2)
    have hq101_hp_667 : 0 ≤ (8 : Int32).toInt ∧ (8 : Int32).toInt ≤ 63 := by decide
    refine g_callS 104 X658 hx hZ (y := (⟨"com/example/prefixwood/prefixwood/huffman/TwoQueues", "digit", "(JI)I"⟩ : MethodName)) hown (hw _ (List.mem_of_getElem? (i := 17) rfl)) (hw _ (List.mem_of_getElem? (i := 18) rfl)) (hw _ (List.mem_of_getElem? (i := 4) rfl)) (hw _ (List.mem_of_getElem? (i := 19) rfl)) (by decide) e658 (rm4 l Z a0 hw [] (([w0, w1, w2] : List Int64).getD x2_8.toInt.toNat 0) (8 : Int32)  h658 n0 Zs662 hq101_hq_666 hq101_hp_667) (by rw [hml]; rfl) [(.long (([w0, w1, w2] : List Int64).getD x2_8.toInt.toNat 0)), (.int (8 : Int32))] [(.ref b638)] rfl rfl (lenOf pd_0 rfl) 1 (Nat.le_of_eq rfl) (hb hby d3_101) (by decide) (by decide) (by decide) (by decide) rfl ?_
    intro v666 T666 L666 X666 hQ666
    obtain ⟨r666, rfl, hr666, N666q, e666⟩ := hQ666
    have N666 := Fr.app N664 N666q
    show Go p e below s ({ frames := 1, cells := 10, slots := 2062, locals := 16 } : Room).cells ({ frames := 1, cells := 10, slots := 2062, locals := 16 } : Room).slots (Q3 Z a1 w0 w1 w2 h0 n0) T666 (mkF m 104 #[.val (.ref a1), .val (.ref bb8), .val (.long bt), .second, .val (.ref cc8), .val (.int (8 : Int32)), .val (.ref b638), .val (.ref bb8), .val (.int (3 : Int32)), .val (.int (2 : Int32)), .val (.int x2_8)] [(.int r666), (.ref b638)])
    have hD2_8 : own_dig (([w0, w1, w2] : List Int64).getD x2_8.toInt.toNat 0) 8 r666 := hr666
    have hE2_8 := own_dgB _ _ _ hD2_8
    refine g_iconst 105 X666 hx (hb hby d3_104) rfl (z := (1 : Int32)) rfl ?_
    refine g_iadd 106 X666 hx (hb hby d3_105) rfl (z := (r666 + (1 : Int32))) rfl ?_
    refine g_dup2 107 X666 hx (hb hby d3_106) rfl rfl rfl ?_
    refine g_iaload 108 X666 hx hZ e666 AU665 (r666.toInt.toNat + 1) (own_nat0 (by have q := hE2_8; rw [own_inc (by omega)]; omega)) (by have q := hE2_8; show (Int32.toInt _).toNat = _; rw [own_inc (by omega)]; omega) (z := ((own_up (own_up (List.replicate 257 (0 : Int32)) (r644.toInt.toNat + 1)) (r655.toInt.toNat + 1)).getD (r666.toInt.toNat + 1) 0)) (own_get (by have q := hE2_8; simp only [own_upl, List.length_replicate]; omega)) (hb hby d3_107) rfl ?_
    refine g_iconst 109 X666 hx (hb hby d3_108) rfl (z := (1 : Int32)) rfl ?_
    refine g_iadd 110 X666 hx (hb hby d3_109) rfl (z := (((own_up (own_up (List.replicate 257 (0 : Int32)) (r644.toInt.toNat + 1)) (r655.toInt.toNat + 1)).getD (r666.toInt.toNat + 1) 0) + (1 : Int32))) rfl ?_
    refine g_iastore 111 X666 hx hZ e666 AU665 (r666.toInt.toNat + 1) (own_nat0 (by have q := hE2_8; rw [own_inc (by omega)]; omega)) (by have q := hE2_8; show (Int32.toInt _).toNat = _; rw [own_inc (by omega)]; omega) (by have q := hE2_8; simp only [own_upl, List.length_replicate]; omega) (z := (((own_up (own_up (List.replicate 257 (0 : Int32)) (r644.toInt.toNat + 1)) (r655.toInt.toNat + 1)).getD (r666.toInt.toNat + 1) 0) + (1 : Int32))) rfl (hb hby d3_110) rfl ?_
    intro T669 h669 X669 e669 W669 A669
    have f670 := f659.other W669 (Nat.ne_of_lt (Nat.lt_of_lt_of_le fa_8.lt (Nat.le_of_eq g638.symm)))
    have f671 := f660.other W669 (Nat.ne_of_lt (Nat.lt_of_lt_of_le AX8.lt (Nat.le_of_eq g638.symm)))
    have f672 := f661.other W669 (Nat.ne_of_lt (Nat.lt_of_lt_of_le fc_8.lt (Nat.le_of_eq g638.symm)))
    have Zs673 : n0 ≤ h669.size := (Nat.le_trans Zs662 (Keep.of_wr W669).1)
    have K674 : Keep h0 h669 [] := K663.wr W669 (Or.inr sz_b638)
    have N675 := Fr.snoc X669 N666 g_b638
    have AU676 : AI Z h669 b638 .int (own_up (own_up (own_up (List.replicate 257 (0 : Int32)) (r644.toInt.toNat + 1)) (r655.toInt.toNat + 1)) (r666.toInt.toNat + 1)) := A669
    refine g_iinc 114 X669 hx (hb hby d3_111) rfl (x := (2 : Int32)) rfl (z := (3 : Int32)) (by decide) (Ls' := #[.val (.ref a1), .val (.ref bb8), .val (.long bt), .second, .val (.ref cc8), .val (.int (8 : Int32)), .val (.ref b638), .val (.ref bb8), .val (.int (3 : Int32)), .val (.int (3 : Int32)), .val (.int x2_8)]) rfl ?_
    refine g_goto 79 X669 hx (hb hby d3_114) (by decide) (by decide) ?_
    refine g_iload 81 X669 hx (hb hby d3_79) rfl (v := (3 : Int32)) rfl ?_
    refine g_iload 83 X669 hx (hb hby d3_81) rfl (v := (3 : Int32)) rfl ?_
    refine g_icmpYes 117 X669 hx (hb hby d3_83)  (flt (Int32.lt_irrefl)).2.1 (by decide) (by decide) ?_
    refine g_iconst 118 X669 hx (hb hby d3_117) rfl (z := (1 : Int32)) rfl ?_
    refine g_istore 120 X669 hx (hb hby d3_118) rfl (Ls' := #[.val (.ref a1), .val (.ref bb8), .val (.long bt), .second, .val (.ref cc8), .val (.int (8 : Int32)), .val (.ref b638), .val (.int (1 : Int32)), .val (.int (3 : Int32)), .val (.int (3 : Int32)), .val (.int x2_8)]) rfl ?_
    have LOOP120_8 : ∀ (fuel_8 : Nat) (lv8 : Int32) (gF8 : List Int32) (Tl_8 : State) (hl_8 : Heap) (lo_8 : List Loc), (257 - lv8.toInt).toNat < fuel_8 → (1 ≤ lv8.toInt ∧ lv8.toInt ≤ 257) → (gF8.length = 257) → (own_pfx (257 - lv8.toInt).toNat lv8.toInt.toNat gF8 = own_pfx 256 1 (own_C r644.toInt.toNat r655.toInt.toNat r666.toInt.toNat)) → (Stand p l e ({ frames := 1, cells := 10, slots := 2062, locals := 16 } : Room) s m #[(.ref a1)] below meth c Tl_8 lo_8 4 520) → (Tl_8.heap = hl_8) → (Fr n0 lo_8) → (n0 ≤ hl_8.size) → (Keep h0 hl_8 []) → (AJ Z hl_8 a1 [w0, w1, w2]) → (AI Z hl_8 bb8 .int [x0_8, x1_8, x2_8]) → (AI Z hl_8 cc8 .int MM8) → (AI Z hl_8 b638 .int gF8) → Go p e below s ({ frames := 1, cells := 10, slots := 2062, locals := 16 } : Room).cells ({ frames := 1, cells := 10, slots := 2062, locals := 16 } : Room).slots (Q3 Z a1 w0 w1 w2 h0 n0) Tl_8 (mkF m 120 #[.val (.ref a1), .val (.ref bb8), .val (.long bt), .second, .val (.ref cc8), .val (.int (8 : Int32)), .val (.ref b638), .val (.int lv8), .val (.int (3 : Int32)), .val (.int (3 : Int32)), .val (.int x2_8)] []) := by
      intro fuel_8
      induction fuel_8 with
      | zero => intro lv8 gF8 Tl_8 hl_8 lo_8 hm; exact absurd hm (Nat.not_lt_zero _)
      | succ fuel_8 ih_8 =>
        intro lv8 gF8 Tl_8 hl_8 lo_8 hm_8 hv8 hgl8 hgF8 Xl_8 el_8 Nl_8 Zl_8 Kl_8 fl_8_0 fl_8_1 fl_8_2 fl_8_3
        refine g_iload 122 Xl_8 hx (hb hby d3_120) rfl (v := lv8) rfl ?_
        refine g_aload 124 Xl_8 hx (hb hby d3_122) rfl (v := (.ref b638)) rfl rfl ?_
        refine g_arraylengthI 125 Xl_8 hx hZ el_8 fl_8_3 (z := (257 : Int32)) (by rw [hgl8]; rfl) (hb hby d3_124) rfl ?_
        by_cases hc125_676 : lv8 < (257 : Int32)
        ·
          refine g_icmpNo 128 Xl_8 hx (hb hby d3_125)  (tlt hc125_676).2.1 rfl ?_
          refine g_aload 130 Xl_8 hx (hb hby d3_128) rfl (v := (.ref b638)) rfl rfl ?_
          refine g_iload 132 Xl_8 hx (hb hby d3_130) rfl (v := lv8) rfl ?_
          refine g_dup2 133 Xl_8 hx (hb hby d3_132) rfl rfl rfl ?_
          refine g_iaload 134 Xl_8 hx hZ el_8 fl_8_3 (lv8.toInt.toNat) (own_nat0 (by omega)) rfl (z := (gF8.getD lv8.toInt.toNat 0)) (own_get (by have q := Int32.lt_iff_toInt_lt.mp hc125_676; simp only [Int32.reduceToInt] at q; rw [hgl8]; omega)) (hb hby d3_133) rfl ?_
          refine g_aload 136 Xl_8 hx (hb hby d3_134) rfl (v := (.ref b638)) rfl rfl ?_
          refine g_iload 138 Xl_8 hx (hb hby d3_136) rfl (v := lv8) rfl ?_
          refine g_iconst 139 Xl_8 hx (hb hby d3_138) rfl (z := (1 : Int32)) rfl ?_
          refine g_isub 140 Xl_8 hx (hb hby d3_139) rfl (z := (lv8 - (1 : Int32))) rfl ?_
          refine g_iaload 141 Xl_8 hx hZ el_8 fl_8_3 (lv8.toInt.toNat - 1) (own_nat0 (by have q := Int32.lt_iff_toInt_lt.mp hc125_676; simp only [Int32.reduceToInt] at q; rw [own_dec1 (by omega)]; omega)) (by have q := Int32.lt_iff_toInt_lt.mp hc125_676; simp only [Int32.reduceToInt] at q; show (Int32.toInt _).toNat = _; rw [own_dec1 (by omega)]; omega) (z := (gF8.getD (lv8.toInt.toNat - 1) 0)) (own_get (by have q := Int32.lt_iff_toInt_lt.mp hc125_676; simp only [Int32.reduceToInt] at q; rw [hgl8]; omega)) (hb hby d3_140) rfl ?_
          refine g_iadd 142 Xl_8 hx (hb hby d3_141) rfl (z := ((gF8.getD lv8.toInt.toNat 0) + (gF8.getD (lv8.toInt.toNat - 1) 0))) rfl ?_
          refine g_iastore 143 Xl_8 hx hZ el_8 fl_8_3 (lv8.toInt.toNat) (own_nat0 (by omega)) rfl (by have q := Int32.lt_iff_toInt_lt.mp hc125_676; simp only [Int32.reduceToInt] at q; rw [hgl8]; omega) (z := ((gF8.getD lv8.toInt.toNat 0) + (gF8.getD (lv8.toInt.toNat - 1) 0))) rfl (hb hby d3_142) rfl ?_
          intro T678 h678 X678 e678 W678 A678
          have f679 := fl_8_0.other W678 (Nat.ne_of_lt (Nat.lt_of_lt_of_le fa_8.lt (Nat.le_of_eq g638.symm)))
          have f680 := fl_8_1.other W678 (Nat.ne_of_lt (Nat.lt_of_lt_of_le AX8.lt (Nat.le_of_eq g638.symm)))
          have f681 := fl_8_2.other W678 (Nat.ne_of_lt (Nat.lt_of_lt_of_le fc_8.lt (Nat.le_of_eq g638.symm)))
          have Zs682 : n0 ≤ h678.size := (Nat.le_trans Zl_8 (Keep.of_wr W678).1)
          have K683 : Keep h0 h678 [] := Kl_8.wr W678 (Or.inr sz_b638)
          have N684 := Fr.snoc X678 Nl_8 g_b638
          refine g_iinc 146 X678 hx (hb hby d3_143) rfl (x := lv8) rfl (z := (lv8 + (1 : Int32))) rfl (Ls' := #[.val (.ref a1), .val (.ref bb8), .val (.long bt), .second, .val (.ref cc8), .val (.int (8 : Int32)), .val (.ref b638), .val (.int (lv8 + (1 : Int32))), .val (.int (3 : Int32)), .val (.int (3 : Int32)), .val (.int x2_8)]) rfl ?_
          refine g_goto 120 X678 hx (hb hby d3_146) (by decide) (by decide) ?_
          exact ih_8 (lv8 + (1 : Int32)) (List.set gF8 (lv8.toInt.toNat) ((gF8.getD lv8.toInt.toNat 0) + (gF8.getD (lv8.toInt.toNat - 1) 0))) T678 h678 _ (by have q := Int32.lt_iff_toInt_lt.mp hc125_676; simp only [Int32.reduceToInt] at q; rw [own_inc (by omega)]; omega) (by have q := Int32.lt_iff_toInt_lt.mp hc125_676; simp only [Int32.reduceToInt] at q; rw [own_inc (by omega)]; omega) (by rw [List.length_set]; exact hgl8) (own_pfxstep lv8 gF8 _ (by have q := Int32.lt_iff_toInt_lt.mp hc125_676; simp only [Int32.reduceToInt] at q; omega) hgF8) X678 e678 N684 Zs682 K683 f679 f680 f681 A678
        ·
          refine g_icmpYes 149 Xl_8 hx (hb hby d3_125)  (flt hc125_676).2.1 (by decide) (by decide) ?_
          have hG8 : gF8 = own_pfx 256 1 (own_C r644.toInt.toNat r655.toInt.toNat r666.toInt.toNat) := by have q := mt Int32.lt_iff_toInt_lt.mpr hc125_676; simp only [Int32.reduceToInt] at q; rw [← hgF8, show (257 - lv8.toInt).toNat = 0 by omega]; rfl
          have hH8 := own_PS r644.toInt.toNat r655.toInt.toNat r666.toInt.toNat (by omega) (by omega) (by omega)
          rw [← hG8] at hH8
          have hQ8_ := own_qs gF8 r644.toInt.toNat r655.toInt.toNat r666.toInt.toNat (by omega) (by omega) (by omega) hH8
          have hq8_ := own_qB r644.toInt.toNat r655.toInt.toNat r666.toInt.toNat
          refine g_aloadN 150 Xl_8 hx (hb hby d3_149) rfl (v := (.ref bb8)) rfl rfl ?_
          refine g_astore 152 Xl_8 hx (hb hby d3_150) rfl (Ls' := #[.val (.ref a1), .val (.ref bb8), .val (.long bt), .second, .val (.ref cc8), .val (.int (8 : Int32)), .val (.ref b638), .val (.ref bb8), .val (.int (3 : Int32)), .val (.int (3 : Int32)), .val (.int x2_8)]) rfl rfl ?_
          refine g_aload 154 Xl_8 hx (hb hby d3_152) rfl (v := (.ref bb8)) rfl rfl ?_
          refine g_arraylengthI 155 Xl_8 hx hZ el_8 fl_8_1 (z := (3 : Int32)) rfl (hb hby d3_154) rfl ?_
          refine g_istore 157 Xl_8 hx (hb hby d3_155) rfl (Ls' := #[.val (.ref a1), .val (.ref bb8), .val (.long bt), .second, .val (.ref cc8), .val (.int (8 : Int32)), .val (.ref b638), .val (.ref bb8), .val (.int (3 : Int32)), .val (.int (3 : Int32)), .val (.int x2_8)]) rfl ?_
          refine g_iconst 158 Xl_8 hx (hb hby d3_157) rfl (z := (0 : Int32)) rfl ?_
          refine g_istore 160 Xl_8 hx (hb hby d3_158) rfl (Ls' := #[.val (.ref a1), .val (.ref bb8), .val (.long bt), .second, .val (.ref cc8), .val (.int (8 : Int32)), .val (.ref b638), .val (.ref bb8), .val (.int (3 : Int32)), .val (.int (0 : Int32)), .val (.int x2_8)]) rfl ?_
          refine g_iload 162 Xl_8 hx (hb hby d3_160) rfl (v := (0 : Int32)) rfl ?_
          refine g_iload 164 Xl_8 hx (hb hby d3_162) rfl (v := (3 : Int32)) rfl ?_
          refine g_icmpNo 167 Xl_8 hx (hb hby d3_164)  (tlt (by decide : (0 : Int32) < (3 : Int32))).2.1 rfl ?_
          refine g_aload 169 Xl_8 hx (hb hby d3_167) rfl (v := (.ref bb8)) rfl rfl ?_
          refine g_iload 171 Xl_8 hx (hb hby d3_169) rfl (v := (0 : Int32)) rfl ?_
          refine g_iaload 172 Xl_8 hx hZ el_8 fl_8_1 0 (by decide) rfl (z := x0_8) rfl (hb hby d3_171) rfl ?_
          refine g_istore 174 Xl_8 hx (hb hby d3_172) rfl (Ls' := #[.val (.ref a1), .val (.ref bb8), .val (.long bt), .second, .val (.ref cc8), .val (.int (8 : Int32)), .val (.ref b638), .val (.ref bb8), .val (.int (3 : Int32)), .val (.int (0 : Int32)), .val (.int x0_8)]) rfl ?_
          refine g_aload 176 Xl_8 hx (hb hby d3_174) rfl (v := (.ref cc8)) rfl rfl ?_
          refine g_aload 178 Xl_8 hx (hb hby d3_176) rfl (v := (.ref b638)) rfl rfl ?_
          refine g_aloadN 179 Xl_8 hx (hb hby d3_178) rfl (v := (.ref a1)) rfl rfl ?_
          refine g_iload 181 Xl_8 hx (hb hby d3_179) rfl (v := x0_8) rfl ?_
          refine g_laload 182 Xl_8 hx hZ el_8 fl_8_0 (x0_8.toInt.toNat) (own_nat0 hB8.1.1) rfl (z := (([w0, w1, w2] : List Int64).getD x0_8.toInt.toNat 0)) (own_getJ (by have q := hB8.1; show _ < 3; omega)) (hb hby d3_181) rfl ?_
          refine g_iload 184 Xl_8 hx (hb hby d3_182) rfl (v := (8 : Int32)) rfl ?_
          have hq184_hq_685 : 0 ≤ (([w0, w1, w2] : List Int64).getD x0_8.toInt.toNat 0).toInt := (own_wN w0 w1 w2 hW0 hW1 hW2 x0_8 hR8.1)
          have hq184_hp_686 : 0 ≤ (8 : Int32).toInt ∧ (8 : Int32).toInt ≤ 63 := by decide
          refine g_callS 187 Xl_8 hx hZ (y := (⟨"com/example/prefixwood/prefixwood/huffman/TwoQueues", "digit", "(JI)I"⟩ : MethodName)) hown (hw _ (List.mem_of_getElem? (i := 17) rfl)) (hw _ (List.mem_of_getElem? (i := 18) rfl)) (hw _ (List.mem_of_getElem? (i := 4) rfl)) (hw _ (List.mem_of_getElem? (i := 19) rfl)) (by decide) el_8 (rm4 l Z a0 hw [] (([w0, w1, w2] : List Int64).getD x0_8.toInt.toNat 0) (8 : Int32)  hl_8 n0 Zl_8 hq184_hq_685 hq184_hp_686) (by rw [hml]; rfl) [(.long (([w0, w1, w2] : List Int64).getD x0_8.toInt.toNat 0)), (.int (8 : Int32))] [(.ref b638), (.ref cc8)] rfl rfl (lenOf pd_0 rfl) 2 (Nat.le_of_eq rfl) (hb hby d3_184) (by decide) (by decide) (by decide) (by decide) rfl ?_
          intro v685 T685 L685 X685 hQ685
          obtain ⟨r685, rfl, hr685, N685q, e685⟩ := hQ685
          have N685 := Fr.app Nl_8 N685q
          show Go p e below s ({ frames := 1, cells := 10, slots := 2062, locals := 16 } : Room).cells ({ frames := 1, cells := 10, slots := 2062, locals := 16 } : Room).slots (Q3 Z a1 w0 w1 w2 h0 n0) T685 (mkF m 187 #[.val (.ref a1), .val (.ref bb8), .val (.long bt), .second, .val (.ref cc8), .val (.int (8 : Int32)), .val (.ref b638), .val (.ref bb8), .val (.int (3 : Int32)), .val (.int (0 : Int32)), .val (.int x0_8)] [(.int r685), (.ref b638), (.ref cc8)])
          have hs0_8 : r644 = r685 := own_z _ ((hD0_8 : _ = _).trans (hr685 : _ = _).symm)
          subst hs0_8
          refine g_dup2 188 X685 hx (hb hby d3_187) rfl rfl rfl ?_
          refine g_iaload 189 X685 hx hZ e685 fl_8_3 (r644.toInt.toNat) (own_nat0 (by omega)) rfl (z := (gF8.getD r644.toInt.toNat 0)) (own_get (by first | (simp only [own_upl]; rw [hgl8]; omega) | (rw [hgl8]; omega))) (hb hby d3_188) rfl ?_
          refine g_dup_x2 190 X685 hx (hb hby d3_189) rfl rfl rfl rfl ?_
          refine g_iconst 191 X685 hx (hb hby d3_190) rfl (z := (1 : Int32)) rfl ?_
          refine g_iadd 192 X685 hx (hb hby d3_191) rfl (z := ((gF8.getD r644.toInt.toNat 0) + (1 : Int32))) rfl ?_
          refine g_iastore 193 X685 hx hZ e685 fl_8_3 (r644.toInt.toNat) (own_nat0 (by omega)) rfl (by first | (simp only [own_upl]; rw [hgl8]; omega) | (rw [hgl8]; omega)) (z := ((gF8.getD r644.toInt.toNat 0) + (1 : Int32))) rfl (hb hby d3_192) rfl ?_
          intro T688 h688 X688 e688 W688 A688
          have f689 := fl_8_0.other W688 (Nat.ne_of_lt (Nat.lt_of_lt_of_le fa_8.lt (Nat.le_of_eq g638.symm)))
          have f690 := fl_8_1.other W688 (Nat.ne_of_lt (Nat.lt_of_lt_of_le AX8.lt (Nat.le_of_eq g638.symm)))
          have f691 := fl_8_2.other W688 (Nat.ne_of_lt (Nat.lt_of_lt_of_le fc_8.lt (Nat.le_of_eq g638.symm)))
          have Zs692 : n0 ≤ h688.size := (Nat.le_trans Zl_8 (Keep.of_wr W688).1)
          have K693 : Keep h0 h688 [] := Kl_8.wr W688 (Or.inr sz_b638)
          have N694 := Fr.snoc X688 N685 g_b638
          have AV695 : AI Z h688 b638 .int (own_up gF8 r644.toInt.toNat) := A688
          refine g_iload 195 X688 hx (hb hby d3_193) rfl (v := x0_8) rfl ?_
          refine g_iastore 196 X688 hx hZ e688 f691 (own_q0 r644.toInt.toNat r655.toInt.toNat r666.toInt.toNat) (own_nat0 (by rw [hQ8_.1]; exact Int.natCast_nonneg _)) (by show (Int32.toInt _).toNat = _; rw [hQ8_.1]; rfl) (by have q := hq8_.1; rw [hM8]; omega) (z := x0_8) rfl (hb hby d3_195) rfl ?_
          intro T696 h696 X696 e696 W696 A696
          have f697 := f689.other W696 nac_8
          have f698 := f690.other W696 nbc_8
          have f699 := AV695.other W696 (Ne.symm (Nat.ne_of_lt (Nat.lt_of_lt_of_le fc_8.lt (Nat.le_of_eq g638.symm))))
          have Zs700 : n0 ≤ h696.size := (Nat.le_trans Zs692 (Keep.of_wr W696).1)
          have K701 : Keep h0 h696 [] := K693.wr W696 (Or.inr sz_cc8)
          have N702 := Fr.snoc X696 N694 g_cc8
          refine g_iinc 199 X696 hx (hb hby d3_196) rfl (x := (0 : Int32)) rfl (z := (1 : Int32)) (by decide) (Ls' := #[.val (.ref a1), .val (.ref bb8), .val (.long bt), .second, .val (.ref cc8), .val (.int (8 : Int32)), .val (.ref b638), .val (.ref bb8), .val (.int (3 : Int32)), .val (.int (1 : Int32)), .val (.int x0_8)]) rfl ?_
          refine g_goto 160 X696 hx (hb hby d3_199) (by decide) (by decide) ?_
          refine g_iload 162 X696 hx (hb hby d3_160) rfl (v := (1 : Int32)) rfl ?_
          refine g_iload 164 X696 hx (hb hby d3_162) rfl (v := (3 : Int32)) rfl ?_
          refine g_icmpNo 167 X696 hx (hb hby d3_164)  (tlt (by decide : (1 : Int32) < (3 : Int32))).2.1 rfl ?_
          refine g_aload 169 X696 hx (hb hby d3_167) rfl (v := (.ref bb8)) rfl rfl ?_
          refine g_iload 171 X696 hx (hb hby d3_169) rfl (v := (1 : Int32)) rfl ?_
          refine g_iaload 172 X696 hx hZ e696 f698 1 (by decide) rfl (z := x1_8) rfl (hb hby d3_171) rfl ?_
          refine g_istore 174 X696 hx (hb hby d3_172) rfl (Ls' := #[.val (.ref a1), .val (.ref bb8), .val (.long bt), .second, .val (.ref cc8), .val (.int (8 : Int32)), .val (.ref b638), .val (.ref bb8), .val (.int (3 : Int32)), .val (.int (1 : Int32)), .val (.int x1_8)]) rfl ?_
          refine g_aload 176 X696 hx (hb hby d3_174) rfl (v := (.ref cc8)) rfl rfl ?_
          refine g_aload 178 X696 hx (hb hby d3_176) rfl (v := (.ref b638)) rfl rfl ?_
          refine g_aloadN 179 X696 hx (hb hby d3_178) rfl (v := (.ref a1)) rfl rfl ?_
          refine g_iload 181 X696 hx (hb hby d3_179) rfl (v := x1_8) rfl ?_
          refine g_laload 182 X696 hx hZ e696 f697 (x1_8.toInt.toNat) (own_nat0 hB8.2.1.1) rfl (z := (([w0, w1, w2] : List Int64).getD x1_8.toInt.toNat 0)) (own_getJ (by have q := hB8.2.1; show _ < 3; omega)) (hb hby d3_181) rfl ?_
          refine g_iload 184 X696 hx (hb hby d3_182) rfl (v := (8 : Int32)) rfl ?_
          have hq184_hq_703 : 0 ≤ (([w0, w1, w2] : List Int64).getD x1_8.toInt.toNat 0).toInt := (own_wN w0 w1 w2 hW0 hW1 hW2 x1_8 hR8.2.1)
          have hq184_hp_704 : 0 ≤ (8 : Int32).toInt ∧ (8 : Int32).toInt ≤ 63 := by decide
          refine g_callS 187 X696 hx hZ (y := (⟨"com/example/prefixwood/prefixwood/huffman/TwoQueues", "digit", "(JI)I"⟩ : MethodName)) hown (hw _ (List.mem_of_getElem? (i := 17) rfl)) (hw _ (List.mem_of_getElem? (i := 18) rfl)) (hw _ (List.mem_of_getElem? (i := 4) rfl)) (hw _ (List.mem_of_getElem? (i := 19) rfl)) (by decide) e696 (rm4 l Z a0 hw [] (([w0, w1, w2] : List Int64).getD x1_8.toInt.toNat 0) (8 : Int32)  h696 n0 Zs700 hq184_hq_703 hq184_hp_704) (by rw [hml]; rfl) [(.long (([w0, w1, w2] : List Int64).getD x1_8.toInt.toNat 0)), (.int (8 : Int32))] [(.ref b638), (.ref cc8)] rfl rfl (lenOf pd_0 rfl) 2 (Nat.le_of_eq rfl) (hb hby d3_184) (by decide) (by decide) (by decide) (by decide) rfl ?_
          intro v703 T703 L703 X703 hQ703
          obtain ⟨r703, rfl, hr703, N703q, e703⟩ := hQ703
          have N703 := Fr.app N702 N703q
          show Go p e below s ({ frames := 1, cells := 10, slots := 2062, locals := 16 } : Room).cells ({ frames := 1, cells := 10, slots := 2062, locals := 16 } : Room).slots (Q3 Z a1 w0 w1 w2 h0 n0) T703 (mkF m 187 #[.val (.ref a1), .val (.ref bb8), .val (.long bt), .second, .val (.ref cc8), .val (.int (8 : Int32)), .val (.ref b638), .val (.ref bb8), .val (.int (3 : Int32)), .val (.int (1 : Int32)), .val (.int x1_8)] [(.int r703), (.ref b638), (.ref cc8)])
          have hs1_8 : r655 = r703 := own_z _ ((hD1_8 : _ = _).trans (hr703 : _ = _).symm)
          subst hs1_8
          refine g_dup2 188 X703 hx (hb hby d3_187) rfl rfl rfl ?_
          refine g_iaload 189 X703 hx hZ e703 f699 (r655.toInt.toNat) (own_nat0 (by omega)) rfl (z := ((own_up gF8 r644.toInt.toNat).getD r655.toInt.toNat 0)) (own_get (by first | (simp only [own_upl]; rw [hgl8]; omega) | (rw [hgl8]; omega))) (hb hby d3_188) rfl ?_
          refine g_dup_x2 190 X703 hx (hb hby d3_189) rfl rfl rfl rfl ?_
          refine g_iconst 191 X703 hx (hb hby d3_190) rfl (z := (1 : Int32)) rfl ?_
          refine g_iadd 192 X703 hx (hb hby d3_191) rfl (z := (((own_up gF8 r644.toInt.toNat).getD r655.toInt.toNat 0) + (1 : Int32))) rfl ?_
          refine g_iastore 193 X703 hx hZ e703 f699 (r655.toInt.toNat) (own_nat0 (by omega)) rfl (by first | (simp only [own_upl]; rw [hgl8]; omega) | (rw [hgl8]; omega)) (z := (((own_up gF8 r644.toInt.toNat).getD r655.toInt.toNat 0) + (1 : Int32))) rfl (hb hby d3_192) rfl ?_
          intro T706 h706 X706 e706 W706 A706
          have f707 := f697.other W706 (Nat.ne_of_lt (Nat.lt_of_lt_of_le fa_8.lt (Nat.le_of_eq g638.symm)))
          have f708 := f698.other W706 (Nat.ne_of_lt (Nat.lt_of_lt_of_le AX8.lt (Nat.le_of_eq g638.symm)))
          have f709 := A696.other W706 (Nat.ne_of_lt (Nat.lt_of_lt_of_le fc_8.lt (Nat.le_of_eq g638.symm)))
          have Zs710 : n0 ≤ h706.size := (Nat.le_trans Zs700 (Keep.of_wr W706).1)
          have K711 : Keep h0 h706 [] := K701.wr W706 (Or.inr sz_b638)
          have N712 := Fr.snoc X706 N703 g_b638
          have AV713 : AI Z h706 b638 .int (own_up (own_up gF8 r644.toInt.toNat) r655.toInt.toNat) := A706
          refine g_iload 195 X706 hx (hb hby d3_193) rfl (v := x1_8) rfl ?_
          refine g_iastore 196 X706 hx hZ e706 f709 (own_q1 r644.toInt.toNat r655.toInt.toNat r666.toInt.toNat) (own_nat0 (by rw [hQ8_.2.1]; exact Int.natCast_nonneg _)) (by show (Int32.toInt _).toNat = _; rw [hQ8_.2.1]; rfl) (by have q := hq8_.2.1; rw [List.length_set, hM8]; omega) (z := x1_8) rfl (hb hby d3_195) rfl ?_
          intro T714 h714 X714 e714 W714 A714
          have f715 := f707.other W714 nac_8
          have f716 := f708.other W714 nbc_8
          have f717 := AV713.other W714 (Ne.symm (Nat.ne_of_lt (Nat.lt_of_lt_of_le fc_8.lt (Nat.le_of_eq g638.symm))))
          have Zs718 : n0 ≤ h714.size := (Nat.le_trans Zs710 (Keep.of_wr W714).1)
          have K719 : Keep h0 h714 [] := K711.wr W714 (Or.inr sz_cc8)
          have N720 := Fr.snoc X714 N712 g_cc8
          refine g_iinc 199 X714 hx (hb hby d3_196) rfl (x := (1 : Int32)) rfl (z := (2 : Int32)) (by decide) (Ls' := #[.val (.ref a1), .val (.ref bb8), .val (.long bt), .second, .val (.ref cc8), .val (.int (8 : Int32)), .val (.ref b638), .val (.ref bb8), .val (.int (3 : Int32)), .val (.int (2 : Int32)), .val (.int x1_8)]) rfl ?_
          refine g_goto 160 X714 hx (hb hby d3_199) (by decide) (by decide) ?_
          refine g_iload 162 X714 hx (hb hby d3_160) rfl (v := (2 : Int32)) rfl ?_
          refine g_iload 164 X714 hx (hb hby d3_162) rfl (v := (3 : Int32)) rfl ?_
          refine g_icmpNo 167 X714 hx (hb hby d3_164)  (tlt (by decide : (2 : Int32) < (3 : Int32))).2.1 rfl ?_
          refine g_aload 169 X714 hx (hb hby d3_167) rfl (v := (.ref bb8)) rfl rfl ?_
          refine g_iload 171 X714 hx (hb hby d3_169) rfl (v := (2 : Int32)) rfl ?_
          refine g_iaload 172 X714 hx hZ e714 f716 2 (by decide) rfl (z := x2_8) rfl (hb hby d3_171) rfl ?_
          refine g_istore 174 X714 hx (hb hby d3_172) rfl (Ls' := #[.val (.ref a1), .val (.ref bb8), .val (.long bt), .second, .val (.ref cc8), .val (.int (8 : Int32)), .val (.ref b638), .val (.ref bb8), .val (.int (3 : Int32)), .val (.int (2 : Int32)), .val (.int x2_8)]) rfl ?_
          refine g_aload 176 X714 hx (hb hby d3_174) rfl (v := (.ref cc8)) rfl rfl ?_
          refine g_aload 178 X714 hx (hb hby d3_176) rfl (v := (.ref b638)) rfl rfl ?_
          refine g_aloadN 179 X714 hx (hb hby d3_178) rfl (v := (.ref a1)) rfl rfl ?_
          refine g_iload 181 X714 hx (hb hby d3_179) rfl (v := x2_8) rfl ?_
          refine g_laload 182 X714 hx hZ e714 f715 (x2_8.toInt.toNat) (own_nat0 hB8.2.2.1) rfl (z := (([w0, w1, w2] : List Int64).getD x2_8.toInt.toNat 0)) (own_getJ (by have q := hB8.2.2; show _ < 3; omega)) (hb hby d3_181) rfl ?_
          refine g_iload 184 X714 hx (hb hby d3_182) rfl (v := (8 : Int32)) rfl ?_
          have hq184_hq_721 : 0 ≤ (([w0, w1, w2] : List Int64).getD x2_8.toInt.toNat 0).toInt := (own_wN w0 w1 w2 hW0 hW1 hW2 x2_8 hR8.2.2)
          have hq184_hp_722 : 0 ≤ (8 : Int32).toInt ∧ (8 : Int32).toInt ≤ 63 := by decide
          refine g_callS 187 X714 hx hZ (y := (⟨"com/example/prefixwood/prefixwood/huffman/TwoQueues", "digit", "(JI)I"⟩ : MethodName)) hown (hw _ (List.mem_of_getElem? (i := 17) rfl)) (hw _ (List.mem_of_getElem? (i := 18) rfl)) (hw _ (List.mem_of_getElem? (i := 4) rfl)) (hw _ (List.mem_of_getElem? (i := 19) rfl)) (by decide) e714 (rm4 l Z a0 hw [] (([w0, w1, w2] : List Int64).getD x2_8.toInt.toNat 0) (8 : Int32)  h714 n0 Zs718 hq184_hq_721 hq184_hp_722) (by rw [hml]; rfl) [(.long (([w0, w1, w2] : List Int64).getD x2_8.toInt.toNat 0)), (.int (8 : Int32))] [(.ref b638), (.ref cc8)] rfl rfl (lenOf pd_0 rfl) 2 (Nat.le_of_eq rfl) (hb hby d3_184) (by decide) (by decide) (by decide) (by decide) rfl ?_
          intro v721 T721 L721 X721 hQ721
          obtain ⟨r721, rfl, hr721, N721q, e721⟩ := hQ721
          have N721 := Fr.app N720 N721q
          show Go p e below s ({ frames := 1, cells := 10, slots := 2062, locals := 16 } : Room).cells ({ frames := 1, cells := 10, slots := 2062, locals := 16 } : Room).slots (Q3 Z a1 w0 w1 w2 h0 n0) T721 (mkF m 187 #[.val (.ref a1), .val (.ref bb8), .val (.long bt), .second, .val (.ref cc8), .val (.int (8 : Int32)), .val (.ref b638), .val (.ref bb8), .val (.int (3 : Int32)), .val (.int (2 : Int32)), .val (.int x2_8)] [(.int r721), (.ref b638), (.ref cc8)])
          have hs2_8 : r666 = r721 := own_z _ ((hD2_8 : _ = _).trans (hr721 : _ = _).symm)
          subst hs2_8
          refine g_dup2 188 X721 hx (hb hby d3_187) rfl rfl rfl ?_
          refine g_iaload 189 X721 hx hZ e721 f717 (r666.toInt.toNat) (own_nat0 (by omega)) rfl (z := ((own_up (own_up gF8 r644.toInt.toNat) r655.toInt.toNat).getD r666.toInt.toNat 0)) (own_get (by first | (simp only [own_upl]; rw [hgl8]; omega) | (rw [hgl8]; omega))) (hb hby d3_188) rfl ?_
          refine g_dup_x2 190 X721 hx (hb hby d3_189) rfl rfl rfl rfl ?_
          refine g_iconst 191 X721 hx (hb hby d3_190) rfl (z := (1 : Int32)) rfl ?_
          refine g_iadd 192 X721 hx (hb hby d3_191) rfl (z := (((own_up (own_up gF8 r644.toInt.toNat) r655.toInt.toNat).getD r666.toInt.toNat 0) + (1 : Int32))) rfl ?_
          refine g_iastore 193 X721 hx hZ e721 f717 (r666.toInt.toNat) (own_nat0 (by omega)) rfl (by first | (simp only [own_upl]; rw [hgl8]; omega) | (rw [hgl8]; omega)) (z := (((own_up (own_up gF8 r644.toInt.toNat) r655.toInt.toNat).getD r666.toInt.toNat 0) + (1 : Int32))) rfl (hb hby d3_192) rfl ?_
          intro T724 h724 X724 e724 W724 A724
          have f725 := f715.other W724 (Nat.ne_of_lt (Nat.lt_of_lt_of_le fa_8.lt (Nat.le_of_eq g638.symm)))
          have f726 := f716.other W724 (Nat.ne_of_lt (Nat.lt_of_lt_of_le AX8.lt (Nat.le_of_eq g638.symm)))
          have f727 := A714.other W724 (Nat.ne_of_lt (Nat.lt_of_lt_of_le fc_8.lt (Nat.le_of_eq g638.symm)))
          have Zs728 : n0 ≤ h724.size := (Nat.le_trans Zs718 (Keep.of_wr W724).1)
          have K729 : Keep h0 h724 [] := K719.wr W724 (Or.inr sz_b638)
          have N730 := Fr.snoc X724 N721 g_b638
          have AV731 : AI Z h724 b638 .int (own_up (own_up (own_up gF8 r644.toInt.toNat) r655.toInt.toNat) r666.toInt.toNat) := A724
          refine g_iload 195 X724 hx (hb hby d3_193) rfl (v := x2_8) rfl ?_
          refine g_iastore 196 X724 hx hZ e724 f727 (own_q2 r644.toInt.toNat r655.toInt.toNat r666.toInt.toNat) (own_nat0 (by rw [hQ8_.2.2]; exact Int.natCast_nonneg _)) (by show (Int32.toInt _).toNat = _; rw [hQ8_.2.2]; rfl) (by have q := hq8_.2.2; rw [List.length_set, List.length_set, hM8]; omega) (z := x2_8) rfl (hb hby d3_195) rfl ?_
          intro T732 h732 X732 e732 W732 A732
          have f733 := f725.other W732 nac_8
          have f734 := f726.other W732 nbc_8
          have f735 := AV731.other W732 (Ne.symm (Nat.ne_of_lt (Nat.lt_of_lt_of_le fc_8.lt (Nat.le_of_eq g638.symm))))
          have Zs736 : n0 ≤ h732.size := (Nat.le_trans Zs728 (Keep.of_wr W732).1)
          have K737 : Keep h0 h732 [] := K729.wr W732 (Or.inr sz_cc8)
          have N738 := Fr.snoc X732 N730 g_cc8
          refine g_iinc 199 X732 hx (hb hby d3_196) rfl (x := (2 : Int32)) rfl (z := (3 : Int32)) (by decide) (Ls' := #[.val (.ref a1), .val (.ref bb8), .val (.long bt), .second, .val (.ref cc8), .val (.int (8 : Int32)), .val (.ref b638), .val (.ref bb8), .val (.int (3 : Int32)), .val (.int (3 : Int32)), .val (.int x2_8)]) rfl ?_
          refine g_goto 160 X732 hx (hb hby d3_199) (by decide) (by decide) ?_
          refine g_iload 162 X732 hx (hb hby d3_160) rfl (v := (3 : Int32)) rfl ?_
          refine g_iload 164 X732 hx (hb hby d3_162) rfl (v := (3 : Int32)) rfl ?_
          refine g_icmpYes 202 X732 hx (hb hby d3_164)  (flt (Int32.lt_irrefl)).2.1 (by decide) (by decide) ?_
          refine g_aloadN 203 X732 hx (hb hby d3_202) rfl (v := (.ref bb8)) rfl rfl ?_
          refine g_astore 205 X732 hx (hb hby d3_203) rfl (Ls' := #[.val (.ref a1), .val (.ref bb8), .val (.long bt), .second, .val (.ref cc8), .val (.int (8 : Int32)), .val (.ref b638), .val (.ref bb8), .val (.int (3 : Int32)), .val (.int (3 : Int32)), .val (.int x2_8)]) rfl rfl ?_
          refine g_aload 207 X732 hx (hb hby d3_205) rfl (v := (.ref cc8)) rfl rfl ?_
          refine g_astoreN 208 X732 hx (hb hby d3_207) rfl (Ls' := #[.val (.ref a1), .val (.ref cc8), .val (.long bt), .second, .val (.ref cc8), .val (.int (8 : Int32)), .val (.ref b638), .val (.ref bb8), .val (.int (3 : Int32)), .val (.int (3 : Int32)), .val (.int x2_8)]) rfl rfl ?_
          refine g_aload 210 X732 hx (hb hby d3_208) rfl (v := (.ref bb8)) rfl rfl ?_
          refine g_astore 212 X732 hx (hb hby d3_210) rfl (Ls' := #[.val (.ref a1), .val (.ref cc8), .val (.long bt), .second, .val (.ref bb8), .val (.int (8 : Int32)), .val (.ref b638), .val (.ref bb8), .val (.int (3 : Int32)), .val (.int (3 : Int32)), .val (.int x2_8)]) rfl rfl ?_
          refine g_iinc 215 X732 hx (hb hby d3_212) rfl (x := (8 : Int32)) rfl (z := (16 : Int32)) (by decide) (Ls' := #[.val (.ref a1), .val (.ref cc8), .val (.long bt), .second, .val (.ref bb8), .val (.int (16 : Int32)), .val (.ref b638), .val (.ref bb8), .val (.int (3 : Int32)), .val (.int (3 : Int32)), .val (.int x2_8)]) rfl ?_
          refine g_goto 45 X732 hx (hb hby d3_215) (by decide) (by decide) ?_
          have AK16 : AI Z h732 cc8 .int (own_K w0 w1 w2 16) := by rw [← own_passL w0 w1 w2 8 x0_8 x1_8 x2_8 r644 r655 r666 MM8 hM8 hX8 hD0_8 hD1_8 hD2_8]; exact A732
          exact pass_16 l Z a0 hw a1 w0 w1 w2 h0 n0 hW0 hW1 hW2 hret hZ hx hby hml hown hlk bt hbt cc8 bb8 b638 bb8 x2_8 [x0_8, x1_8, x2_8] T732 h732 _ rfl (Ne.symm nbc_8) nac_8 nab_8 g_cc8 g_bb8 sz_cc8 sz_bb8 X732 e732 N738 Zs736 K737 f733 AK16 f734
    exact LOOP120_8 _ (1 : Int32) (own_C r644.toInt.toNat r655.toInt.toNat r666.toInt.toNat) T669 h669 _ (Nat.lt_succ_self _) (by decide) ((own_CS r644.toInt.toNat r655.toInt.toNat r666.toInt.toNat (by omega) (by omega) (by omega)).1) rfl X669 e669 N675 Zs673 K674 f670 f671 f672 AU676
theorem ef_rm3 (m : MethodId) (a1 : Addr) : entryFrame m #[(.ref a1)] 11 = mkF m 0 #[.val (.ref a1), .unset, .unset, .unset, .unset, .unset, .unset, .unset, .unset, .unset, .unset] [] := by first | (simp [entryFrame, mkF, argsToLocals, Value.category]; done) | rfl
set_option maxRecDepth 65536 in
set_option maxHeartbeats 40000000 in
theorem rm3 (l : Launch) (Z : State) (a0 : Array Value) (hw : ∀ d ∈ tables_1, d.before a0 Z = true) (ws : List Jvm.Cond) (a1 : Addr) (w0 w1 w2 : Int64) (h0 : Heap) (n0 : Nat) (Z0 : n0 ≤ h0.size) (A_a1 : AJ Z h0 a1 [w0, w1, w2]) (hW0 : 0 ≤ w0.toInt) (hW1 : 0 ≤ w1.toInt) (hW2 : 0 ≤ w2.toInt) :
    MetFree l (⟨"com/example/prefixwood/prefixwood/huffman/TwoQueues", "byWeight", "([J)[I"⟩ : MethodName) (head1 (Jvm.Cond.code (⟨"com/example/prefixwood/prefixwood/huffman/TwoQueues", "byWeight", "([J)[I"⟩ : MethodName) prog_51_method_4_code 11 (some (.array .int)) :: ws) ({ frames := 1, cells := 10, slots := 2062, locals := 16 } : Room)) (fun a U => a = #[(.ref a1)] ∧ Z.Warmed39 U.vm ∧ U.heap = h0) (fun _ _ _ _ _ => True) (fun _ U o U' => ∃ v L, o = .returned v ∧ (Q3 Z a1 w0 w1 w2 h0 n0) v U'.heap L ∧ FrameEnd U o U' L ({ frames := 1, cells := 10, slots := 2062, locals := 16 } : Room).cells ({ frames := 1, cells := 10, slots := 2062, locals := 16 } : Room).slots) := by
  refine MetFree.of_bodySF (plainFor_of_name pn_0) hisR ?_
  intro p e s m args below meth c s₁ Bd hml0 hP hK
  obtain ⟨rfl, hZ, hh⟩ := hP
  have hx := Bd.exec
  have hby := Bd.bytes
  have hml : c.maxLocals = 11 := hml0
  have hown : s.vm.findClass "com/example/prefixwood/prefixwood/huffman/TwoQueues" = some m.cls := findClass_of_methodNamed Bd.named
  have hnm := (name_of_methodNamed Bd.named Bd.method).1
  have hlk : meth.locks = false := BodyLoose.notSynchronized Bd
  have X0 : Stand p l e ({ frames := 1, cells := 10, slots := 2062, locals := 16 } : Room) s m #[(.ref a1)] below meth c s₁ [] 0 0 := Stand.of_body Bd
  have e0 : s₁.heap = h0 := by rw [← hh, Bd.state]; rfl
  have N0 := Fr.nil n0
  have K0 := Keep.refl h0 []
  show Go p e below s ({ frames := 1, cells := 10, slots := 2062, locals := 16 } : Room).cells ({ frames := 1, cells := 10, slots := 2062, locals := 16 } : Room).slots (Q3 Z a1 w0 w1 w2 h0 n0) s₁ (entryFrame m #[(.ref a1)] 11)
  rw [ef_rm3 m a1]
  refine g_aloadN 1 X0 hx (hb hby d3_0) rfl (v := (.ref a1)) rfl rfl ?_
  refine g_arraylengthJ 2 X0 hx hZ e0 A_a1 (z := (3 : Int32)) rfl (hb hby d3_1) rfl ?_
  refine g_new_int 4 X0 hx hZ (hw _ (List.mem_of_getElem? (i := 16) rfl)) e0 3 3 (by decide) rfl (by decide) (by decide) (by decide) (by decide) (hb hby d3_2) rfl ?_
  intro T1 h1 b1 X1 e1 E1 g1 A1
  have f2 := A_a1.ext E1
  have Zs3 : n0 ≤ h1.size := (Nat.le_trans Z0 E1.1)
  have K4 : Keep h0 h1 [] := K0.ext E1
  have g_b1 : n0 ≤ b1 := Nat.le_trans Z0 (Nat.le_of_eq g1.symm)
  have sz_b1 : h0.size ≤ b1 := Nat.le_trans K0.1 (Nat.le_of_eq g1.symm)
  have A1' : AI Z h1 b1 .int [(0 : Int32), (0 : Int32), (0 : Int32)] := A1
  refine g_astoreN 5 X1 hx (hb hby d3_4) rfl (Ls' := #[.val (.ref a1), .val (.ref b1), .unset, .unset, .unset, .unset, .unset, .unset, .unset, .unset, .unset]) rfl rfl ?_
  refine g_lconst 6 X1 hx (hb hby d3_5) rfl (z := (0 : Int64)) rfl ?_
  refine g_lstoreN 7 X1 hx (hb hby d3_6) rfl (Ls' := #[.val (.ref a1), .val (.ref b1), .val (.long (0 : Int64)), .second, .unset, .unset, .unset, .unset, .unset, .unset, .unset]) rfl ?_
  refine g_iconst 8 X1 hx (hb hby d3_7) rfl (z := (0 : Int32)) rfl ?_
  refine g_istore 10 X1 hx (hb hby d3_8) rfl (Ls' := #[.val (.ref a1), .val (.ref b1), .val (.long (0 : Int64)), .second, .val (.int (0 : Int32)), .unset, .unset, .unset, .unset, .unset, .unset]) rfl ?_
  refine g_iload 12 X1 hx (hb hby d3_10) rfl (v := (0 : Int32)) rfl ?_
  refine g_aloadN 13 X1 hx (hb hby d3_12) rfl (v := (.ref a1)) rfl rfl ?_
  refine g_arraylengthJ 14 X1 hx hZ e1 f2 (z := (3 : Int32)) rfl (hb hby d3_13) rfl ?_
  refine g_icmpNo 17 X1 hx (hb hby d3_14)  (tlt (by decide : (0 : Int32) < (3 : Int32))).2.1 rfl ?_
  refine g_aloadN 18 X1 hx (hb hby d3_17) rfl (v := (.ref b1)) rfl rfl ?_
  refine g_iload 20 X1 hx (hb hby d3_18) rfl (v := (0 : Int32)) rfl ?_
  refine g_iload 22 X1 hx (hb hby d3_20) rfl (v := (0 : Int32)) rfl ?_
  refine g_iastore 23 X1 hx hZ e1 A1' 0 (by decide) rfl (Nat.le_of_ble_eq_true rfl) (z := (0 : Int32)) rfl (hb hby d3_22) rfl ?_
  intro T5 h5 X5 e5 W5 A5
  have f6 := f2.other W5 (Nat.ne_of_lt (Nat.lt_of_lt_of_le A_a1.lt (Nat.le_of_eq g1.symm)))
  have Zs7 : n0 ≤ h5.size := (Nat.le_trans Zs3 (Keep.of_wr W5).1)
  have K8 : Keep h0 h5 [] := K4.wr W5 (Or.inr sz_b1)
  have A5' : AI Z h5 b1 .int [(0 : Int32), (0 : Int32), (0 : Int32)] := A5
  have N9 := Fr.snoc X5 N0 g_b1
  refine g_lloadN 24 X5 hx (hb hby d3_23) rfl (v := (0 : Int64)) rfl ?_
  refine g_aloadN 25 X5 hx (hb hby d3_24) rfl (v := (.ref a1)) rfl rfl ?_
  refine g_iload 27 X5 hx (hb hby d3_25) rfl (v := (0 : Int32)) rfl ?_
  refine g_laload 28 X5 hx hZ e5 f6 0 (by decide) rfl (z := w0) rfl (hb hby d3_27) rfl ?_
  refine g_lor 29 X5 hx (hb hby d3_28) rfl (z := ((0 : Int64) ||| w0)) rfl ?_
  refine g_lstoreN 30 X5 hx (hb hby d3_29) rfl (Ls' := #[.val (.ref a1), .val (.ref b1), .val (.long ((0 : Int64) ||| w0)), .second, .val (.int (0 : Int32)), .unset, .unset, .unset, .unset, .unset, .unset]) rfl ?_
  refine g_iinc 33 X5 hx (hb hby d3_30) rfl (x := (0 : Int32)) rfl (z := (1 : Int32)) (by decide) (Ls' := #[.val (.ref a1), .val (.ref b1), .val (.long ((0 : Int64) ||| w0)), .second, .val (.int (1 : Int32)), .unset, .unset, .unset, .unset, .unset, .unset]) rfl ?_
  refine g_goto 10 X5 hx (hb hby d3_33) (by decide) (by decide) ?_
  refine g_iload 12 X5 hx (hb hby d3_10) rfl (v := (1 : Int32)) rfl ?_
  refine g_aloadN 13 X5 hx (hb hby d3_12) rfl (v := (.ref a1)) rfl rfl ?_
  refine g_arraylengthJ 14 X5 hx hZ e5 f6 (z := (3 : Int32)) rfl (hb hby d3_13) rfl ?_
  refine g_icmpNo 17 X5 hx (hb hby d3_14)  (tlt (by decide : (1 : Int32) < (3 : Int32))).2.1 rfl ?_
  refine g_aloadN 18 X5 hx (hb hby d3_17) rfl (v := (.ref b1)) rfl rfl ?_
  refine g_iload 20 X5 hx (hb hby d3_18) rfl (v := (1 : Int32)) rfl ?_
  refine g_iload 22 X5 hx (hb hby d3_20) rfl (v := (1 : Int32)) rfl ?_
  refine g_iastore 23 X5 hx hZ e5 A5' 1 (by decide) rfl (Nat.le_of_ble_eq_true rfl) (z := (1 : Int32)) rfl (hb hby d3_22) rfl ?_
  intro T10 h10 X10 e10 W10 A10
  have f11 := f6.other W10 (Nat.ne_of_lt (Nat.lt_of_lt_of_le A_a1.lt (Nat.le_of_eq g1.symm)))
  have Zs12 : n0 ≤ h10.size := (Nat.le_trans Zs7 (Keep.of_wr W10).1)
  have K13 : Keep h0 h10 [] := K8.wr W10 (Or.inr sz_b1)
  have A10' : AI Z h10 b1 .int [(0 : Int32), (1 : Int32), (0 : Int32)] := A10
  have N14 := Fr.snoc X10 N9 g_b1
  refine g_lloadN 24 X10 hx (hb hby d3_23) rfl (v := ((0 : Int64) ||| w0)) rfl ?_
  refine g_aloadN 25 X10 hx (hb hby d3_24) rfl (v := (.ref a1)) rfl rfl ?_
  refine g_iload 27 X10 hx (hb hby d3_25) rfl (v := (1 : Int32)) rfl ?_
  refine g_laload 28 X10 hx hZ e10 f11 1 (by decide) rfl (z := w1) rfl (hb hby d3_27) rfl ?_
  refine g_lor 29 X10 hx (hb hby d3_28) rfl (z := (((0 : Int64) ||| w0) ||| w1)) rfl ?_
  refine g_lstoreN 30 X10 hx (hb hby d3_29) rfl (Ls' := #[.val (.ref a1), .val (.ref b1), .val (.long (((0 : Int64) ||| w0) ||| w1)), .second, .val (.int (1 : Int32)), .unset, .unset, .unset, .unset, .unset, .unset]) rfl ?_
  refine g_iinc 33 X10 hx (hb hby d3_30) rfl (x := (1 : Int32)) rfl (z := (2 : Int32)) (by decide) (Ls' := #[.val (.ref a1), .val (.ref b1), .val (.long (((0 : Int64) ||| w0) ||| w1)), .second, .val (.int (2 : Int32)), .unset, .unset, .unset, .unset, .unset, .unset]) rfl ?_
  refine g_goto 10 X10 hx (hb hby d3_33) (by decide) (by decide) ?_
  refine g_iload 12 X10 hx (hb hby d3_10) rfl (v := (2 : Int32)) rfl ?_
  refine g_aloadN 13 X10 hx (hb hby d3_12) rfl (v := (.ref a1)) rfl rfl ?_
  refine g_arraylengthJ 14 X10 hx hZ e10 f11 (z := (3 : Int32)) rfl (hb hby d3_13) rfl ?_
  refine g_icmpNo 17 X10 hx (hb hby d3_14)  (tlt (by decide : (2 : Int32) < (3 : Int32))).2.1 rfl ?_
  refine g_aloadN 18 X10 hx (hb hby d3_17) rfl (v := (.ref b1)) rfl rfl ?_
  refine g_iload 20 X10 hx (hb hby d3_18) rfl (v := (2 : Int32)) rfl ?_
  refine g_iload 22 X10 hx (hb hby d3_20) rfl (v := (2 : Int32)) rfl ?_
  refine g_iastore 23 X10 hx hZ e10 A10' 2 (by decide) rfl (Nat.le_of_ble_eq_true rfl) (z := (2 : Int32)) rfl (hb hby d3_22) rfl ?_
  intro T15 h15 X15 e15 W15 A15
  have f16 := f11.other W15 (Nat.ne_of_lt (Nat.lt_of_lt_of_le A_a1.lt (Nat.le_of_eq g1.symm)))
  have Zs17 : n0 ≤ h15.size := (Nat.le_trans Zs12 (Keep.of_wr W15).1)
  have K18 : Keep h0 h15 [] := K13.wr W15 (Or.inr sz_b1)
  have A15' : AI Z h15 b1 .int [(0 : Int32), (1 : Int32), (2 : Int32)] := A15
  have N19 := Fr.snoc X15 N14 g_b1
  refine g_lloadN 24 X15 hx (hb hby d3_23) rfl (v := (((0 : Int64) ||| w0) ||| w1)) rfl ?_
  refine g_aloadN 25 X15 hx (hb hby d3_24) rfl (v := (.ref a1)) rfl rfl ?_
  refine g_iload 27 X15 hx (hb hby d3_25) rfl (v := (2 : Int32)) rfl ?_
  refine g_laload 28 X15 hx hZ e15 f16 2 (by decide) rfl (z := w2) rfl (hb hby d3_27) rfl ?_
  refine g_lor 29 X15 hx (hb hby d3_28) rfl (z := ((((0 : Int64) ||| w0) ||| w1) ||| w2)) rfl ?_
  refine g_lstoreN 30 X15 hx (hb hby d3_29) rfl (Ls' := #[.val (.ref a1), .val (.ref b1), .val (.long ((((0 : Int64) ||| w0) ||| w1) ||| w2)), .second, .val (.int (2 : Int32)), .unset, .unset, .unset, .unset, .unset, .unset]) rfl ?_
  refine g_iinc 33 X15 hx (hb hby d3_30) rfl (x := (2 : Int32)) rfl (z := (3 : Int32)) (by decide) (Ls' := #[.val (.ref a1), .val (.ref b1), .val (.long ((((0 : Int64) ||| w0) ||| w1) ||| w2)), .second, .val (.int (3 : Int32)), .unset, .unset, .unset, .unset, .unset, .unset]) rfl ?_
  refine g_goto 10 X15 hx (hb hby d3_33) (by decide) (by decide) ?_
  refine g_iload 12 X15 hx (hb hby d3_10) rfl (v := (3 : Int32)) rfl ?_
  refine g_aloadN 13 X15 hx (hb hby d3_12) rfl (v := (.ref a1)) rfl rfl ?_
  refine g_arraylengthJ 14 X15 hx hZ e15 f16 (z := (3 : Int32)) rfl (hb hby d3_13) rfl ?_
  refine g_icmpYes 36 X15 hx (hb hby d3_14)  (flt (Int32.lt_irrefl)).2.1 (by decide) (by decide) ?_
  refine g_aloadN 37 X15 hx (hb hby d3_36) rfl (v := (.ref a1)) rfl rfl ?_
  refine g_arraylengthJ 38 X15 hx hZ e15 f16 (z := (3 : Int32)) rfl (hb hby d3_37) rfl ?_
  refine g_new_int 40 X15 hx hZ (hw _ (List.mem_of_getElem? (i := 16) rfl)) e15 3 3 (by decide) rfl (by decide) (by decide) (by decide) (by decide) (hb hby d3_38) rfl ?_
  intro T20 h20 b20 X20 e20 E20 g20 A20
  have f21 := f16.ext E20
  have f22 := A15'.ext E20
  have Zs23 : n0 ≤ h20.size := (Nat.le_trans Zs17 E20.1)
  have K24 : Keep h0 h20 [] := K18.ext E20
  have g_b20 : n0 ≤ b20 := Nat.le_trans Zs17 (Nat.le_of_eq g20.symm)
  have sz_b20 : h0.size ≤ b20 := Nat.le_trans K18.1 (Nat.le_of_eq g20.symm)
  have A20' : AI Z h20 b20 .int [(0 : Int32), (0 : Int32), (0 : Int32)] := A20
  refine g_astore 42 X20 hx (hb hby d3_40) rfl (Ls' := #[.val (.ref a1), .val (.ref b1), .val (.long ((((0 : Int64) ||| w0) ||| w1) ||| w2)), .second, .val (.ref b20), .unset, .unset, .unset, .unset, .unset, .unset]) rfl rfl ?_
  refine g_iconst 43 X20 hx (hb hby d3_42) rfl (z := (0 : Int32)) rfl ?_
  refine g_istore 45 X20 hx (hb hby d3_43) rfl (Ls' := #[.val (.ref a1), .val (.ref b1), .val (.long ((((0 : Int64) ||| w0) ||| w1) ||| w2)), .second, .val (.ref b20), .val (.int (0 : Int32)), .unset, .unset, .unset, .unset, .unset]) rfl ?_
  have hbt := own_bits0 w0 w1 w2
  generalize ((((0 : Int64) ||| w0) ||| w1) ||| w2) = bt at hbt ⊢
  have AK0 : AI Z h20 b1 .int (own_K w0 w1 w2 0) := by rw [own_K0]; exact f22
  have hM0 : List.length [(0 : Int32), (0 : Int32), (0 : Int32)] = 3 := rfl
  obtain ⟨x0_0, x1_0, x2_0, hk0, hX0⟩ := own_KX w0 w1 w2 0
  have AX0 : AI Z h20 b1 .int [x0_0, x1_0, x2_0] := by rw [← hk0]; exact AK0
  have hR0 := own_sixR _ _ _ _ _ _ hX0
  have hB0 := own_sixB _ _ _ _ _ _ hX0
  refine g_iload 47 X20 hx (hb hby d3_45) rfl (v := (0 : Int32)) rfl ?_
  refine g_bipush 49 X20 hx (hb hby d3_47) rfl (z := (64 : Int32)) rfl ?_
  refine g_icmpNo 52 X20 hx (hb hby d3_49)  (tlt (by decide : (0 : Int32) < (64 : Int32))).2.1 rfl ?_
  refine g_lloadN 53 X20 hx (hb hby d3_52) rfl (v := bt) rfl ?_
  refine g_iload 55 X20 hx (hb hby d3_53) rfl (v := (0 : Int32)) rfl ?_
  refine g_lushr 56 X20 hx (hb hby d3_55) rfl (z := ((bt.toUInt64 >>> ((0 : Int32) &&& 0x3f).toInt64.toUInt64).toInt64)) rfl ?_
  refine g_lconst 57 X20 hx (hb hby d3_56) rfl (z := (0 : Int64)) rfl ?_
  by_cases hc57_738 : ((bt.toUInt64 >>> ((0 : Int32) &&& 0x3f).toInt64.toUInt64).toInt64) = (0 : Int64)
  ·
    refine g_lcmpYes 218 X20 hx (hb hby d3_57) rfl (hb hby d3_58) (teqL hc57_738).1 (by decide) (by decide) ?_
    refine g_aloadN 219 X20 hx (hb hby d3_218) rfl (v := (.ref b1)) rfl rfl ?_
    have hend : own_K w0 w1 w2 0 = own_Srt w0 w1 w2 := (fun q => own_KS w0 w1 w2 0 q.1 q.2.1 q.2.2) (own_bitsL w0 w1 w2 (0 : Int32) 0 (by decide) hW0 hW1 hW2 bt hbt hc57_738)
    rw [hend] at AK0
    exact g_retA X20 hx Bd.returns hlk rfl rfl rfl (hb hby d3_219) (by decide) (by decide) (by
        show Q3 Z a1 w0 w1 w2 h0 n0 _ T20.heap _
        rw [e20]
        exact ⟨b1, rfl, N19, K24, g_b1, sz_b1, AK0⟩)
  ·
    refine g_lcmpNo 61 X20 hx (hb hby d3_57) rfl (hb hby d3_58) (feqL hc57_738).1 rfl ?_
    refine g_sipush 64 X20 hx (hb hby d3_61) rfl (z := (257 : Int32)) rfl ?_
    refine g_new_int 66 X20 hx hZ (hw _ (List.mem_of_getElem? (i := 16) rfl)) e20 257 257 (by decide) rfl (by decide) (by decide) (by decide) (by decide) (hb hby d3_64) rfl ?_
    intro T740 h740 b740 X740 e740 E740 g740 A740
    have f741 := f21.ext E740
    have f742 := AX0.ext E740
    have f743 := A20'.ext E740
    have Zs744 : n0 ≤ h740.size := (Nat.le_trans Zs23 E740.1)
    have K745 : Keep h0 h740 [] := K24.ext E740
    have g_b740 : n0 ≤ b740 := Nat.le_trans Zs23 (Nat.le_of_eq g740.symm)
    have sz_b740 : h0.size ≤ b740 := Nat.le_trans K24.1 (Nat.le_of_eq g740.symm)
    refine g_astore 68 X740 hx (hb hby d3_66) rfl (Ls' := #[.val (.ref a1), .val (.ref b1), .val (.long bt), .second, .val (.ref b20), .val (.int (0 : Int32)), .val (.ref b740), .unset, .unset, .unset, .unset]) rfl rfl ?_
    refine g_aloadN 69 X740 hx (hb hby d3_68) rfl (v := (.ref b1)) rfl rfl ?_
    refine g_astore 71 X740 hx (hb hby d3_69) rfl (Ls' := #[.val (.ref a1), .val (.ref b1), .val (.long bt), .second, .val (.ref b20), .val (.int (0 : Int32)), .val (.ref b740), .val (.ref b1), .unset, .unset, .unset]) rfl rfl ?_
    refine g_aload 73 X740 hx (hb hby d3_71) rfl (v := (.ref b1)) rfl rfl ?_
    refine g_arraylengthI 74 X740 hx hZ e740 f742 (z := (3 : Int32)) rfl (hb hby d3_73) rfl ?_
    refine g_istore 76 X740 hx (hb hby d3_74) rfl (Ls' := #[.val (.ref a1), .val (.ref b1), .val (.long bt), .second, .val (.ref b20), .val (.int (0 : Int32)), .val (.ref b740), .val (.ref b1), .val (.int (3 : Int32)), .unset, .unset]) rfl ?_
    refine g_iconst 77 X740 hx (hb hby d3_76) rfl (z := (0 : Int32)) rfl ?_
    refine g_istore 79 X740 hx (hb hby d3_77) rfl (Ls' := #[.val (.ref a1), .val (.ref b1), .val (.long bt), .second, .val (.ref b20), .val (.int (0 : Int32)), .val (.ref b740), .val (.ref b1), .val (.int (3 : Int32)), .val (.int (0 : Int32)), .unset]) rfl ?_
    refine g_iload 81 X740 hx (hb hby d3_79) rfl (v := (0 : Int32)) rfl ?_
    refine g_iload 83 X740 hx (hb hby d3_81) rfl (v := (3 : Int32)) rfl ?_
    refine g_icmpNo 86 X740 hx (hb hby d3_83)  (tlt (by decide : (0 : Int32) < (3 : Int32))).2.1 rfl ?_
    refine g_aload 88 X740 hx (hb hby d3_86) rfl (v := (.ref b1)) rfl rfl ?_
    refine g_iload 90 X740 hx (hb hby d3_88) rfl (v := (0 : Int32)) rfl ?_
    refine g_iaload 91 X740 hx hZ e740 f742 0 (by decide) rfl (z := x0_0) rfl (hb hby d3_90) rfl ?_
    refine g_istore 93 X740 hx (hb hby d3_91) rfl (Ls' := #[.val (.ref a1), .val (.ref b1), .val (.long bt), .second, .val (.ref b20), .val (.int (0 : Int32)), .val (.ref b740), .val (.ref b1), .val (.int (3 : Int32)), .val (.int (0 : Int32)), .val (.int x0_0)]) rfl ?_
    refine g_aload 95 X740 hx (hb hby d3_93) rfl (v := (.ref b740)) rfl rfl ?_
    refine g_aloadN 96 X740 hx (hb hby d3_95) rfl (v := (.ref a1)) rfl rfl ?_
    refine g_iload 98 X740 hx (hb hby d3_96) rfl (v := x0_0) rfl ?_
    refine g_laload 99 X740 hx hZ e740 f741 (x0_0.toInt.toNat) (own_nat0 hB0.1.1) rfl (z := (([w0, w1, w2] : List Int64).getD x0_0.toInt.toNat 0)) (own_getJ (by have q := hB0.1; show _ < 3; omega)) (hb hby d3_98) rfl ?_
    refine g_iload 101 X740 hx (hb hby d3_99) rfl (v := (0 : Int32)) rfl ?_
    have hq101_hq_746 : 0 ≤ (([w0, w1, w2] : List Int64).getD x0_0.toInt.toNat 0).toInt := (own_wN w0 w1 w2 hW0 hW1 hW2 x0_0 hR0.1)
    have hq101_hp_747 : 0 ≤ (0 : Int32).toInt ∧ (0 : Int32).toInt ≤ 63 := by decide
    refine g_callS 104 X740 hx hZ (y := (⟨"com/example/prefixwood/prefixwood/huffman/TwoQueues", "digit", "(JI)I"⟩ : MethodName)) hown (hw _ (List.mem_of_getElem? (i := 17) rfl)) (hw _ (List.mem_of_getElem? (i := 18) rfl)) (hw _ (List.mem_of_getElem? (i := 4) rfl)) (hw _ (List.mem_of_getElem? (i := 19) rfl)) (by decide) e740 (rm4 l Z a0 hw [] (([w0, w1, w2] : List Int64).getD x0_0.toInt.toNat 0) (0 : Int32)  h740 n0 Zs744 hq101_hq_746 hq101_hp_747) (by rw [hml]; rfl) [(.long (([w0, w1, w2] : List Int64).getD x0_0.toInt.toNat 0)), (.int (0 : Int32))] [(.ref b740)] rfl rfl (lenOf pd_0 rfl) 1 (Nat.le_of_eq rfl) (hb hby d3_101) (by decide) (by decide) (by decide) (by decide) rfl ?_
    intro v746 T746 L746 X746 hQ746
    obtain ⟨r746, rfl, hr746, N746q, e746⟩ := hQ746
    have N746 := Fr.app N19 N746q
    show Go p e below s ({ frames := 1, cells := 10, slots := 2062, locals := 16 } : Room).cells ({ frames := 1, cells := 10, slots := 2062, locals := 16 } : Room).slots (Q3 Z a1 w0 w1 w2 h0 n0) T746 (mkF m 104 #[.val (.ref a1), .val (.ref b1), .val (.long bt), .second, .val (.ref b20), .val (.int (0 : Int32)), .val (.ref b740), .val (.ref b1), .val (.int (3 : Int32)), .val (.int (0 : Int32)), .val (.int x0_0)] [(.int r746), (.ref b740)])
    have hD0_0 : own_dig (([w0, w1, w2] : List Int64).getD x0_0.toInt.toNat 0) 0 r746 := hr746
    have hE0_0 := own_dgB _ _ _ hD0_0
    refine g_iconst 105 X746 hx (hb hby d3_104) rfl (z := (1 : Int32)) rfl ?_
    refine g_iadd 106 X746 hx (hb hby d3_105) rfl (z := (r746 + (1 : Int32))) rfl ?_
    refine g_dup2 107 X746 hx (hb hby d3_106) rfl rfl rfl ?_
    refine g_iaload 108 X746 hx hZ e746 A740 (r746.toInt.toNat + 1) (own_nat0 (by have q := hE0_0; rw [own_inc (by omega)]; omega)) (by have q := hE0_0; show (Int32.toInt _).toNat = _; rw [own_inc (by omega)]; omega) (z := ((List.replicate 257 (0 : Int32)).getD (r746.toInt.toNat + 1) 0)) (own_get (by have q := hE0_0; simp only [own_upl, List.length_replicate]; omega)) (hb hby d3_107) rfl ?_
    refine g_iconst 109 X746 hx (hb hby d3_108) rfl (z := (1 : Int32)) rfl ?_
    refine g_iadd 110 X746 hx (hb hby d3_109) rfl (z := (((List.replicate 257 (0 : Int32)).getD (r746.toInt.toNat + 1) 0) + (1 : Int32))) rfl ?_
    refine g_iastore 111 X746 hx hZ e746 A740 (r746.toInt.toNat + 1) (own_nat0 (by have q := hE0_0; rw [own_inc (by omega)]; omega)) (by have q := hE0_0; show (Int32.toInt _).toNat = _; rw [own_inc (by omega)]; omega) (by have q := hE0_0; simp only [own_upl, List.length_replicate]; omega) (z := (((List.replicate 257 (0 : Int32)).getD (r746.toInt.toNat + 1) 0) + (1 : Int32))) rfl (hb hby d3_110) rfl ?_
    intro T749 h749 X749 e749 W749 A749
    have f750 := f741.other W749 (Nat.ne_of_lt (Nat.lt_of_lt_of_le f21.lt (Nat.le_of_eq g740.symm)))
    have f751 := f742.other W749 (Nat.ne_of_lt (Nat.lt_of_lt_of_le AX0.lt (Nat.le_of_eq g740.symm)))
    have f752 := f743.other W749 (Nat.ne_of_lt (Nat.lt_of_lt_of_le A20'.lt (Nat.le_of_eq g740.symm)))
    have Zs753 : n0 ≤ h749.size := (Nat.le_trans Zs744 (Keep.of_wr W749).1)
    have K754 : Keep h0 h749 [] := K745.wr W749 (Or.inr sz_b740)
    have N755 := Fr.snoc X749 N746 g_b740
    have AU756 : AI Z h749 b740 .int (own_up (List.replicate 257 (0 : Int32)) (r746.toInt.toNat + 1)) := A749
    refine g_iinc 114 X749 hx (hb hby d3_111) rfl (x := (0 : Int32)) rfl (z := (1 : Int32)) (by decide) (Ls' := #[.val (.ref a1), .val (.ref b1), .val (.long bt), .second, .val (.ref b20), .val (.int (0 : Int32)), .val (.ref b740), .val (.ref b1), .val (.int (3 : Int32)), .val (.int (1 : Int32)), .val (.int x0_0)]) rfl ?_
    refine g_goto 79 X749 hx (hb hby d3_114) (by decide) (by decide) ?_
    refine g_iload 81 X749 hx (hb hby d3_79) rfl (v := (1 : Int32)) rfl ?_
    refine g_iload 83 X749 hx (hb hby d3_81) rfl (v := (3 : Int32)) rfl ?_
    refine g_icmpNo 86 X749 hx (hb hby d3_83)  (tlt (by decide : (1 : Int32) < (3 : Int32))).2.1 rfl ?_
    refine g_aload 88 X749 hx (hb hby d3_86) rfl (v := (.ref b1)) rfl rfl ?_
    refine g_iload 90 X749 hx (hb hby d3_88) rfl (v := (1 : Int32)) rfl ?_
    refine g_iaload 91 X749 hx hZ e749 f751 1 (by decide) rfl (z := x1_0) rfl (hb hby d3_90) rfl ?_
    refine g_istore 93 X749 hx (hb hby d3_91) rfl (Ls' := #[.val (.ref a1), .val (.ref b1), .val (.long bt), .second, .val (.ref b20), .val (.int (0 : Int32)), .val (.ref b740), .val (.ref b1), .val (.int (3 : Int32)), .val (.int (1 : Int32)), .val (.int x1_0)]) rfl ?_
    refine g_aload 95 X749 hx (hb hby d3_93) rfl (v := (.ref b740)) rfl rfl ?_
    refine g_aloadN 96 X749 hx (hb hby d3_95) rfl (v := (.ref a1)) rfl rfl ?_
    refine g_iload 98 X749 hx (hb hby d3_96) rfl (v := x1_0) rfl ?_
    refine g_laload 99 X749 hx hZ e749 f750 (x1_0.toInt.toNat) (own_nat0 hB0.2.1.1) rfl (z := (([w0, w1, w2] : List Int64).getD x1_0.toInt.toNat 0)) (own_getJ (by have q := hB0.2.1; show _ < 3; omega)) (hb hby d3_98) rfl ?_
    refine g_iload 101 X749 hx (hb hby d3_99) rfl (v := (0 : Int32)) rfl ?_
    have hq101_hq_757 : 0 ≤ (([w0, w1, w2] : List Int64).getD x1_0.toInt.toNat 0).toInt := (own_wN w0 w1 w2 hW0 hW1 hW2 x1_0 hR0.2.1)
    have hq101_hp_758 : 0 ≤ (0 : Int32).toInt ∧ (0 : Int32).toInt ≤ 63 := by decide
    refine g_callS 104 X749 hx hZ (y := (⟨"com/example/prefixwood/prefixwood/huffman/TwoQueues", "digit", "(JI)I"⟩ : MethodName)) hown (hw _ (List.mem_of_getElem? (i := 17) rfl)) (hw _ (List.mem_of_getElem? (i := 18) rfl)) (hw _ (List.mem_of_getElem? (i := 4) rfl)) (hw _ (List.mem_of_getElem? (i := 19) rfl)) (by decide) e749 (rm4 l Z a0 hw [] (([w0, w1, w2] : List Int64).getD x1_0.toInt.toNat 0) (0 : Int32)  h749 n0 Zs753 hq101_hq_757 hq101_hp_758) (by rw [hml]; rfl) [(.long (([w0, w1, w2] : List Int64).getD x1_0.toInt.toNat 0)), (.int (0 : Int32))] [(.ref b740)] rfl rfl (lenOf pd_0 rfl) 1 (Nat.le_of_eq rfl) (hb hby d3_101) (by decide) (by decide) (by decide) (by decide) rfl ?_
    intro v757 T757 L757 X757 hQ757
    obtain ⟨r757, rfl, hr757, N757q, e757⟩ := hQ757
    have N757 := Fr.app N755 N757q
    show Go p e below s ({ frames := 1, cells := 10, slots := 2062, locals := 16 } : Room).cells ({ frames := 1, cells := 10, slots := 2062, locals := 16 } : Room).slots (Q3 Z a1 w0 w1 w2 h0 n0) T757 (mkF m 104 #[.val (.ref a1), .val (.ref b1), .val (.long bt), .second, .val (.ref b20), .val (.int (0 : Int32)), .val (.ref b740), .val (.ref b1), .val (.int (3 : Int32)), .val (.int (1 : Int32)), .val (.int x1_0)] [(.int r757), (.ref b740)])
    have hD1_0 : own_dig (([w0, w1, w2] : List Int64).getD x1_0.toInt.toNat 0) 0 r757 := hr757
    have hE1_0 := own_dgB _ _ _ hD1_0
    refine g_iconst 105 X757 hx (hb hby d3_104) rfl (z := (1 : Int32)) rfl ?_
    refine g_iadd 106 X757 hx (hb hby d3_105) rfl (z := (r757 + (1 : Int32))) rfl ?_
    refine g_dup2 107 X757 hx (hb hby d3_106) rfl rfl rfl ?_
    refine g_iaload 108 X757 hx hZ e757 AU756 (r757.toInt.toNat + 1) (own_nat0 (by have q := hE1_0; rw [own_inc (by omega)]; omega)) (by have q := hE1_0; show (Int32.toInt _).toNat = _; rw [own_inc (by omega)]; omega) (z := ((own_up (List.replicate 257 (0 : Int32)) (r746.toInt.toNat + 1)).getD (r757.toInt.toNat + 1) 0)) (own_get (by have q := hE1_0; simp only [own_upl, List.length_replicate]; omega)) (hb hby d3_107) rfl ?_
    refine g_iconst 109 X757 hx (hb hby d3_108) rfl (z := (1 : Int32)) rfl ?_
    refine g_iadd 110 X757 hx (hb hby d3_109) rfl (z := (((own_up (List.replicate 257 (0 : Int32)) (r746.toInt.toNat + 1)).getD (r757.toInt.toNat + 1) 0) + (1 : Int32))) rfl ?_
    refine g_iastore 111 X757 hx hZ e757 AU756 (r757.toInt.toNat + 1) (own_nat0 (by have q := hE1_0; rw [own_inc (by omega)]; omega)) (by have q := hE1_0; show (Int32.toInt _).toNat = _; rw [own_inc (by omega)]; omega) (by have q := hE1_0; simp only [own_upl, List.length_replicate]; omega) (z := (((own_up (List.replicate 257 (0 : Int32)) (r746.toInt.toNat + 1)).getD (r757.toInt.toNat + 1) 0) + (1 : Int32))) rfl (hb hby d3_110) rfl ?_
    intro T760 h760 X760 e760 W760 A760
    have f761 := f750.other W760 (Nat.ne_of_lt (Nat.lt_of_lt_of_le f21.lt (Nat.le_of_eq g740.symm)))
    have f762 := f751.other W760 (Nat.ne_of_lt (Nat.lt_of_lt_of_le AX0.lt (Nat.le_of_eq g740.symm)))
    have f763 := f752.other W760 (Nat.ne_of_lt (Nat.lt_of_lt_of_le A20'.lt (Nat.le_of_eq g740.symm)))
    have Zs764 : n0 ≤ h760.size := (Nat.le_trans Zs753 (Keep.of_wr W760).1)
    have K765 : Keep h0 h760 [] := K754.wr W760 (Or.inr sz_b740)
    have N766 := Fr.snoc X760 N757 g_b740
    have AU767 : AI Z h760 b740 .int (own_up (own_up (List.replicate 257 (0 : Int32)) (r746.toInt.toNat + 1)) (r757.toInt.toNat + 1)) := A760
    refine g_iinc 114 X760 hx (hb hby d3_111) rfl (x := (1 : Int32)) rfl (z := (2 : Int32)) (by decide) (Ls' := #[.val (.ref a1), .val (.ref b1), .val (.long bt), .second, .val (.ref b20), .val (.int (0 : Int32)), .val (.ref b740), .val (.ref b1), .val (.int (3 : Int32)), .val (.int (2 : Int32)), .val (.int x1_0)]) rfl ?_
    refine g_goto 79 X760 hx (hb hby d3_114) (by decide) (by decide) ?_
    refine g_iload 81 X760 hx (hb hby d3_79) rfl (v := (2 : Int32)) rfl ?_
    refine g_iload 83 X760 hx (hb hby d3_81) rfl (v := (3 : Int32)) rfl ?_
    refine g_icmpNo 86 X760 hx (hb hby d3_83)  (tlt (by decide : (2 : Int32) < (3 : Int32))).2.1 rfl ?_
    refine g_aload 88 X760 hx (hb hby d3_86) rfl (v := (.ref b1)) rfl rfl ?_
    refine g_iload 90 X760 hx (hb hby d3_88) rfl (v := (2 : Int32)) rfl ?_
    refine g_iaload 91 X760 hx hZ e760 f762 2 (by decide) rfl (z := x2_0) rfl (hb hby d3_90) rfl ?_
    refine g_istore 93 X760 hx (hb hby d3_91) rfl (Ls' := #[.val (.ref a1), .val (.ref b1), .val (.long bt), .second, .val (.ref b20), .val (.int (0 : Int32)), .val (.ref b740), .val (.ref b1), .val (.int (3 : Int32)), .val (.int (2 : Int32)), .val (.int x2_0)]) rfl ?_
    refine g_aload 95 X760 hx (hb hby d3_93) rfl (v := (.ref b740)) rfl rfl ?_
    refine g_aloadN 96 X760 hx (hb hby d3_95) rfl (v := (.ref a1)) rfl rfl ?_
    refine g_iload 98 X760 hx (hb hby d3_96) rfl (v := x2_0) rfl ?_
    refine g_laload 99 X760 hx hZ e760 f761 (x2_0.toInt.toNat) (own_nat0 hB0.2.2.1) rfl (z := (([w0, w1, w2] : List Int64).getD x2_0.toInt.toNat 0)) (own_getJ (by have q := hB0.2.2; show _ < 3; omega)) (hb hby d3_98) rfl ?_
    refine g_iload 101 X760 hx (hb hby d3_99) rfl (v := (0 : Int32)) rfl ?_
    have hq101_hq_768 : 0 ≤ (([w0, w1, w2] : List Int64).getD x2_0.toInt.toNat 0).toInt := (own_wN w0 w1 w2 hW0 hW1 hW2 x2_0 hR0.2.2)
    have hq101_hp_769 : 0 ≤ (0 : Int32).toInt ∧ (0 : Int32).toInt ≤ 63 := by decide
    refine g_callS 104 X760 hx hZ (y := (⟨"com/example/prefixwood/prefixwood/huffman/TwoQueues", "digit", "(JI)I"⟩ : MethodName)) hown (hw _ (List.mem_of_getElem? (i := 17) rfl)) (hw _ (List.mem_of_getElem? (i := 18) rfl)) (hw _ (List.mem_of_getElem? (i := 4) rfl)) (hw _ (List.mem_of_getElem? (i := 19) rfl)) (by decide) e760 (rm4 l Z a0 hw [] (([w0, w1, w2] : List Int64).getD x2_0.toInt.toNat 0) (0 : Int32)  h760 n0 Zs764 hq101_hq_768 hq101_hp_769) (by rw [hml]; rfl) [(.long (([w0, w1, w2] : List Int64).getD x2_0.toInt.toNat 0)), (.int (0 : Int32))] [(.ref b740)] rfl rfl (lenOf pd_0 rfl) 1 (Nat.le_of_eq rfl) (hb hby d3_101) (by decide) (by decide) (by decide) (by decide) rfl ?_
    intro v768 T768 L768 X768 hQ768
    obtain ⟨r768, rfl, hr768, N768q, e768⟩ := hQ768
    have N768 := Fr.app N766 N768q
    show Go p e below s ({ frames := 1, cells := 10, slots := 2062, locals := 16 } : Room).cells ({ frames := 1, cells := 10, slots := 2062, locals := 16 } : Room).slots (Q3 Z a1 w0 w1 w2 h0 n0) T768 (mkF m 104 #[.val (.ref a1), .val (.ref b1), .val (.long bt), .second, .val (.ref b20), .val (.int (0 : Int32)), .val (.ref b740), .val (.ref b1), .val (.int (3 : Int32)), .val (.int (2 : Int32)), .val (.int x2_0)] [(.int r768), (.ref b740)])
    have hD2_0 : own_dig (([w0, w1, w2] : List Int64).getD x2_0.toInt.toNat 0) 0 r768 := hr768
    have hE2_0 := own_dgB _ _ _ hD2_0
    refine g_iconst 105 X768 hx (hb hby d3_104) rfl (z := (1 : Int32)) rfl ?_
    refine g_iadd 106 X768 hx (hb hby d3_105) rfl (z := (r768 + (1 : Int32))) rfl ?_
    refine g_dup2 107 X768 hx (hb hby d3_106) rfl rfl rfl ?_
    refine g_iaload 108 X768 hx hZ e768 AU767 (r768.toInt.toNat + 1) (own_nat0 (by have q := hE2_0; rw [own_inc (by omega)]; omega)) (by have q := hE2_0; show (Int32.toInt _).toNat = _; rw [own_inc (by omega)]; omega) (z := ((own_up (own_up (List.replicate 257 (0 : Int32)) (r746.toInt.toNat + 1)) (r757.toInt.toNat + 1)).getD (r768.toInt.toNat + 1) 0)) (own_get (by have q := hE2_0; simp only [own_upl, List.length_replicate]; omega)) (hb hby d3_107) rfl ?_
    refine g_iconst 109 X768 hx (hb hby d3_108) rfl (z := (1 : Int32)) rfl ?_
    refine g_iadd 110 X768 hx (hb hby d3_109) rfl (z := (((own_up (own_up (List.replicate 257 (0 : Int32)) (r746.toInt.toNat + 1)) (r757.toInt.toNat + 1)).getD (r768.toInt.toNat + 1) 0) + (1 : Int32))) rfl ?_
    refine g_iastore 111 X768 hx hZ e768 AU767 (r768.toInt.toNat + 1) (own_nat0 (by have q := hE2_0; rw [own_inc (by omega)]; omega)) (by have q := hE2_0; show (Int32.toInt _).toNat = _; rw [own_inc (by omega)]; omega) (by have q := hE2_0; simp only [own_upl, List.length_replicate]; omega) (z := (((own_up (own_up (List.replicate 257 (0 : Int32)) (r746.toInt.toNat + 1)) (r757.toInt.toNat + 1)).getD (r768.toInt.toNat + 1) 0) + (1 : Int32))) rfl (hb hby d3_110) rfl ?_
    intro T771 h771 X771 e771 W771 A771
    have f772 := f761.other W771 (Nat.ne_of_lt (Nat.lt_of_lt_of_le f21.lt (Nat.le_of_eq g740.symm)))
    have f773 := f762.other W771 (Nat.ne_of_lt (Nat.lt_of_lt_of_le AX0.lt (Nat.le_of_eq g740.symm)))
    have f774 := f763.other W771 (Nat.ne_of_lt (Nat.lt_of_lt_of_le A20'.lt (Nat.le_of_eq g740.symm)))
    have Zs775 : n0 ≤ h771.size := (Nat.le_trans Zs764 (Keep.of_wr W771).1)
    have K776 : Keep h0 h771 [] := K765.wr W771 (Or.inr sz_b740)
    have N777 := Fr.snoc X771 N768 g_b740
    have AU778 : AI Z h771 b740 .int (own_up (own_up (own_up (List.replicate 257 (0 : Int32)) (r746.toInt.toNat + 1)) (r757.toInt.toNat + 1)) (r768.toInt.toNat + 1)) := A771
    refine g_iinc 114 X771 hx (hb hby d3_111) rfl (x := (2 : Int32)) rfl (z := (3 : Int32)) (by decide) (Ls' := #[.val (.ref a1), .val (.ref b1), .val (.long bt), .second, .val (.ref b20), .val (.int (0 : Int32)), .val (.ref b740), .val (.ref b1), .val (.int (3 : Int32)), .val (.int (3 : Int32)), .val (.int x2_0)]) rfl ?_
    refine g_goto 79 X771 hx (hb hby d3_114) (by decide) (by decide) ?_
    refine g_iload 81 X771 hx (hb hby d3_79) rfl (v := (3 : Int32)) rfl ?_
    refine g_iload 83 X771 hx (hb hby d3_81) rfl (v := (3 : Int32)) rfl ?_
    refine g_icmpYes 117 X771 hx (hb hby d3_83)  (flt (Int32.lt_irrefl)).2.1 (by decide) (by decide) ?_
    refine g_iconst 118 X771 hx (hb hby d3_117) rfl (z := (1 : Int32)) rfl ?_
    refine g_istore 120 X771 hx (hb hby d3_118) rfl (Ls' := #[.val (.ref a1), .val (.ref b1), .val (.long bt), .second, .val (.ref b20), .val (.int (0 : Int32)), .val (.ref b740), .val (.int (1 : Int32)), .val (.int (3 : Int32)), .val (.int (3 : Int32)), .val (.int x2_0)]) rfl ?_
    have LOOP120_0 : ∀ (fuel_0 : Nat) (lv0 : Int32) (gF0 : List Int32) (Tl_0 : State) (hl_0 : Heap) (lo_0 : List Loc), (257 - lv0.toInt).toNat < fuel_0 → (1 ≤ lv0.toInt ∧ lv0.toInt ≤ 257) → (gF0.length = 257) → (own_pfx (257 - lv0.toInt).toNat lv0.toInt.toNat gF0 = own_pfx 256 1 (own_C r746.toInt.toNat r757.toInt.toNat r768.toInt.toNat)) → (Stand p l e ({ frames := 1, cells := 10, slots := 2062, locals := 16 } : Room) s m #[(.ref a1)] below meth c Tl_0 lo_0 3 263) → (Tl_0.heap = hl_0) → (Fr n0 lo_0) → (n0 ≤ hl_0.size) → (Keep h0 hl_0 []) → (AJ Z hl_0 a1 [w0, w1, w2]) → (AI Z hl_0 b1 .int [x0_0, x1_0, x2_0]) → (AI Z hl_0 b20 .int [(0 : Int32), (0 : Int32), (0 : Int32)]) → (AI Z hl_0 b740 .int gF0) → Go p e below s ({ frames := 1, cells := 10, slots := 2062, locals := 16 } : Room).cells ({ frames := 1, cells := 10, slots := 2062, locals := 16 } : Room).slots (Q3 Z a1 w0 w1 w2 h0 n0) Tl_0 (mkF m 120 #[.val (.ref a1), .val (.ref b1), .val (.long bt), .second, .val (.ref b20), .val (.int (0 : Int32)), .val (.ref b740), .val (.int lv0), .val (.int (3 : Int32)), .val (.int (3 : Int32)), .val (.int x2_0)] []) := by
      intro fuel_0
      induction fuel_0 with
      | zero => intro lv0 gF0 Tl_0 hl_0 lo_0 hm; exact absurd hm (Nat.not_lt_zero _)
      | succ fuel_0 ih_0 =>
        intro lv0 gF0 Tl_0 hl_0 lo_0 hm_0 hv0 hgl0 hgF0 Xl_0 el_0 Nl_0 Zl_0 Kl_0 fl_0_0 fl_0_1 fl_0_2 fl_0_3
        refine g_iload 122 Xl_0 hx (hb hby d3_120) rfl (v := lv0) rfl ?_
        refine g_aload 124 Xl_0 hx (hb hby d3_122) rfl (v := (.ref b740)) rfl rfl ?_
        refine g_arraylengthI 125 Xl_0 hx hZ el_0 fl_0_3 (z := (257 : Int32)) (by rw [hgl0]; rfl) (hb hby d3_124) rfl ?_
        by_cases hc125_778 : lv0 < (257 : Int32)
        ·
          refine g_icmpNo 128 Xl_0 hx (hb hby d3_125)  (tlt hc125_778).2.1 rfl ?_
          refine g_aload 130 Xl_0 hx (hb hby d3_128) rfl (v := (.ref b740)) rfl rfl ?_
          refine g_iload 132 Xl_0 hx (hb hby d3_130) rfl (v := lv0) rfl ?_
          refine g_dup2 133 Xl_0 hx (hb hby d3_132) rfl rfl rfl ?_
          refine g_iaload 134 Xl_0 hx hZ el_0 fl_0_3 (lv0.toInt.toNat) (own_nat0 (by omega)) rfl (z := (gF0.getD lv0.toInt.toNat 0)) (own_get (by have q := Int32.lt_iff_toInt_lt.mp hc125_778; simp only [Int32.reduceToInt] at q; rw [hgl0]; omega)) (hb hby d3_133) rfl ?_
          refine g_aload 136 Xl_0 hx (hb hby d3_134) rfl (v := (.ref b740)) rfl rfl ?_
          refine g_iload 138 Xl_0 hx (hb hby d3_136) rfl (v := lv0) rfl ?_
          refine g_iconst 139 Xl_0 hx (hb hby d3_138) rfl (z := (1 : Int32)) rfl ?_
          refine g_isub 140 Xl_0 hx (hb hby d3_139) rfl (z := (lv0 - (1 : Int32))) rfl ?_
          refine g_iaload 141 Xl_0 hx hZ el_0 fl_0_3 (lv0.toInt.toNat - 1) (own_nat0 (by have q := Int32.lt_iff_toInt_lt.mp hc125_778; simp only [Int32.reduceToInt] at q; rw [own_dec1 (by omega)]; omega)) (by have q := Int32.lt_iff_toInt_lt.mp hc125_778; simp only [Int32.reduceToInt] at q; show (Int32.toInt _).toNat = _; rw [own_dec1 (by omega)]; omega) (z := (gF0.getD (lv0.toInt.toNat - 1) 0)) (own_get (by have q := Int32.lt_iff_toInt_lt.mp hc125_778; simp only [Int32.reduceToInt] at q; rw [hgl0]; omega)) (hb hby d3_140) rfl ?_
          refine g_iadd 142 Xl_0 hx (hb hby d3_141) rfl (z := ((gF0.getD lv0.toInt.toNat 0) + (gF0.getD (lv0.toInt.toNat - 1) 0))) rfl ?_
          refine g_iastore 143 Xl_0 hx hZ el_0 fl_0_3 (lv0.toInt.toNat) (own_nat0 (by omega)) rfl (by have q := Int32.lt_iff_toInt_lt.mp hc125_778; simp only [Int32.reduceToInt] at q; rw [hgl0]; omega) (z := ((gF0.getD lv0.toInt.toNat 0) + (gF0.getD (lv0.toInt.toNat - 1) 0))) rfl (hb hby d3_142) rfl ?_
          intro T780 h780 X780 e780 W780 A780
          have f781 := fl_0_0.other W780 (Nat.ne_of_lt (Nat.lt_of_lt_of_le f21.lt (Nat.le_of_eq g740.symm)))
          have f782 := fl_0_1.other W780 (Nat.ne_of_lt (Nat.lt_of_lt_of_le AX0.lt (Nat.le_of_eq g740.symm)))
          have f783 := fl_0_2.other W780 (Nat.ne_of_lt (Nat.lt_of_lt_of_le A20'.lt (Nat.le_of_eq g740.symm)))
          have Zs784 : n0 ≤ h780.size := (Nat.le_trans Zl_0 (Keep.of_wr W780).1)
          have K785 : Keep h0 h780 [] := Kl_0.wr W780 (Or.inr sz_b740)
          have N786 := Fr.snoc X780 Nl_0 g_b740
          refine g_iinc 146 X780 hx (hb hby d3_143) rfl (x := lv0) rfl (z := (lv0 + (1 : Int32))) rfl (Ls' := #[.val (.ref a1), .val (.ref b1), .val (.long bt), .second, .val (.ref b20), .val (.int (0 : Int32)), .val (.ref b740), .val (.int (lv0 + (1 : Int32))), .val (.int (3 : Int32)), .val (.int (3 : Int32)), .val (.int x2_0)]) rfl ?_
          refine g_goto 120 X780 hx (hb hby d3_146) (by decide) (by decide) ?_
          exact ih_0 (lv0 + (1 : Int32)) (List.set gF0 (lv0.toInt.toNat) ((gF0.getD lv0.toInt.toNat 0) + (gF0.getD (lv0.toInt.toNat - 1) 0))) T780 h780 _ (by have q := Int32.lt_iff_toInt_lt.mp hc125_778; simp only [Int32.reduceToInt] at q; rw [own_inc (by omega)]; omega) (by have q := Int32.lt_iff_toInt_lt.mp hc125_778; simp only [Int32.reduceToInt] at q; rw [own_inc (by omega)]; omega) (by rw [List.length_set]; exact hgl0) (own_pfxstep lv0 gF0 _ (by have q := Int32.lt_iff_toInt_lt.mp hc125_778; simp only [Int32.reduceToInt] at q; omega) hgF0) X780 e780 N786 Zs784 K785 f781 f782 f783 A780
        ·
          refine g_icmpYes 149 Xl_0 hx (hb hby d3_125)  (flt hc125_778).2.1 (by decide) (by decide) ?_
          have hG0 : gF0 = own_pfx 256 1 (own_C r746.toInt.toNat r757.toInt.toNat r768.toInt.toNat) := by have q := mt Int32.lt_iff_toInt_lt.mpr hc125_778; simp only [Int32.reduceToInt] at q; rw [← hgF0, show (257 - lv0.toInt).toNat = 0 by omega]; rfl
          have hH0 := own_PS r746.toInt.toNat r757.toInt.toNat r768.toInt.toNat (by omega) (by omega) (by omega)
          rw [← hG0] at hH0
          have hQ0_ := own_qs gF0 r746.toInt.toNat r757.toInt.toNat r768.toInt.toNat (by omega) (by omega) (by omega) hH0
          have hq0_ := own_qB r746.toInt.toNat r757.toInt.toNat r768.toInt.toNat
          refine g_aloadN 150 Xl_0 hx (hb hby d3_149) rfl (v := (.ref b1)) rfl rfl ?_
          refine g_astore 152 Xl_0 hx (hb hby d3_150) rfl (Ls' := #[.val (.ref a1), .val (.ref b1), .val (.long bt), .second, .val (.ref b20), .val (.int (0 : Int32)), .val (.ref b740), .val (.ref b1), .val (.int (3 : Int32)), .val (.int (3 : Int32)), .val (.int x2_0)]) rfl rfl ?_
          refine g_aload 154 Xl_0 hx (hb hby d3_152) rfl (v := (.ref b1)) rfl rfl ?_
          refine g_arraylengthI 155 Xl_0 hx hZ el_0 fl_0_1 (z := (3 : Int32)) rfl (hb hby d3_154) rfl ?_
          refine g_istore 157 Xl_0 hx (hb hby d3_155) rfl (Ls' := #[.val (.ref a1), .val (.ref b1), .val (.long bt), .second, .val (.ref b20), .val (.int (0 : Int32)), .val (.ref b740), .val (.ref b1), .val (.int (3 : Int32)), .val (.int (3 : Int32)), .val (.int x2_0)]) rfl ?_
          refine g_iconst 158 Xl_0 hx (hb hby d3_157) rfl (z := (0 : Int32)) rfl ?_
          refine g_istore 160 Xl_0 hx (hb hby d3_158) rfl (Ls' := #[.val (.ref a1), .val (.ref b1), .val (.long bt), .second, .val (.ref b20), .val (.int (0 : Int32)), .val (.ref b740), .val (.ref b1), .val (.int (3 : Int32)), .val (.int (0 : Int32)), .val (.int x2_0)]) rfl ?_
          refine g_iload 162 Xl_0 hx (hb hby d3_160) rfl (v := (0 : Int32)) rfl ?_
          refine g_iload 164 Xl_0 hx (hb hby d3_162) rfl (v := (3 : Int32)) rfl ?_
          refine g_icmpNo 167 Xl_0 hx (hb hby d3_164)  (tlt (by decide : (0 : Int32) < (3 : Int32))).2.1 rfl ?_
          refine g_aload 169 Xl_0 hx (hb hby d3_167) rfl (v := (.ref b1)) rfl rfl ?_
          refine g_iload 171 Xl_0 hx (hb hby d3_169) rfl (v := (0 : Int32)) rfl ?_
          refine g_iaload 172 Xl_0 hx hZ el_0 fl_0_1 0 (by decide) rfl (z := x0_0) rfl (hb hby d3_171) rfl ?_
          refine g_istore 174 Xl_0 hx (hb hby d3_172) rfl (Ls' := #[.val (.ref a1), .val (.ref b1), .val (.long bt), .second, .val (.ref b20), .val (.int (0 : Int32)), .val (.ref b740), .val (.ref b1), .val (.int (3 : Int32)), .val (.int (0 : Int32)), .val (.int x0_0)]) rfl ?_
          refine g_aload 176 Xl_0 hx (hb hby d3_174) rfl (v := (.ref b20)) rfl rfl ?_
          refine g_aload 178 Xl_0 hx (hb hby d3_176) rfl (v := (.ref b740)) rfl rfl ?_
          refine g_aloadN 179 Xl_0 hx (hb hby d3_178) rfl (v := (.ref a1)) rfl rfl ?_
          refine g_iload 181 Xl_0 hx (hb hby d3_179) rfl (v := x0_0) rfl ?_
          refine g_laload 182 Xl_0 hx hZ el_0 fl_0_0 (x0_0.toInt.toNat) (own_nat0 hB0.1.1) rfl (z := (([w0, w1, w2] : List Int64).getD x0_0.toInt.toNat 0)) (own_getJ (by have q := hB0.1; show _ < 3; omega)) (hb hby d3_181) rfl ?_
          refine g_iload 184 Xl_0 hx (hb hby d3_182) rfl (v := (0 : Int32)) rfl ?_
          have hq184_hq_787 : 0 ≤ (([w0, w1, w2] : List Int64).getD x0_0.toInt.toNat 0).toInt := (own_wN w0 w1 w2 hW0 hW1 hW2 x0_0 hR0.1)
          have hq184_hp_788 : 0 ≤ (0 : Int32).toInt ∧ (0 : Int32).toInt ≤ 63 := by decide
          refine g_callS 187 Xl_0 hx hZ (y := (⟨"com/example/prefixwood/prefixwood/huffman/TwoQueues", "digit", "(JI)I"⟩ : MethodName)) hown (hw _ (List.mem_of_getElem? (i := 17) rfl)) (hw _ (List.mem_of_getElem? (i := 18) rfl)) (hw _ (List.mem_of_getElem? (i := 4) rfl)) (hw _ (List.mem_of_getElem? (i := 19) rfl)) (by decide) el_0 (rm4 l Z a0 hw [] (([w0, w1, w2] : List Int64).getD x0_0.toInt.toNat 0) (0 : Int32)  hl_0 n0 Zl_0 hq184_hq_787 hq184_hp_788) (by rw [hml]; rfl) [(.long (([w0, w1, w2] : List Int64).getD x0_0.toInt.toNat 0)), (.int (0 : Int32))] [(.ref b740), (.ref b20)] rfl rfl (lenOf pd_0 rfl) 2 (Nat.le_of_eq rfl) (hb hby d3_184) (by decide) (by decide) (by decide) (by decide) rfl ?_
          intro v787 T787 L787 X787 hQ787
          obtain ⟨r787, rfl, hr787, N787q, e787⟩ := hQ787
          have N787 := Fr.app Nl_0 N787q
          show Go p e below s ({ frames := 1, cells := 10, slots := 2062, locals := 16 } : Room).cells ({ frames := 1, cells := 10, slots := 2062, locals := 16 } : Room).slots (Q3 Z a1 w0 w1 w2 h0 n0) T787 (mkF m 187 #[.val (.ref a1), .val (.ref b1), .val (.long bt), .second, .val (.ref b20), .val (.int (0 : Int32)), .val (.ref b740), .val (.ref b1), .val (.int (3 : Int32)), .val (.int (0 : Int32)), .val (.int x0_0)] [(.int r787), (.ref b740), (.ref b20)])
          have hs0_0 : r746 = r787 := own_z _ ((hD0_0 : _ = _).trans (hr787 : _ = _).symm)
          subst hs0_0
          refine g_dup2 188 X787 hx (hb hby d3_187) rfl rfl rfl ?_
          refine g_iaload 189 X787 hx hZ e787 fl_0_3 (r746.toInt.toNat) (own_nat0 (by omega)) rfl (z := (gF0.getD r746.toInt.toNat 0)) (own_get (by first | (simp only [own_upl]; rw [hgl0]; omega) | (rw [hgl0]; omega))) (hb hby d3_188) rfl ?_
          refine g_dup_x2 190 X787 hx (hb hby d3_189) rfl rfl rfl rfl ?_
          refine g_iconst 191 X787 hx (hb hby d3_190) rfl (z := (1 : Int32)) rfl ?_
          refine g_iadd 192 X787 hx (hb hby d3_191) rfl (z := ((gF0.getD r746.toInt.toNat 0) + (1 : Int32))) rfl ?_
          refine g_iastore 193 X787 hx hZ e787 fl_0_3 (r746.toInt.toNat) (own_nat0 (by omega)) rfl (by first | (simp only [own_upl]; rw [hgl0]; omega) | (rw [hgl0]; omega)) (z := ((gF0.getD r746.toInt.toNat 0) + (1 : Int32))) rfl (hb hby d3_192) rfl ?_
          intro T790 h790 X790 e790 W790 A790
          have f791 := fl_0_0.other W790 (Nat.ne_of_lt (Nat.lt_of_lt_of_le f21.lt (Nat.le_of_eq g740.symm)))
          have f792 := fl_0_1.other W790 (Nat.ne_of_lt (Nat.lt_of_lt_of_le AX0.lt (Nat.le_of_eq g740.symm)))
          have f793 := fl_0_2.other W790 (Nat.ne_of_lt (Nat.lt_of_lt_of_le A20'.lt (Nat.le_of_eq g740.symm)))
          have Zs794 : n0 ≤ h790.size := (Nat.le_trans Zl_0 (Keep.of_wr W790).1)
          have K795 : Keep h0 h790 [] := Kl_0.wr W790 (Or.inr sz_b740)
          have N796 := Fr.snoc X790 N787 g_b740
          have AV797 : AI Z h790 b740 .int (own_up gF0 r746.toInt.toNat) := A790
          refine g_iload 195 X790 hx (hb hby d3_193) rfl (v := x0_0) rfl ?_
          refine g_iastore 196 X790 hx hZ e790 f793 (own_q0 r746.toInt.toNat r757.toInt.toNat r768.toInt.toNat) (own_nat0 (by rw [hQ0_.1]; exact Int.natCast_nonneg _)) (by show (Int32.toInt _).toNat = _; rw [hQ0_.1]; rfl) (by have q := hq0_.1; rw [hM0]; omega) (z := x0_0) rfl (hb hby d3_195) rfl ?_
          intro T798 h798 X798 e798 W798 A798
          have f799 := f791.other W798 (Nat.ne_of_lt (Nat.lt_of_lt_of_le f16.lt (Nat.le_of_eq g20.symm)))
          have f800 := f792.other W798 (Nat.ne_of_lt (Nat.lt_of_lt_of_le A15'.lt (Nat.le_of_eq g20.symm)))
          have f801 := AV797.other W798 (Ne.symm (Nat.ne_of_lt (Nat.lt_of_lt_of_le A20'.lt (Nat.le_of_eq g740.symm))))
          have Zs802 : n0 ≤ h798.size := (Nat.le_trans Zs794 (Keep.of_wr W798).1)
          have K803 : Keep h0 h798 [] := K795.wr W798 (Or.inr sz_b20)
          have N804 := Fr.snoc X798 N796 g_b20
          refine g_iinc 199 X798 hx (hb hby d3_196) rfl (x := (0 : Int32)) rfl (z := (1 : Int32)) (by decide) (Ls' := #[.val (.ref a1), .val (.ref b1), .val (.long bt), .second, .val (.ref b20), .val (.int (0 : Int32)), .val (.ref b740), .val (.ref b1), .val (.int (3 : Int32)), .val (.int (1 : Int32)), .val (.int x0_0)]) rfl ?_
          refine g_goto 160 X798 hx (hb hby d3_199) (by decide) (by decide) ?_
          refine g_iload 162 X798 hx (hb hby d3_160) rfl (v := (1 : Int32)) rfl ?_
          refine g_iload 164 X798 hx (hb hby d3_162) rfl (v := (3 : Int32)) rfl ?_
          refine g_icmpNo 167 X798 hx (hb hby d3_164)  (tlt (by decide : (1 : Int32) < (3 : Int32))).2.1 rfl ?_
          refine g_aload 169 X798 hx (hb hby d3_167) rfl (v := (.ref b1)) rfl rfl ?_
          refine g_iload 171 X798 hx (hb hby d3_169) rfl (v := (1 : Int32)) rfl ?_
          refine g_iaload 172 X798 hx hZ e798 f800 1 (by decide) rfl (z := x1_0) rfl (hb hby d3_171) rfl ?_
          refine g_istore 174 X798 hx (hb hby d3_172) rfl (Ls' := #[.val (.ref a1), .val (.ref b1), .val (.long bt), .second, .val (.ref b20), .val (.int (0 : Int32)), .val (.ref b740), .val (.ref b1), .val (.int (3 : Int32)), .val (.int (1 : Int32)), .val (.int x1_0)]) rfl ?_
          refine g_aload 176 X798 hx (hb hby d3_174) rfl (v := (.ref b20)) rfl rfl ?_
          refine g_aload 178 X798 hx (hb hby d3_176) rfl (v := (.ref b740)) rfl rfl ?_
          refine g_aloadN 179 X798 hx (hb hby d3_178) rfl (v := (.ref a1)) rfl rfl ?_
          refine g_iload 181 X798 hx (hb hby d3_179) rfl (v := x1_0) rfl ?_
          refine g_laload 182 X798 hx hZ e798 f799 (x1_0.toInt.toNat) (own_nat0 hB0.2.1.1) rfl (z := (([w0, w1, w2] : List Int64).getD x1_0.toInt.toNat 0)) (own_getJ (by have q := hB0.2.1; show _ < 3; omega)) (hb hby d3_181) rfl ?_
          refine g_iload 184 X798 hx (hb hby d3_182) rfl (v := (0 : Int32)) rfl ?_
          have hq184_hq_805 : 0 ≤ (([w0, w1, w2] : List Int64).getD x1_0.toInt.toNat 0).toInt := (own_wN w0 w1 w2 hW0 hW1 hW2 x1_0 hR0.2.1)
          have hq184_hp_806 : 0 ≤ (0 : Int32).toInt ∧ (0 : Int32).toInt ≤ 63 := by decide
          refine g_callS 187 X798 hx hZ (y := (⟨"com/example/prefixwood/prefixwood/huffman/TwoQueues", "digit", "(JI)I"⟩ : MethodName)) hown (hw _ (List.mem_of_getElem? (i := 17) rfl)) (hw _ (List.mem_of_getElem? (i := 18) rfl)) (hw _ (List.mem_of_getElem? (i := 4) rfl)) (hw _ (List.mem_of_getElem? (i := 19) rfl)) (by decide) e798 (rm4 l Z a0 hw [] (([w0, w1, w2] : List Int64).getD x1_0.toInt.toNat 0) (0 : Int32)  h798 n0 Zs802 hq184_hq_805 hq184_hp_806) (by rw [hml]; rfl) [(.long (([w0, w1, w2] : List Int64).getD x1_0.toInt.toNat 0)), (.int (0 : Int32))] [(.ref b740), (.ref b20)] rfl rfl (lenOf pd_0 rfl) 2 (Nat.le_of_eq rfl) (hb hby d3_184) (by decide) (by decide) (by decide) (by decide) rfl ?_
          intro v805 T805 L805 X805 hQ805
          obtain ⟨r805, rfl, hr805, N805q, e805⟩ := hQ805
          have N805 := Fr.app N804 N805q
          show Go p e below s ({ frames := 1, cells := 10, slots := 2062, locals := 16 } : Room).cells ({ frames := 1, cells := 10, slots := 2062, locals := 16 } : Room).slots (Q3 Z a1 w0 w1 w2 h0 n0) T805 (mkF m 187 #[.val (.ref a1), .val (.ref b1), .val (.long bt), .second, .val (.ref b20), .val (.int (0 : Int32)), .val (.ref b740), .val (.ref b1), .val (.int (3 : Int32)), .val (.int (1 : Int32)), .val (.int x1_0)] [(.int r805), (.ref b740), (.ref b20)])
          have hs1_0 : r757 = r805 := own_z _ ((hD1_0 : _ = _).trans (hr805 : _ = _).symm)
          subst hs1_0
          refine g_dup2 188 X805 hx (hb hby d3_187) rfl rfl rfl ?_
          refine g_iaload 189 X805 hx hZ e805 f801 (r757.toInt.toNat) (own_nat0 (by omega)) rfl (z := ((own_up gF0 r746.toInt.toNat).getD r757.toInt.toNat 0)) (own_get (by first | (simp only [own_upl]; rw [hgl0]; omega) | (rw [hgl0]; omega))) (hb hby d3_188) rfl ?_
          refine g_dup_x2 190 X805 hx (hb hby d3_189) rfl rfl rfl rfl ?_
          refine g_iconst 191 X805 hx (hb hby d3_190) rfl (z := (1 : Int32)) rfl ?_
          refine g_iadd 192 X805 hx (hb hby d3_191) rfl (z := (((own_up gF0 r746.toInt.toNat).getD r757.toInt.toNat 0) + (1 : Int32))) rfl ?_
          refine g_iastore 193 X805 hx hZ e805 f801 (r757.toInt.toNat) (own_nat0 (by omega)) rfl (by first | (simp only [own_upl]; rw [hgl0]; omega) | (rw [hgl0]; omega)) (z := (((own_up gF0 r746.toInt.toNat).getD r757.toInt.toNat 0) + (1 : Int32))) rfl (hb hby d3_192) rfl ?_
          intro T808 h808 X808 e808 W808 A808
          have f809 := f799.other W808 (Nat.ne_of_lt (Nat.lt_of_lt_of_le f21.lt (Nat.le_of_eq g740.symm)))
          have f810 := f800.other W808 (Nat.ne_of_lt (Nat.lt_of_lt_of_le AX0.lt (Nat.le_of_eq g740.symm)))
          have f811 := A798.other W808 (Nat.ne_of_lt (Nat.lt_of_lt_of_le A20'.lt (Nat.le_of_eq g740.symm)))
          have Zs812 : n0 ≤ h808.size := (Nat.le_trans Zs802 (Keep.of_wr W808).1)
          have K813 : Keep h0 h808 [] := K803.wr W808 (Or.inr sz_b740)
          have N814 := Fr.snoc X808 N805 g_b740
          have AV815 : AI Z h808 b740 .int (own_up (own_up gF0 r746.toInt.toNat) r757.toInt.toNat) := A808
          refine g_iload 195 X808 hx (hb hby d3_193) rfl (v := x1_0) rfl ?_
          refine g_iastore 196 X808 hx hZ e808 f811 (own_q1 r746.toInt.toNat r757.toInt.toNat r768.toInt.toNat) (own_nat0 (by rw [hQ0_.2.1]; exact Int.natCast_nonneg _)) (by show (Int32.toInt _).toNat = _; rw [hQ0_.2.1]; rfl) (by have q := hq0_.2.1; rw [List.length_set, hM0]; omega) (z := x1_0) rfl (hb hby d3_195) rfl ?_
          intro T816 h816 X816 e816 W816 A816
          have f817 := f809.other W816 (Nat.ne_of_lt (Nat.lt_of_lt_of_le f16.lt (Nat.le_of_eq g20.symm)))
          have f818 := f810.other W816 (Nat.ne_of_lt (Nat.lt_of_lt_of_le A15'.lt (Nat.le_of_eq g20.symm)))
          have f819 := AV815.other W816 (Ne.symm (Nat.ne_of_lt (Nat.lt_of_lt_of_le A20'.lt (Nat.le_of_eq g740.symm))))
          have Zs820 : n0 ≤ h816.size := (Nat.le_trans Zs812 (Keep.of_wr W816).1)
          have K821 : Keep h0 h816 [] := K813.wr W816 (Or.inr sz_b20)
          have N822 := Fr.snoc X816 N814 g_b20
          refine g_iinc 199 X816 hx (hb hby d3_196) rfl (x := (1 : Int32)) rfl (z := (2 : Int32)) (by decide) (Ls' := #[.val (.ref a1), .val (.ref b1), .val (.long bt), .second, .val (.ref b20), .val (.int (0 : Int32)), .val (.ref b740), .val (.ref b1), .val (.int (3 : Int32)), .val (.int (2 : Int32)), .val (.int x1_0)]) rfl ?_
          refine g_goto 160 X816 hx (hb hby d3_199) (by decide) (by decide) ?_
          refine g_iload 162 X816 hx (hb hby d3_160) rfl (v := (2 : Int32)) rfl ?_
          refine g_iload 164 X816 hx (hb hby d3_162) rfl (v := (3 : Int32)) rfl ?_
          refine g_icmpNo 167 X816 hx (hb hby d3_164)  (tlt (by decide : (2 : Int32) < (3 : Int32))).2.1 rfl ?_
          refine g_aload 169 X816 hx (hb hby d3_167) rfl (v := (.ref b1)) rfl rfl ?_
          refine g_iload 171 X816 hx (hb hby d3_169) rfl (v := (2 : Int32)) rfl ?_
          refine g_iaload 172 X816 hx hZ e816 f818 2 (by decide) rfl (z := x2_0) rfl (hb hby d3_171) rfl ?_
          refine g_istore 174 X816 hx (hb hby d3_172) rfl (Ls' := #[.val (.ref a1), .val (.ref b1), .val (.long bt), .second, .val (.ref b20), .val (.int (0 : Int32)), .val (.ref b740), .val (.ref b1), .val (.int (3 : Int32)), .val (.int (2 : Int32)), .val (.int x2_0)]) rfl ?_
          refine g_aload 176 X816 hx (hb hby d3_174) rfl (v := (.ref b20)) rfl rfl ?_
          refine g_aload 178 X816 hx (hb hby d3_176) rfl (v := (.ref b740)) rfl rfl ?_
          refine g_aloadN 179 X816 hx (hb hby d3_178) rfl (v := (.ref a1)) rfl rfl ?_
          refine g_iload 181 X816 hx (hb hby d3_179) rfl (v := x2_0) rfl ?_
          refine g_laload 182 X816 hx hZ e816 f817 (x2_0.toInt.toNat) (own_nat0 hB0.2.2.1) rfl (z := (([w0, w1, w2] : List Int64).getD x2_0.toInt.toNat 0)) (own_getJ (by have q := hB0.2.2; show _ < 3; omega)) (hb hby d3_181) rfl ?_
          refine g_iload 184 X816 hx (hb hby d3_182) rfl (v := (0 : Int32)) rfl ?_
          have hq184_hq_823 : 0 ≤ (([w0, w1, w2] : List Int64).getD x2_0.toInt.toNat 0).toInt := (own_wN w0 w1 w2 hW0 hW1 hW2 x2_0 hR0.2.2)
          have hq184_hp_824 : 0 ≤ (0 : Int32).toInt ∧ (0 : Int32).toInt ≤ 63 := by decide
          refine g_callS 187 X816 hx hZ (y := (⟨"com/example/prefixwood/prefixwood/huffman/TwoQueues", "digit", "(JI)I"⟩ : MethodName)) hown (hw _ (List.mem_of_getElem? (i := 17) rfl)) (hw _ (List.mem_of_getElem? (i := 18) rfl)) (hw _ (List.mem_of_getElem? (i := 4) rfl)) (hw _ (List.mem_of_getElem? (i := 19) rfl)) (by decide) e816 (rm4 l Z a0 hw [] (([w0, w1, w2] : List Int64).getD x2_0.toInt.toNat 0) (0 : Int32)  h816 n0 Zs820 hq184_hq_823 hq184_hp_824) (by rw [hml]; rfl) [(.long (([w0, w1, w2] : List Int64).getD x2_0.toInt.toNat 0)), (.int (0 : Int32))] [(.ref b740), (.ref b20)] rfl rfl (lenOf pd_0 rfl) 2 (Nat.le_of_eq rfl) (hb hby d3_184) (by decide) (by decide) (by decide) (by decide) rfl ?_
          intro v823 T823 L823 X823 hQ823
          obtain ⟨r823, rfl, hr823, N823q, e823⟩ := hQ823
          have N823 := Fr.app N822 N823q
          show Go p e below s ({ frames := 1, cells := 10, slots := 2062, locals := 16 } : Room).cells ({ frames := 1, cells := 10, slots := 2062, locals := 16 } : Room).slots (Q3 Z a1 w0 w1 w2 h0 n0) T823 (mkF m 187 #[.val (.ref a1), .val (.ref b1), .val (.long bt), .second, .val (.ref b20), .val (.int (0 : Int32)), .val (.ref b740), .val (.ref b1), .val (.int (3 : Int32)), .val (.int (2 : Int32)), .val (.int x2_0)] [(.int r823), (.ref b740), (.ref b20)])
          have hs2_0 : r768 = r823 := own_z _ ((hD2_0 : _ = _).trans (hr823 : _ = _).symm)
          subst hs2_0
          refine g_dup2 188 X823 hx (hb hby d3_187) rfl rfl rfl ?_
          refine g_iaload 189 X823 hx hZ e823 f819 (r768.toInt.toNat) (own_nat0 (by omega)) rfl (z := ((own_up (own_up gF0 r746.toInt.toNat) r757.toInt.toNat).getD r768.toInt.toNat 0)) (own_get (by first | (simp only [own_upl]; rw [hgl0]; omega) | (rw [hgl0]; omega))) (hb hby d3_188) rfl ?_
          refine g_dup_x2 190 X823 hx (hb hby d3_189) rfl rfl rfl rfl ?_
          refine g_iconst 191 X823 hx (hb hby d3_190) rfl (z := (1 : Int32)) rfl ?_
          refine g_iadd 192 X823 hx (hb hby d3_191) rfl (z := (((own_up (own_up gF0 r746.toInt.toNat) r757.toInt.toNat).getD r768.toInt.toNat 0) + (1 : Int32))) rfl ?_
          refine g_iastore 193 X823 hx hZ e823 f819 (r768.toInt.toNat) (own_nat0 (by omega)) rfl (by first | (simp only [own_upl]; rw [hgl0]; omega) | (rw [hgl0]; omega)) (z := (((own_up (own_up gF0 r746.toInt.toNat) r757.toInt.toNat).getD r768.toInt.toNat 0) + (1 : Int32))) rfl (hb hby d3_192) rfl ?_
          intro T826 h826 X826 e826 W826 A826
          have f827 := f817.other W826 (Nat.ne_of_lt (Nat.lt_of_lt_of_le f21.lt (Nat.le_of_eq g740.symm)))
          have f828 := f818.other W826 (Nat.ne_of_lt (Nat.lt_of_lt_of_le AX0.lt (Nat.le_of_eq g740.symm)))
          have f829 := A816.other W826 (Nat.ne_of_lt (Nat.lt_of_lt_of_le A20'.lt (Nat.le_of_eq g740.symm)))
          have Zs830 : n0 ≤ h826.size := (Nat.le_trans Zs820 (Keep.of_wr W826).1)
          have K831 : Keep h0 h826 [] := K821.wr W826 (Or.inr sz_b740)
          have N832 := Fr.snoc X826 N823 g_b740
          have AV833 : AI Z h826 b740 .int (own_up (own_up (own_up gF0 r746.toInt.toNat) r757.toInt.toNat) r768.toInt.toNat) := A826
          refine g_iload 195 X826 hx (hb hby d3_193) rfl (v := x2_0) rfl ?_
          refine g_iastore 196 X826 hx hZ e826 f829 (own_q2 r746.toInt.toNat r757.toInt.toNat r768.toInt.toNat) (own_nat0 (by rw [hQ0_.2.2]; exact Int.natCast_nonneg _)) (by show (Int32.toInt _).toNat = _; rw [hQ0_.2.2]; rfl) (by have q := hq0_.2.2; rw [List.length_set, List.length_set, hM0]; omega) (z := x2_0) rfl (hb hby d3_195) rfl ?_
          intro T834 h834 X834 e834 W834 A834
          have f835 := f827.other W834 (Nat.ne_of_lt (Nat.lt_of_lt_of_le f16.lt (Nat.le_of_eq g20.symm)))
          have f836 := f828.other W834 (Nat.ne_of_lt (Nat.lt_of_lt_of_le A15'.lt (Nat.le_of_eq g20.symm)))
          have f837 := AV833.other W834 (Ne.symm (Nat.ne_of_lt (Nat.lt_of_lt_of_le A20'.lt (Nat.le_of_eq g740.symm))))
          have Zs838 : n0 ≤ h834.size := (Nat.le_trans Zs830 (Keep.of_wr W834).1)
          have K839 : Keep h0 h834 [] := K831.wr W834 (Or.inr sz_b20)
          have N840 := Fr.snoc X834 N832 g_b20
          refine g_iinc 199 X834 hx (hb hby d3_196) rfl (x := (2 : Int32)) rfl (z := (3 : Int32)) (by decide) (Ls' := #[.val (.ref a1), .val (.ref b1), .val (.long bt), .second, .val (.ref b20), .val (.int (0 : Int32)), .val (.ref b740), .val (.ref b1), .val (.int (3 : Int32)), .val (.int (3 : Int32)), .val (.int x2_0)]) rfl ?_
          refine g_goto 160 X834 hx (hb hby d3_199) (by decide) (by decide) ?_
          refine g_iload 162 X834 hx (hb hby d3_160) rfl (v := (3 : Int32)) rfl ?_
          refine g_iload 164 X834 hx (hb hby d3_162) rfl (v := (3 : Int32)) rfl ?_
          refine g_icmpYes 202 X834 hx (hb hby d3_164)  (flt (Int32.lt_irrefl)).2.1 (by decide) (by decide) ?_
          refine g_aloadN 203 X834 hx (hb hby d3_202) rfl (v := (.ref b1)) rfl rfl ?_
          refine g_astore 205 X834 hx (hb hby d3_203) rfl (Ls' := #[.val (.ref a1), .val (.ref b1), .val (.long bt), .second, .val (.ref b20), .val (.int (0 : Int32)), .val (.ref b740), .val (.ref b1), .val (.int (3 : Int32)), .val (.int (3 : Int32)), .val (.int x2_0)]) rfl rfl ?_
          refine g_aload 207 X834 hx (hb hby d3_205) rfl (v := (.ref b20)) rfl rfl ?_
          refine g_astoreN 208 X834 hx (hb hby d3_207) rfl (Ls' := #[.val (.ref a1), .val (.ref b20), .val (.long bt), .second, .val (.ref b20), .val (.int (0 : Int32)), .val (.ref b740), .val (.ref b1), .val (.int (3 : Int32)), .val (.int (3 : Int32)), .val (.int x2_0)]) rfl rfl ?_
          refine g_aload 210 X834 hx (hb hby d3_208) rfl (v := (.ref b1)) rfl rfl ?_
          refine g_astore 212 X834 hx (hb hby d3_210) rfl (Ls' := #[.val (.ref a1), .val (.ref b20), .val (.long bt), .second, .val (.ref b1), .val (.int (0 : Int32)), .val (.ref b740), .val (.ref b1), .val (.int (3 : Int32)), .val (.int (3 : Int32)), .val (.int x2_0)]) rfl rfl ?_
          refine g_iinc 215 X834 hx (hb hby d3_212) rfl (x := (0 : Int32)) rfl (z := (8 : Int32)) (by decide) (Ls' := #[.val (.ref a1), .val (.ref b20), .val (.long bt), .second, .val (.ref b1), .val (.int (8 : Int32)), .val (.ref b740), .val (.ref b1), .val (.int (3 : Int32)), .val (.int (3 : Int32)), .val (.int x2_0)]) rfl ?_
          refine g_goto 45 X834 hx (hb hby d3_215) (by decide) (by decide) ?_
          have AK8 : AI Z h834 b20 .int (own_K w0 w1 w2 8) := by rw [← own_passL w0 w1 w2 0 x0_0 x1_0 x2_0 r746 r757 r768 [(0 : Int32), (0 : Int32), (0 : Int32)] hM0 hX0 hD0_0 hD1_0 hD2_0]; exact A834
          exact pass_8 l Z a0 hw a1 w0 w1 w2 h0 n0 hW0 hW1 hW2 Bd.returns hZ hx hby hml hown hlk bt hbt b20 b1 b740 b1 x2_0 [x0_0, x1_0, x2_0] T834 h834 _ rfl (Ne.symm (Nat.ne_of_lt (Nat.lt_of_lt_of_le A15'.lt (Nat.le_of_eq g20.symm)))) (Nat.ne_of_lt (Nat.lt_of_lt_of_le f16.lt (Nat.le_of_eq g20.symm))) (Nat.ne_of_lt (Nat.lt_of_lt_of_le A_a1.lt (Nat.le_of_eq g1.symm))) g_b20 g_b1 sz_b20 sz_b1 X834 e834 N840 Zs838 K839 f835 AK8 f836
    exact LOOP120_0 _ (1 : Int32) (own_C r746.toInt.toNat r757.toInt.toNat r768.toInt.toNat) T771 h771 _ (Nat.lt_succ_self _) (by decide) ((own_CS r746.toInt.toNat r757.toInt.toNat r768.toInt.toNat (by omega) (by omega) (by omega)).1) rfl X771 e771 N777 Zs775 K776 f772 f773 f774 AU778
theorem pd_1 : parseMethodDescriptor "([J)[I" = some ⟨[(.array .long)], some (.array .int)⟩ := by decide +kernel
theorem pd_2 : parseMethodDescriptor "(II)I" = some ⟨[.int, .int], some .int⟩ := by decide +kernel
theorem d1_0 : decode prog_51_method_1_code 0 = .ok (.aload_n 0, 1) := by decide +kernel
theorem d1_1 : decode prog_51_method_1_code 1 = .ok (.invokespecial 1, 3) := by decide +kernel
theorem d1_4 : decode prog_51_method_1_code 4 = .ok (.aload_n 0, 1) := by decide +kernel
theorem d1_5 : decode prog_51_method_1_code 5 = .ok (.aload_n 1, 1) := by decide +kernel
theorem d1_6 : decode prog_51_method_1_code 6 = .ok (.putfield 7, 3) := by decide +kernel
theorem d1_9 : decode prog_51_method_1_code 9 = .ok (.aload_n 0, 1) := by decide +kernel
theorem d1_10 : decode prog_51_method_1_code 10 = .ok (.aload_n 1, 1) := by decide +kernel
theorem d1_11 : decode prog_51_method_1_code 11 = .ok (.invokestatic 13, 3) := by decide +kernel
theorem d1_14 : decode prog_51_method_1_code 14 = .ok (.putfield 17, 3) := by decide +kernel
theorem d1_17 : decode prog_51_method_1_code 17 = .ok (.aload_n 0, 1) := by decide +kernel
theorem d1_18 : decode prog_51_method_1_code 18 = .ok (.aload_n 1, 1) := by decide +kernel
theorem d1_19 : decode prog_51_method_1_code 19 = .ok (.arraylength, 1) := by decide +kernel
theorem d1_20 : decode prog_51_method_1_code 20 = .ok (.iconst 1, 1) := by decide +kernel
theorem d1_21 : decode prog_51_method_1_code 21 = .ok (.isub, 1) := by decide +kernel
theorem d1_22 : decode prog_51_method_1_code 22 = .ok (.iconst 0, 1) := by decide +kernel
theorem d1_23 : decode prog_51_method_1_code 23 = .ok (.invokestatic 21, 3) := by decide +kernel
theorem d1_26 : decode prog_51_method_1_code 26 = .ok (.newarray .long, 2) := by decide +kernel
theorem d1_28 : decode prog_51_method_1_code 28 = .ok (.putfield 27, 3) := by decide +kernel
theorem d1_31 : decode prog_51_method_1_code 31 = .ok (.return_, 1) := by decide +kernel
def Q1 (Z : State) (a1 a2 : Addr) (w0 w1 w2 : Int64) (h0 : Heap) (n0 : Nat) (v : Option Value) (h : Heap) (L : List Loc) : Prop := ∃ b c : Addr, v = none ∧ Fr n0 L ∧ Keep h0 h [a1] ∧ n0 ≤ b ∧ h0.size ≤ b ∧ n0 ≤ c ∧ h0.size ≤ c ∧ b ≠ c ∧ Exa Z h a1 "com/example/prefixwood/prefixwood/huffman/TwoQueues" ∧ Fld Z h a1 "com/example/prefixwood/prefixwood/huffman/TwoQueues" "weights" "[J" (.ref a2) ∧ Fld Z h a1 "com/example/prefixwood/prefixwood/huffman/TwoQueues" "symbols" "[I" (.ref b) ∧ Fld Z h a1 "com/example/prefixwood/prefixwood/huffman/TwoQueues" "mergedWeights" "[J" (.ref c) ∧ Fld Z h a1 "com/example/prefixwood/prefixwood/huffman/TwoQueues" "nextMerged" "I" (.int (0 : Int32)) ∧ Fld Z h a1 "com/example/prefixwood/prefixwood/huffman/TwoQueues" "merged" "I" (.int (0 : Int32)) ∧ Fld Z h a1 "com/example/prefixwood/prefixwood/huffman/TwoQueues" "nextSymbol" "I" (.int (0 : Int32)) ∧ AI Z h b .int (own_Srt w0 w1 w2) ∧ AJ Z h c [(0 : Int64), (0 : Int64)]
theorem ef_rm1 (m : MethodId) (a1 : Addr) (a2 : Addr) : entryFrame m #[(.ref a1), (.ref a2)] 2 = mkF m 0 #[.val (.ref a1), .val (.ref a2)] [] := by first | (simp [entryFrame, mkF, argsToLocals, Value.category]; done) | rfl
set_option maxRecDepth 65536 in
set_option maxHeartbeats 40000000 in
theorem rm1 (l : Launch) (Z : State) (a0 : Array Value) (hw : ∀ d ∈ tables_1, d.before a0 Z = true) (ws : List Jvm.Cond) (a1 a2 : Addr) (w0 w1 w2 : Int64) (h0 : Heap) (n0 : Nat) (Z0 : n0 ≤ h0.size) (E_a1 : Exa Z h0 a1 "com/example/prefixwood/prefixwood/huffman/TwoQueues") (F_weights : Fld Z h0 a1 "com/example/prefixwood/prefixwood/huffman/TwoQueues" "weights" "[J" .null) (F_symbols : Fld Z h0 a1 "com/example/prefixwood/prefixwood/huffman/TwoQueues" "symbols" "[I" .null) (F_mergedWeights : Fld Z h0 a1 "com/example/prefixwood/prefixwood/huffman/TwoQueues" "mergedWeights" "[J" .null) (F_nextMerged : Fld Z h0 a1 "com/example/prefixwood/prefixwood/huffman/TwoQueues" "nextMerged" "I" (.int (0 : Int32))) (F_merged : Fld Z h0 a1 "com/example/prefixwood/prefixwood/huffman/TwoQueues" "merged" "I" (.int (0 : Int32))) (F_nextSymbol : Fld Z h0 a1 "com/example/prefixwood/prefixwood/huffman/TwoQueues" "nextSymbol" "I" (.int (0 : Int32))) (A_a2 : AJ Z h0 a2 [w0, w1, w2]) (g_a1 : n0 ≤ a1) (ne_a1_a2 : a1 ≠ a2) (hW0 : 0 ≤ w0.toInt) (hW1 : 0 ≤ w1.toInt) (hW2 : 0 ≤ w2.toInt) :
    MetFree l (⟨"com/example/prefixwood/prefixwood/huffman/TwoQueues", "<init>", "([J)V"⟩ : MethodName) (head1 (Jvm.Cond.code (⟨"com/example/prefixwood/prefixwood/huffman/TwoQueues", "<init>", "([J)V"⟩ : MethodName) prog_51_method_1_code 2 none :: ws) ({ frames := 2, cells := 11, slots := 2064, locals := 39 } : Room)) (fun a U => a = #[(.ref a1), (.ref a2)] ∧ Z.Warmed39 U.vm ∧ U.heap = h0) (fun _ _ _ _ _ => True) (fun _ U o U' => ∃ v L, o = .returned v ∧ (Q1 Z a1 a2 w0 w1 w2 h0 n0) v U'.heap L ∧ FrameEnd U o U' L ({ frames := 2, cells := 11, slots := 2064, locals := 39 } : Room).cells ({ frames := 2, cells := 11, slots := 2064, locals := 39 } : Room).slots) := by
  refine MetFree.of_bodySF (plainFor_of_name pn_0) hisR ?_
  intro p e s m args below meth c s₁ Bd hml0 hP hK
  obtain ⟨rfl, hZ, hh⟩ := hP
  have hx := Bd.exec
  have hby := Bd.bytes
  have hml : c.maxLocals = 2 := hml0
  have hown : s.vm.findClass "com/example/prefixwood/prefixwood/huffman/TwoQueues" = some m.cls := findClass_of_methodNamed Bd.named
  have hnm := (name_of_methodNamed Bd.named Bd.method).1
  have hlk : meth.locks = false := BodyLoose.notSynchronized Bd
  have X0 : Stand p l e ({ frames := 2, cells := 11, slots := 2064, locals := 39 } : Room) s m #[(.ref a1), (.ref a2)] below meth c s₁ [] 0 0 := Stand.of_body Bd
  have e0 : s₁.heap = h0 := by rw [← hh, Bd.state]; rfl
  have N0 := Fr.nil n0
  have K0 := Keep.refl h0 [a1]
  show Go p e below s ({ frames := 2, cells := 11, slots := 2064, locals := 39 } : Room).cells ({ frames := 2, cells := 11, slots := 2064, locals := 39 } : Room).slots (Q1 Z a1 a2 w0 w1 w2 h0 n0) s₁ (entryFrame m #[(.ref a1), (.ref a2)] 2)
  rw [ef_rm1 m a1 a2]
  refine g_aloadN 1 X0 hx (hb hby d1_0) rfl (v := (.ref a1)) rfl rfl ?_
  refine g_initO 4 X0 hx hZ hown (hw _ (List.mem_of_getElem? (i := 8) rfl)) (hw _ (List.mem_of_getElem? (i := 9) rfl)) (hw _ (List.mem_of_getElem? (i := 10) rfl)) e0 (by rw [hml]; rfl) (hb hby d1_1) (by decide) 0 (Nat.le_of_eq rfl) (by decide) rfl ?_
  intro T1 X1 e1
  refine g_aloadN 5 X1 hx (hb hby d1_4) rfl (v := (.ref a1)) rfl rfl ?_
  refine g_aloadN 6 X1 hx (hb hby d1_5) rfl (v := (.ref a2)) rfl rfl ?_
  refine g_putF 9 X1 hx hZ hown (hw _ (List.mem_of_getElem? (i := 11) rfl)) Via.refl e1 F_weights E_a1 (Or.inr ⟨(hw _ (List.mem_of_getElem? (i := 12) rfl)), rfl, hnm⟩) (hw _ (List.mem_of_getElem? (i := 3) rfl)) (ty := (.array .long)) (by decide) rfl rfl (hb hby d1_6) rfl ?_
  intro T2 h2 X2 e2 W2
  have f3 := E_a1.wr W2
  have f4 := F_symbols.other W2 (Or.inr (slot_ne (Or.inr (hw _ (List.mem_of_getElem? (i := 21) rfl))) (Or.inr (hw _ (List.mem_of_getElem? (i := 12) rfl))) (by decide) (t := (.array .int)) (t' := (.array .long)) (by decide) (by decide)))
  have f5 := F_mergedWeights.other W2 (Or.inr (slot_ne (Or.inr (hw _ (List.mem_of_getElem? (i := 27) rfl))) (Or.inr (hw _ (List.mem_of_getElem? (i := 12) rfl))) (by decide) (t := (.array .long)) (t' := (.array .long)) (by decide) (by decide)))
  have f6 := F_nextMerged.other W2 (Or.inr (slot_ne (Or.inl (hw _ (List.mem_of_getElem? (i := 34) rfl))) (Or.inr (hw _ (List.mem_of_getElem? (i := 12) rfl))) (by decide) (t := .int) (t' := (.array .long)) (by decide) (by decide)))
  have f7 := F_merged.other W2 (Or.inr (slot_ne (Or.inl (hw _ (List.mem_of_getElem? (i := 36) rfl))) (Or.inr (hw _ (List.mem_of_getElem? (i := 12) rfl))) (by decide) (t := .int) (t' := (.array .long)) (by decide) (by decide)))
  have f8 := F_nextSymbol.other W2 (Or.inr (slot_ne (Or.inl (hw _ (List.mem_of_getElem? (i := 38) rfl))) (Or.inr (hw _ (List.mem_of_getElem? (i := 12) rfl))) (by decide) (t := .int) (t' := (.array .long)) (by decide) (by decide)))
  have f9 := A_a2.other W2 (Ne.symm ne_a1_a2)
  have Zs10 : n0 ≤ h2.size := (Nat.le_trans Z0 (Keep.of_wr W2).1)
  have K11 : Keep h0 h2 [a1] := K0.wr W2 (Or.inl (List.mem_of_getElem? (i := 0) rfl))
  have f12 := F_weights.same W2
  have N13 := Fr.snoc X2 N0 g_a1
  refine g_aloadN 10 X2 hx (hb hby d1_9) rfl (v := (.ref a1)) rfl rfl ?_
  refine g_aloadN 11 X2 hx (hb hby d1_10) rfl (v := (.ref a2)) rfl rfl ?_
  refine g_callS 14 X2 hx hZ (y := (⟨"com/example/prefixwood/prefixwood/huffman/TwoQueues", "byWeight", "([J)[I"⟩ : MethodName)) hown (hw _ (List.mem_of_getElem? (i := 13) rfl)) (hw _ (List.mem_of_getElem? (i := 14) rfl)) (hw _ (List.mem_of_getElem? (i := 4) rfl)) (hw _ (List.mem_of_getElem? (i := 15) rfl)) (by decide) e2 (rm3 l Z a0 hw [] a2 w0 w1 w2 h2 n0 Zs10 f9 hW0 hW1 hW2) (by rw [hml]; rfl) [(.ref a2)] [(.ref a1)] rfl rfl (lenOf pd_1 rfl) 1 (Nat.le_of_eq rfl) (hb hby d1_11) (by decide) (by decide) (by decide) (by decide) rfl ?_
  intro v14 T14 L14 X14 hQ14
  obtain ⟨b14, rfl, N14q, K14, g_b14, sz14, A14⟩ := hQ14
  have N14 := Fr.app N13 N14q
  have sz_b14 : h0.size ≤ b14 := Nat.le_trans K11.1 sz14
  have f15 := f3.keep K14
  have f16 := f12.keep K14 nin0
  have f17 := f4.keep K14 nin0
  have f18 := f5.keep K14 nin0
  have f19 := f6.keep K14 nin0
  have f20 := f7.keep K14 nin0
  have f21 := f8.keep K14 nin0
  have f22 := f9.keep K14 nin0
  have Zs23 : n0 ≤ T14.heap.size := (Nat.le_trans Zs10 K14.1)
  have K24 : Keep h0 T14.heap [a1] := K11.trans K14 all0
  show Go p e below s ({ frames := 2, cells := 11, slots := 2064, locals := 39 } : Room).cells ({ frames := 2, cells := 11, slots := 2064, locals := 39 } : Room).slots (Q1 Z a1 a2 w0 w1 w2 h0 n0) T14 (mkF m 14 #[.val (.ref a1), .val (.ref a2)] [(.ref b14), (.ref a1)])
  refine g_putF 17 X14 hx hZ hown (hw _ (List.mem_of_getElem? (i := 20) rfl)) Via.refl rfl f17 f15 (Or.inr ⟨(hw _ (List.mem_of_getElem? (i := 21) rfl)), rfl, hnm⟩) (hw _ (List.mem_of_getElem? (i := 3) rfl)) (ty := (.array .int)) (by decide) rfl rfl (hb hby d1_14) rfl ?_
  intro T25 h25 X25 e25 W25
  have f26 := f15.wr W25
  have f27 := f16.other W25 (Or.inr (slot_ne (Or.inr (hw _ (List.mem_of_getElem? (i := 12) rfl))) (Or.inr (hw _ (List.mem_of_getElem? (i := 21) rfl))) (by decide) (t := (.array .long)) (t' := (.array .int)) (by decide) (by decide)))
  have f28 := f18.other W25 (Or.inr (slot_ne (Or.inr (hw _ (List.mem_of_getElem? (i := 27) rfl))) (Or.inr (hw _ (List.mem_of_getElem? (i := 21) rfl))) (by decide) (t := (.array .long)) (t' := (.array .int)) (by decide) (by decide)))
  have f29 := f19.other W25 (Or.inr (slot_ne (Or.inl (hw _ (List.mem_of_getElem? (i := 34) rfl))) (Or.inr (hw _ (List.mem_of_getElem? (i := 21) rfl))) (by decide) (t := .int) (t' := (.array .int)) (by decide) (by decide)))
  have f30 := f20.other W25 (Or.inr (slot_ne (Or.inl (hw _ (List.mem_of_getElem? (i := 36) rfl))) (Or.inr (hw _ (List.mem_of_getElem? (i := 21) rfl))) (by decide) (t := .int) (t' := (.array .int)) (by decide) (by decide)))
  have f31 := f21.other W25 (Or.inr (slot_ne (Or.inl (hw _ (List.mem_of_getElem? (i := 38) rfl))) (Or.inr (hw _ (List.mem_of_getElem? (i := 21) rfl))) (by decide) (t := .int) (t' := (.array .int)) (by decide) (by decide)))
  have f32 := f22.other W25 (Ne.symm ne_a1_a2)
  have f33 := A14.other W25 (Ne.symm (Nat.ne_of_lt (Nat.lt_of_lt_of_le f8.lt sz14)))
  have Zs34 : n0 ≤ h25.size := (Nat.le_trans Zs23 (Keep.of_wr W25).1)
  have K35 : Keep h0 h25 [a1] := K24.wr W25 (Or.inl (List.mem_of_getElem? (i := 0) rfl))
  have f36 := f17.same W25
  have N37 := Fr.snoc X25 N14 g_a1
  refine g_aloadN 18 X25 hx (hb hby d1_17) rfl (v := (.ref a1)) rfl rfl ?_
  refine g_aloadN 19 X25 hx (hb hby d1_18) rfl (v := (.ref a2)) rfl rfl ?_
  refine g_arraylengthJ 20 X25 hx hZ e25 f32 (z := (3 : Int32)) rfl (hb hby d1_19) rfl ?_
  refine g_iconst 21 X25 hx (hb hby d1_20) rfl (z := (1 : Int32)) rfl ?_
  refine g_isub 22 X25 hx (hb hby d1_21) rfl (z := (2 : Int32)) (by decide) ?_
  refine g_iconst 23 X25 hx (hb hby d1_22) rfl (z := (0 : Int32)) rfl ?_
  refine g_callS 26 X25 hx hZ (y := (⟨"java/lang/Math", "max", "(II)I"⟩ : MethodName)) hown (hw _ (List.mem_of_getElem? (i := 22) rfl)) (hw _ (List.mem_of_getElem? (i := 23) rfl)) (hw _ (List.mem_of_getElem? (i := 24) rfl)) (hw _ (List.mem_of_getElem? (i := 25) rfl)) (by decide) e25 (rm5 l Z a0 hw [] (2 : Int32) (0 : Int32)  h25 n0 Zs34 ) (by rw [hml]; rfl) [(.int (2 : Int32)), (.int (0 : Int32))] [(.ref a1)] rfl rfl (lenOf pd_2 rfl) 1 (Nat.le_of_eq rfl) (hb hby d1_23) (by decide) (by decide) (by decide) (by decide) rfl ?_
  intro v38 T38 L38 X38 hQ38
  obtain ⟨r38, rfl, hr38, N38q, e38⟩ := hQ38
  have N38 := Fr.app N37 N38q
  show Go p e below s ({ frames := 2, cells := 11, slots := 2064, locals := 39 } : Room).cells ({ frames := 2, cells := 11, slots := 2064, locals := 39 } : Room).slots (Q1 Z a1 a2 w0 w1 w2 h0 n0) T38 (mkF m 26 #[.val (.ref a1), .val (.ref a2)] [(.int r38), (.ref a1)])
  have hmx : r38 = (2 : Int32) := by rcases hr38 with ⟨q, _⟩ | ⟨_, q⟩; exact absurd q (by decide); exact q
  subst hmx
  refine g_new_long 28 X38 hx hZ (hw _ (List.mem_of_getElem? (i := 1) rfl)) e38 2 2 (by decide) rfl (by decide) (by decide) (by decide) (by decide) (hb hby d1_26) rfl ?_
  intro T39 h39 b39 X39 e39 E39 g39 A39
  have f40 := f26.ext E39
  have f41 := f27.ext E39
  have f42 := f36.ext E39
  have f43 := f28.ext E39
  have f44 := f29.ext E39
  have f45 := f30.ext E39
  have f46 := f31.ext E39
  have f47 := f32.ext E39
  have f48 := f33.ext E39
  have Zs49 : n0 ≤ h39.size := (Nat.le_trans Zs34 E39.1)
  have K50 : Keep h0 h39 [a1] := K35.ext E39
  have g_b39 : n0 ≤ b39 := Nat.le_trans Zs34 (Nat.le_of_eq g39.symm)
  have sz_b39 : h0.size ≤ b39 := Nat.le_trans K35.1 (Nat.le_of_eq g39.symm)
  have A39' : AJ Z h39 b39 [(0 : Int64), (0 : Int64)] := A39
  refine g_putF 31 X39 hx hZ hown (hw _ (List.mem_of_getElem? (i := 26) rfl)) Via.refl e39 f43 f40 (Or.inr ⟨(hw _ (List.mem_of_getElem? (i := 27) rfl)), rfl, hnm⟩) (hw _ (List.mem_of_getElem? (i := 3) rfl)) (ty := (.array .long)) (by decide) rfl rfl (hb hby d1_28) rfl ?_
  intro T51 h51 X51 e51 W51
  have f52 := f40.wr W51
  have f53 := f41.other W51 (Or.inr (slot_ne (Or.inr (hw _ (List.mem_of_getElem? (i := 12) rfl))) (Or.inr (hw _ (List.mem_of_getElem? (i := 27) rfl))) (by decide) (t := (.array .long)) (t' := (.array .long)) (by decide) (by decide)))
  have f54 := f42.other W51 (Or.inr (slot_ne (Or.inr (hw _ (List.mem_of_getElem? (i := 21) rfl))) (Or.inr (hw _ (List.mem_of_getElem? (i := 27) rfl))) (by decide) (t := (.array .int)) (t' := (.array .long)) (by decide) (by decide)))
  have f55 := f44.other W51 (Or.inr (slot_ne (Or.inl (hw _ (List.mem_of_getElem? (i := 34) rfl))) (Or.inr (hw _ (List.mem_of_getElem? (i := 27) rfl))) (by decide) (t := .int) (t' := (.array .long)) (by decide) (by decide)))
  have f56 := f45.other W51 (Or.inr (slot_ne (Or.inl (hw _ (List.mem_of_getElem? (i := 36) rfl))) (Or.inr (hw _ (List.mem_of_getElem? (i := 27) rfl))) (by decide) (t := .int) (t' := (.array .long)) (by decide) (by decide)))
  have f57 := f46.other W51 (Or.inr (slot_ne (Or.inl (hw _ (List.mem_of_getElem? (i := 38) rfl))) (Or.inr (hw _ (List.mem_of_getElem? (i := 27) rfl))) (by decide) (t := .int) (t' := (.array .long)) (by decide) (by decide)))
  have f58 := f47.other W51 (Ne.symm ne_a1_a2)
  have f59 := f48.other W51 (Ne.symm (Nat.ne_of_lt (Nat.lt_of_lt_of_le f8.lt sz14)))
  have f60 := A39'.other W51 (Ne.symm (Nat.ne_of_lt (Nat.lt_of_lt_of_le f31.lt (Nat.le_of_eq g39.symm))))
  have Zs61 : n0 ≤ h51.size := (Nat.le_trans Zs49 (Keep.of_wr W51).1)
  have K62 : Keep h0 h51 [a1] := K50.wr W51 (Or.inl (List.mem_of_getElem? (i := 0) rfl))
  have f63 := f43.same W51
  have N64 := Fr.snoc X51 N38 g_a1
  exact g_ret0 X51 hx Bd.returns hlk (hb hby d1_31) (by decide) (by decide) (by
      show Q1 Z a1 a2 w0 w1 w2 h0 n0 _ T51.heap _
      rw [e51]
      exact ⟨b14, b39, rfl, N64, K62, g_b14, sz_b14, g_b39, sz_b39, (Nat.ne_of_lt (Nat.lt_of_lt_of_le f33.lt (Nat.le_of_eq g39.symm))), f52, f53, f54, f63, f55, f56, f57, f59, f60⟩)
theorem d6_0 : decode prog_51_method_3_code 0 = .ok (.aload_n 0, 1) := by decide +kernel
theorem d6_1 : decode prog_51_method_3_code 1 = .ok (.getfield 34, 3) := by decide +kernel
theorem d6_4 : decode prog_51_method_3_code 4 = .ok (.aload_n 0, 1) := by decide +kernel
theorem d6_5 : decode prog_51_method_3_code 5 = .ok (.getfield 30, 3) := by decide +kernel
theorem d6_8 : decode prog_51_method_3_code 8 = .ok (.if_icmp .eq 42, 3) := by decide +kernel
theorem d6_11 : decode prog_51_method_3_code 11 = .ok (.aload_n 0, 1) := by decide +kernel
theorem d6_12 : decode prog_51_method_3_code 12 = .ok (.getfield 37, 3) := by decide +kernel
theorem d6_15 : decode prog_51_method_3_code 15 = .ok (.aload_n 0, 1) := by decide +kernel
theorem d6_16 : decode prog_51_method_3_code 16 = .ok (.getfield 17, 3) := by decide +kernel
theorem d6_19 : decode prog_51_method_3_code 19 = .ok (.arraylength, 1) := by decide +kernel
theorem d6_20 : decode prog_51_method_3_code 20 = .ok (.if_icmp .ge 47, 3) := by decide +kernel
theorem d6_23 : decode prog_51_method_3_code 23 = .ok (.aload_n 0, 1) := by decide +kernel
theorem d6_24 : decode prog_51_method_3_code 24 = .ok (.getfield 7, 3) := by decide +kernel
theorem d6_27 : decode prog_51_method_3_code 27 = .ok (.aload_n 0, 1) := by decide +kernel
theorem d6_28 : decode prog_51_method_3_code 28 = .ok (.getfield 17, 3) := by decide +kernel
theorem d6_31 : decode prog_51_method_3_code 31 = .ok (.aload_n 0, 1) := by decide +kernel
theorem d6_32 : decode prog_51_method_3_code 32 = .ok (.getfield 37, 3) := by decide +kernel
theorem d6_35 : decode prog_51_method_3_code 35 = .ok (.iaload, 1) := by decide +kernel
theorem d6_36 : decode prog_51_method_3_code 36 = .ok (.laload, 1) := by decide +kernel
theorem d6_37 : decode prog_51_method_3_code 37 = .ok (.aload_n 0, 1) := by decide +kernel
theorem d6_38 : decode prog_51_method_3_code 38 = .ok (.getfield 27, 3) := by decide +kernel
theorem d6_41 : decode prog_51_method_3_code 41 = .ok (.aload_n 0, 1) := by decide +kernel
theorem d6_42 : decode prog_51_method_3_code 42 = .ok (.getfield 34, 3) := by decide +kernel
theorem d6_45 : decode prog_51_method_3_code 45 = .ok (.laload, 1) := by decide +kernel
theorem d6_46 : decode prog_51_method_3_code 46 = .ok (.lcmp, 1) := by decide +kernel
theorem d6_47 : decode prog_51_method_3_code 47 = .ok (.ifCond .gt 20, 3) := by decide +kernel
theorem d6_50 : decode prog_51_method_3_code 50 = .ok (.aload_n 0, 1) := by decide +kernel
theorem d6_51 : decode prog_51_method_3_code 51 = .ok (.getfield 17, 3) := by decide +kernel
theorem d6_54 : decode prog_51_method_3_code 54 = .ok (.aload_n 0, 1) := by decide +kernel
theorem d6_55 : decode prog_51_method_3_code 55 = .ok (.dup, 1) := by decide +kernel
theorem d6_56 : decode prog_51_method_3_code 56 = .ok (.getfield 37, 3) := by decide +kernel
theorem d6_59 : decode prog_51_method_3_code 59 = .ok (.dup_x1, 1) := by decide +kernel
theorem d6_60 : decode prog_51_method_3_code 60 = .ok (.iconst 1, 1) := by decide +kernel
theorem d6_61 : decode prog_51_method_3_code 61 = .ok (.iadd, 1) := by decide +kernel
theorem d6_62 : decode prog_51_method_3_code 62 = .ok (.putfield 37, 3) := by decide +kernel
theorem d6_65 : decode prog_51_method_3_code 65 = .ok (.iaload, 1) := by decide +kernel
theorem d6_66 : decode prog_51_method_3_code 66 = .ok (.ireturn, 1) := by decide +kernel
theorem d6_67 : decode prog_51_method_3_code 67 = .ok (.aload_n 0, 1) := by decide +kernel
theorem d6_68 : decode prog_51_method_3_code 68 = .ok (.getfield 17, 3) := by decide +kernel
theorem d6_71 : decode prog_51_method_3_code 71 = .ok (.arraylength, 1) := by decide +kernel
theorem d6_72 : decode prog_51_method_3_code 72 = .ok (.aload_n 0, 1) := by decide +kernel
theorem d6_73 : decode prog_51_method_3_code 73 = .ok (.dup, 1) := by decide +kernel
theorem d6_74 : decode prog_51_method_3_code 74 = .ok (.getfield 34, 3) := by decide +kernel
theorem d6_77 : decode prog_51_method_3_code 77 = .ok (.dup_x1, 1) := by decide +kernel
theorem d6_78 : decode prog_51_method_3_code 78 = .ok (.iconst 1, 1) := by decide +kernel
theorem d6_79 : decode prog_51_method_3_code 79 = .ok (.iadd, 1) := by decide +kernel
theorem d6_80 : decode prog_51_method_3_code 80 = .ok (.putfield 34, 3) := by decide +kernel
theorem d6_83 : decode prog_51_method_3_code 83 = .ok (.iadd, 1) := by decide +kernel
theorem d6_84 : decode prog_51_method_3_code 84 = .ok (.ireturn, 1) := by decide +kernel
def Q6A (Z : State) (a1 : Addr)  (aW aS aM : Addr) (w0 w1 w2 : Int64) (x0 x1 x2 : Int32) (m0 m1 : Int64) (h0 : Heap) (n0 : Nat) (v : Option Value) (h : Heap) (L : List Loc) : Prop := v = some (.int x0) ∧ Fr n0 L ∧ Keep h0 h [a1] ∧ Exa Z h a1 "com/example/prefixwood/prefixwood/huffman/TwoQueues" ∧ Fld Z h a1 "com/example/prefixwood/prefixwood/huffman/TwoQueues" "weights" "[J" (.ref aW) ∧ Fld Z h a1 "com/example/prefixwood/prefixwood/huffman/TwoQueues" "symbols" "[I" (.ref aS) ∧ Fld Z h a1 "com/example/prefixwood/prefixwood/huffman/TwoQueues" "mergedWeights" "[J" (.ref aM) ∧ Fld Z h a1 "com/example/prefixwood/prefixwood/huffman/TwoQueues" "nextMerged" "I" (.int (0 : Int32)) ∧ Fld Z h a1 "com/example/prefixwood/prefixwood/huffman/TwoQueues" "merged" "I" (.int (0 : Int32)) ∧ Fld Z h a1 "com/example/prefixwood/prefixwood/huffman/TwoQueues" "nextSymbol" "I" (.int (1 : Int32))
theorem ef_rm6A (m : MethodId) (a1 : Addr) : entryFrame m #[(.ref a1)] 1 = mkF m 0 #[.val (.ref a1)] [] := by first | (simp [entryFrame, mkF, argsToLocals, Value.category]; done) | rfl
set_option maxRecDepth 65536 in
set_option maxHeartbeats 40000000 in
theorem rm6A (l : Launch) (Z : State) (a0 : Array Value) (hw : ∀ d ∈ tables_1, d.before a0 Z = true) (ws : List Jvm.Cond) (a1 : Addr)  (aW aS aM : Addr) (w0 w1 w2 : Int64) (x0 x1 x2 : Int32) (m0 m1 : Int64) (h0 : Heap) (n0 : Nat) (Z0 : n0 ≤ h0.size) (E_a1 : Exa Z h0 a1 "com/example/prefixwood/prefixwood/huffman/TwoQueues") (F_weights : Fld Z h0 a1 "com/example/prefixwood/prefixwood/huffman/TwoQueues" "weights" "[J" (.ref aW)) (F_symbols : Fld Z h0 a1 "com/example/prefixwood/prefixwood/huffman/TwoQueues" "symbols" "[I" (.ref aS)) (F_mergedWeights : Fld Z h0 a1 "com/example/prefixwood/prefixwood/huffman/TwoQueues" "mergedWeights" "[J" (.ref aM)) (F_nextMerged : Fld Z h0 a1 "com/example/prefixwood/prefixwood/huffman/TwoQueues" "nextMerged" "I" (.int (0 : Int32))) (F_merged : Fld Z h0 a1 "com/example/prefixwood/prefixwood/huffman/TwoQueues" "merged" "I" (.int (0 : Int32))) (F_nextSymbol : Fld Z h0 a1 "com/example/prefixwood/prefixwood/huffman/TwoQueues" "nextSymbol" "I" (.int (0 : Int32))) (A_aW : AJ Z h0 aW [w0, w1, w2]) (A_aS : AI Z h0 aS .int [x0, x1, x2]) (A_aM : AJ Z h0 aM [m0, m1]) (g_a1 : n0 ≤ a1) (g_aM : n0 ≤ aM) (ne_a1_aW : a1 ≠ aW) (ne_a1_aS : a1 ≠ aS) (ne_a1_aM : a1 ≠ aM) (ne_aM_aW : aM ≠ aW) (ne_aM_aS : aM ≠ aS) :
    MetFree l (⟨"com/example/prefixwood/prefixwood/huffman/TwoQueues", "poll", "()I"⟩ : MethodName) (head1 (Jvm.Cond.code (⟨"com/example/prefixwood/prefixwood/huffman/TwoQueues", "poll", "()I"⟩ : MethodName) prog_51_method_3_code 1 (some .int) :: ws) ({ frames := 0, cells := 0, slots := 0, locals := 0 } : Room)) (fun a U => a = #[(.ref a1)] ∧ Z.Warmed39 U.vm ∧ U.heap = h0) (fun _ _ _ _ _ => True) (fun _ U o U' => ∃ v L, o = .returned v ∧ (Q6A Z a1 aW aS aM w0 w1 w2 x0 x1 x2 m0 m1 h0 n0) v U'.heap L ∧ FrameEnd U o U' L ({ frames := 0, cells := 0, slots := 0, locals := 0 } : Room).cells ({ frames := 0, cells := 0, slots := 0, locals := 0 } : Room).slots) := by
  refine MetFree.of_bodySF (plainFor_of_name pn_0) hisR ?_
  intro p e s m args below meth c s₁ Bd hml0 hP hK
  obtain ⟨rfl, hZ, hh⟩ := hP
  have hx := Bd.exec
  have hby := Bd.bytes
  have hml : c.maxLocals = 1 := hml0
  have hown : s.vm.findClass "com/example/prefixwood/prefixwood/huffman/TwoQueues" = some m.cls := findClass_of_methodNamed Bd.named
  have hnm := (name_of_methodNamed Bd.named Bd.method).1
  have hlk : meth.locks = false := BodyLoose.notSynchronized Bd
  have X0 : Stand p l e ({ frames := 0, cells := 0, slots := 0, locals := 0 } : Room) s m #[(.ref a1)] below meth c s₁ [] 0 0 := Stand.of_body Bd
  have e0 : s₁.heap = h0 := by rw [← hh, Bd.state]; rfl
  have N0 := Fr.nil n0
  have K0 := Keep.refl h0 [a1]
  show Go p e below s ({ frames := 0, cells := 0, slots := 0, locals := 0 } : Room).cells ({ frames := 0, cells := 0, slots := 0, locals := 0 } : Room).slots (Q6A Z a1 aW aS aM w0 w1 w2 x0 x1 x2 m0 m1 h0 n0) s₁ (entryFrame m #[(.ref a1)] 1)
  rw [ef_rm6A m a1]
  refine g_aloadN 1 X0 hx (hb hby d6_0) rfl (v := (.ref a1)) rfl rfl ?_
  refine g_getF 4 X0 hx hZ hown (hw _ (List.mem_of_getElem? (i := 33) rfl)) Via.refl e0 F_nextMerged (hb hby d6_1) rfl ?_
  intro T1 X1 e1
  refine g_aloadN 5 X1 hx (hb hby d6_4) rfl (v := (.ref a1)) rfl rfl ?_
  refine g_getF 8 X1 hx hZ hown (hw _ (List.mem_of_getElem? (i := 35) rfl)) Via.refl e1 F_merged (hb hby d6_5) rfl ?_
  intro T2 X2 e2
  refine g_icmpYes 50 X2 hx (hb hby d6_8)  (teq (rfl : (0 : Int32) = (0 : Int32))).1 (by decide) (by decide) ?_
  refine g_aloadN 51 X2 hx (hb hby d6_50) rfl (v := (.ref a1)) rfl rfl ?_
  refine g_getF 54 X2 hx hZ hown (hw _ (List.mem_of_getElem? (i := 20) rfl)) Via.refl e2 F_symbols (hb hby d6_51) rfl ?_
  intro T3 X3 e3
  refine g_aloadN 55 X3 hx (hb hby d6_54) rfl (v := (.ref a1)) rfl rfl ?_
  refine g_dup 56 X3 hx (hb hby d6_55) rfl rfl ?_
  refine g_getF 59 X3 hx hZ hown (hw _ (List.mem_of_getElem? (i := 37) rfl)) Via.refl e3 F_nextSymbol (hb hby d6_56) rfl ?_
  intro T4 X4 e4
  refine g_dup_x1 60 X4 hx (hb hby d6_59) rfl rfl rfl ?_
  refine g_iconst 61 X4 hx (hb hby d6_60) rfl (z := (1 : Int32)) rfl ?_
  refine g_iadd 62 X4 hx (hb hby d6_61) rfl (z := (1 : Int32)) (by decide) ?_
  refine g_putF 65 X4 hx hZ hown (hw _ (List.mem_of_getElem? (i := 37) rfl)) Via.refl e4 F_nextSymbol E_a1 (Or.inl (hw _ (List.mem_of_getElem? (i := 38) rfl))) (hw _ (List.mem_of_getElem? (i := 3) rfl)) (ty := .int) (by decide) rfl rfl (hb hby d6_62) rfl ?_
  intro T5 h5 X5 e5 W5
  have f6 := E_a1.wr W5
  have f7 := F_weights.other W5 (Or.inr (slot_ne (Or.inr (hw _ (List.mem_of_getElem? (i := 12) rfl))) (Or.inl (hw _ (List.mem_of_getElem? (i := 38) rfl))) (by decide) (t := (.array .long)) (t' := .int) (by decide) (by decide)))
  have f8 := F_symbols.other W5 (Or.inr (slot_ne (Or.inr (hw _ (List.mem_of_getElem? (i := 21) rfl))) (Or.inl (hw _ (List.mem_of_getElem? (i := 38) rfl))) (by decide) (t := (.array .int)) (t' := .int) (by decide) (by decide)))
  have f9 := F_mergedWeights.other W5 (Or.inr (slot_ne (Or.inr (hw _ (List.mem_of_getElem? (i := 27) rfl))) (Or.inl (hw _ (List.mem_of_getElem? (i := 38) rfl))) (by decide) (t := (.array .long)) (t' := .int) (by decide) (by decide)))
  have f10 := F_nextMerged.other W5 (Or.inr (slot_ne (Or.inl (hw _ (List.mem_of_getElem? (i := 34) rfl))) (Or.inl (hw _ (List.mem_of_getElem? (i := 38) rfl))) (by decide) (t := .int) (t' := .int) (by decide) (by decide)))
  have f11 := F_merged.other W5 (Or.inr (slot_ne (Or.inl (hw _ (List.mem_of_getElem? (i := 36) rfl))) (Or.inl (hw _ (List.mem_of_getElem? (i := 38) rfl))) (by decide) (t := .int) (t' := .int) (by decide) (by decide)))
  have f12 := A_aW.other W5 (Ne.symm ne_a1_aW)
  have f13 := A_aS.other W5 (Ne.symm ne_a1_aS)
  have f14 := A_aM.other W5 (Ne.symm ne_a1_aM)
  have Zs15 : n0 ≤ h5.size := (Nat.le_trans Z0 (Keep.of_wr W5).1)
  have K16 : Keep h0 h5 [a1] := K0.wr W5 (Or.inl (List.mem_of_getElem? (i := 0) rfl))
  have f17 := F_nextSymbol.same W5
  have N18 := Fr.snoc X5 N0 g_a1
  refine g_iaload 66 X5 hx hZ e5 f13 0 (by decide) rfl (z := x0) rfl (hb hby d6_65) rfl ?_
  exact g_retI X5 hx Bd.returns hlk (hb hby d6_66) (by decide) (by decide) (by
      show Q6A Z a1 aW aS aM w0 w1 w2 x0 x1 x2 m0 m1 h0 n0 _ T5.heap _
      rw [e5]
      exact ⟨rfl, N18, K16, f6, f7, f8, f9, f10, f11, f17⟩)
def Q6B (Z : State) (a1 : Addr)  (aW aS aM : Addr) (w0 w1 w2 : Int64) (x0 x1 x2 : Int32) (m0 m1 : Int64) (h0 : Heap) (n0 : Nat) (v : Option Value) (h : Heap) (L : List Loc) : Prop := v = some (.int x1) ∧ Fr n0 L ∧ Keep h0 h [a1] ∧ Exa Z h a1 "com/example/prefixwood/prefixwood/huffman/TwoQueues" ∧ Fld Z h a1 "com/example/prefixwood/prefixwood/huffman/TwoQueues" "weights" "[J" (.ref aW) ∧ Fld Z h a1 "com/example/prefixwood/prefixwood/huffman/TwoQueues" "symbols" "[I" (.ref aS) ∧ Fld Z h a1 "com/example/prefixwood/prefixwood/huffman/TwoQueues" "mergedWeights" "[J" (.ref aM) ∧ Fld Z h a1 "com/example/prefixwood/prefixwood/huffman/TwoQueues" "nextMerged" "I" (.int (0 : Int32)) ∧ Fld Z h a1 "com/example/prefixwood/prefixwood/huffman/TwoQueues" "merged" "I" (.int (0 : Int32)) ∧ Fld Z h a1 "com/example/prefixwood/prefixwood/huffman/TwoQueues" "nextSymbol" "I" (.int (2 : Int32))
theorem ef_rm6B (m : MethodId) (a1 : Addr) : entryFrame m #[(.ref a1)] 1 = mkF m 0 #[.val (.ref a1)] [] := by first | (simp [entryFrame, mkF, argsToLocals, Value.category]; done) | rfl
set_option maxRecDepth 65536 in
set_option maxHeartbeats 40000000 in
theorem rm6B (l : Launch) (Z : State) (a0 : Array Value) (hw : ∀ d ∈ tables_1, d.before a0 Z = true) (ws : List Jvm.Cond) (a1 : Addr)  (aW aS aM : Addr) (w0 w1 w2 : Int64) (x0 x1 x2 : Int32) (m0 m1 : Int64) (h0 : Heap) (n0 : Nat) (Z0 : n0 ≤ h0.size) (E_a1 : Exa Z h0 a1 "com/example/prefixwood/prefixwood/huffman/TwoQueues") (F_weights : Fld Z h0 a1 "com/example/prefixwood/prefixwood/huffman/TwoQueues" "weights" "[J" (.ref aW)) (F_symbols : Fld Z h0 a1 "com/example/prefixwood/prefixwood/huffman/TwoQueues" "symbols" "[I" (.ref aS)) (F_mergedWeights : Fld Z h0 a1 "com/example/prefixwood/prefixwood/huffman/TwoQueues" "mergedWeights" "[J" (.ref aM)) (F_nextMerged : Fld Z h0 a1 "com/example/prefixwood/prefixwood/huffman/TwoQueues" "nextMerged" "I" (.int (0 : Int32))) (F_merged : Fld Z h0 a1 "com/example/prefixwood/prefixwood/huffman/TwoQueues" "merged" "I" (.int (0 : Int32))) (F_nextSymbol : Fld Z h0 a1 "com/example/prefixwood/prefixwood/huffman/TwoQueues" "nextSymbol" "I" (.int (1 : Int32))) (A_aW : AJ Z h0 aW [w0, w1, w2]) (A_aS : AI Z h0 aS .int [x0, x1, x2]) (A_aM : AJ Z h0 aM [m0, m1]) (g_a1 : n0 ≤ a1) (g_aM : n0 ≤ aM) (ne_a1_aW : a1 ≠ aW) (ne_a1_aS : a1 ≠ aS) (ne_a1_aM : a1 ≠ aM) (ne_aM_aW : aM ≠ aW) (ne_aM_aS : aM ≠ aS) :
    MetFree l (⟨"com/example/prefixwood/prefixwood/huffman/TwoQueues", "poll", "()I"⟩ : MethodName) (head1 (Jvm.Cond.code (⟨"com/example/prefixwood/prefixwood/huffman/TwoQueues", "poll", "()I"⟩ : MethodName) prog_51_method_3_code 1 (some .int) :: ws) ({ frames := 0, cells := 0, slots := 0, locals := 0 } : Room)) (fun a U => a = #[(.ref a1)] ∧ Z.Warmed39 U.vm ∧ U.heap = h0) (fun _ _ _ _ _ => True) (fun _ U o U' => ∃ v L, o = .returned v ∧ (Q6B Z a1 aW aS aM w0 w1 w2 x0 x1 x2 m0 m1 h0 n0) v U'.heap L ∧ FrameEnd U o U' L ({ frames := 0, cells := 0, slots := 0, locals := 0 } : Room).cells ({ frames := 0, cells := 0, slots := 0, locals := 0 } : Room).slots) := by
  refine MetFree.of_bodySF (plainFor_of_name pn_0) hisR ?_
  intro p e s m args below meth c s₁ Bd hml0 hP hK
  obtain ⟨rfl, hZ, hh⟩ := hP
  have hx := Bd.exec
  have hby := Bd.bytes
  have hml : c.maxLocals = 1 := hml0
  have hown : s.vm.findClass "com/example/prefixwood/prefixwood/huffman/TwoQueues" = some m.cls := findClass_of_methodNamed Bd.named
  have hnm := (name_of_methodNamed Bd.named Bd.method).1
  have hlk : meth.locks = false := BodyLoose.notSynchronized Bd
  have X0 : Stand p l e ({ frames := 0, cells := 0, slots := 0, locals := 0 } : Room) s m #[(.ref a1)] below meth c s₁ [] 0 0 := Stand.of_body Bd
  have e0 : s₁.heap = h0 := by rw [← hh, Bd.state]; rfl
  have N0 := Fr.nil n0
  have K0 := Keep.refl h0 [a1]
  show Go p e below s ({ frames := 0, cells := 0, slots := 0, locals := 0 } : Room).cells ({ frames := 0, cells := 0, slots := 0, locals := 0 } : Room).slots (Q6B Z a1 aW aS aM w0 w1 w2 x0 x1 x2 m0 m1 h0 n0) s₁ (entryFrame m #[(.ref a1)] 1)
  rw [ef_rm6B m a1]
  refine g_aloadN 1 X0 hx (hb hby d6_0) rfl (v := (.ref a1)) rfl rfl ?_
  refine g_getF 4 X0 hx hZ hown (hw _ (List.mem_of_getElem? (i := 33) rfl)) Via.refl e0 F_nextMerged (hb hby d6_1) rfl ?_
  intro T1 X1 e1
  refine g_aloadN 5 X1 hx (hb hby d6_4) rfl (v := (.ref a1)) rfl rfl ?_
  refine g_getF 8 X1 hx hZ hown (hw _ (List.mem_of_getElem? (i := 35) rfl)) Via.refl e1 F_merged (hb hby d6_5) rfl ?_
  intro T2 X2 e2
  refine g_icmpYes 50 X2 hx (hb hby d6_8)  (teq (rfl : (0 : Int32) = (0 : Int32))).1 (by decide) (by decide) ?_
  refine g_aloadN 51 X2 hx (hb hby d6_50) rfl (v := (.ref a1)) rfl rfl ?_
  refine g_getF 54 X2 hx hZ hown (hw _ (List.mem_of_getElem? (i := 20) rfl)) Via.refl e2 F_symbols (hb hby d6_51) rfl ?_
  intro T3 X3 e3
  refine g_aloadN 55 X3 hx (hb hby d6_54) rfl (v := (.ref a1)) rfl rfl ?_
  refine g_dup 56 X3 hx (hb hby d6_55) rfl rfl ?_
  refine g_getF 59 X3 hx hZ hown (hw _ (List.mem_of_getElem? (i := 37) rfl)) Via.refl e3 F_nextSymbol (hb hby d6_56) rfl ?_
  intro T4 X4 e4
  refine g_dup_x1 60 X4 hx (hb hby d6_59) rfl rfl rfl ?_
  refine g_iconst 61 X4 hx (hb hby d6_60) rfl (z := (1 : Int32)) rfl ?_
  refine g_iadd 62 X4 hx (hb hby d6_61) rfl (z := (2 : Int32)) (by decide) ?_
  refine g_putF 65 X4 hx hZ hown (hw _ (List.mem_of_getElem? (i := 37) rfl)) Via.refl e4 F_nextSymbol E_a1 (Or.inl (hw _ (List.mem_of_getElem? (i := 38) rfl))) (hw _ (List.mem_of_getElem? (i := 3) rfl)) (ty := .int) (by decide) rfl rfl (hb hby d6_62) rfl ?_
  intro T5 h5 X5 e5 W5
  have f6 := E_a1.wr W5
  have f7 := F_weights.other W5 (Or.inr (slot_ne (Or.inr (hw _ (List.mem_of_getElem? (i := 12) rfl))) (Or.inl (hw _ (List.mem_of_getElem? (i := 38) rfl))) (by decide) (t := (.array .long)) (t' := .int) (by decide) (by decide)))
  have f8 := F_symbols.other W5 (Or.inr (slot_ne (Or.inr (hw _ (List.mem_of_getElem? (i := 21) rfl))) (Or.inl (hw _ (List.mem_of_getElem? (i := 38) rfl))) (by decide) (t := (.array .int)) (t' := .int) (by decide) (by decide)))
  have f9 := F_mergedWeights.other W5 (Or.inr (slot_ne (Or.inr (hw _ (List.mem_of_getElem? (i := 27) rfl))) (Or.inl (hw _ (List.mem_of_getElem? (i := 38) rfl))) (by decide) (t := (.array .long)) (t' := .int) (by decide) (by decide)))
  have f10 := F_nextMerged.other W5 (Or.inr (slot_ne (Or.inl (hw _ (List.mem_of_getElem? (i := 34) rfl))) (Or.inl (hw _ (List.mem_of_getElem? (i := 38) rfl))) (by decide) (t := .int) (t' := .int) (by decide) (by decide)))
  have f11 := F_merged.other W5 (Or.inr (slot_ne (Or.inl (hw _ (List.mem_of_getElem? (i := 36) rfl))) (Or.inl (hw _ (List.mem_of_getElem? (i := 38) rfl))) (by decide) (t := .int) (t' := .int) (by decide) (by decide)))
  have f12 := A_aW.other W5 (Ne.symm ne_a1_aW)
  have f13 := A_aS.other W5 (Ne.symm ne_a1_aS)
  have f14 := A_aM.other W5 (Ne.symm ne_a1_aM)
  have Zs15 : n0 ≤ h5.size := (Nat.le_trans Z0 (Keep.of_wr W5).1)
  have K16 : Keep h0 h5 [a1] := K0.wr W5 (Or.inl (List.mem_of_getElem? (i := 0) rfl))
  have f17 := F_nextSymbol.same W5
  have N18 := Fr.snoc X5 N0 g_a1
  refine g_iaload 66 X5 hx hZ e5 f13 1 (by decide) rfl (z := x1) rfl (hb hby d6_65) rfl ?_
  exact g_retI X5 hx Bd.returns hlk (hb hby d6_66) (by decide) (by decide) (by
      show Q6B Z a1 aW aS aM w0 w1 w2 x0 x1 x2 m0 m1 h0 n0 _ T5.heap _
      rw [e5]
      exact ⟨rfl, N18, K16, f6, f7, f8, f9, f10, f11, f17⟩)
def Q6E (Z : State) (a1 : Addr)  (aW aS aM : Addr) (w0 w1 w2 : Int64) (x0 x1 x2 : Int32) (m0 m1 : Int64) (h0 : Heap) (n0 : Nat) (v : Option Value) (h : Heap) (L : List Loc) : Prop := v = some (.int (3 : Int32)) ∧ Fr n0 L ∧ Keep h0 h [a1] ∧ Exa Z h a1 "com/example/prefixwood/prefixwood/huffman/TwoQueues" ∧ Fld Z h a1 "com/example/prefixwood/prefixwood/huffman/TwoQueues" "weights" "[J" (.ref aW) ∧ Fld Z h a1 "com/example/prefixwood/prefixwood/huffman/TwoQueues" "symbols" "[I" (.ref aS) ∧ Fld Z h a1 "com/example/prefixwood/prefixwood/huffman/TwoQueues" "mergedWeights" "[J" (.ref aM) ∧ Fld Z h a1 "com/example/prefixwood/prefixwood/huffman/TwoQueues" "nextMerged" "I" (.int (1 : Int32)) ∧ Fld Z h a1 "com/example/prefixwood/prefixwood/huffman/TwoQueues" "merged" "I" (.int (1 : Int32)) ∧ Fld Z h a1 "com/example/prefixwood/prefixwood/huffman/TwoQueues" "nextSymbol" "I" (.int (3 : Int32))
theorem ef_rm6E (m : MethodId) (a1 : Addr) : entryFrame m #[(.ref a1)] 1 = mkF m 0 #[.val (.ref a1)] [] := by first | (simp [entryFrame, mkF, argsToLocals, Value.category]; done) | rfl
set_option maxRecDepth 65536 in
set_option maxHeartbeats 40000000 in
theorem rm6E (l : Launch) (Z : State) (a0 : Array Value) (hw : ∀ d ∈ tables_1, d.before a0 Z = true) (ws : List Jvm.Cond) (a1 : Addr)  (aW aS aM : Addr) (w0 w1 w2 : Int64) (x0 x1 x2 : Int32) (m0 m1 : Int64) (h0 : Heap) (n0 : Nat) (Z0 : n0 ≤ h0.size) (E_a1 : Exa Z h0 a1 "com/example/prefixwood/prefixwood/huffman/TwoQueues") (F_weights : Fld Z h0 a1 "com/example/prefixwood/prefixwood/huffman/TwoQueues" "weights" "[J" (.ref aW)) (F_symbols : Fld Z h0 a1 "com/example/prefixwood/prefixwood/huffman/TwoQueues" "symbols" "[I" (.ref aS)) (F_mergedWeights : Fld Z h0 a1 "com/example/prefixwood/prefixwood/huffman/TwoQueues" "mergedWeights" "[J" (.ref aM)) (F_nextMerged : Fld Z h0 a1 "com/example/prefixwood/prefixwood/huffman/TwoQueues" "nextMerged" "I" (.int (0 : Int32))) (F_merged : Fld Z h0 a1 "com/example/prefixwood/prefixwood/huffman/TwoQueues" "merged" "I" (.int (1 : Int32))) (F_nextSymbol : Fld Z h0 a1 "com/example/prefixwood/prefixwood/huffman/TwoQueues" "nextSymbol" "I" (.int (3 : Int32))) (A_aW : AJ Z h0 aW [w0, w1, w2]) (A_aS : AI Z h0 aS .int [x0, x1, x2]) (A_aM : AJ Z h0 aM [m0, m1]) (g_a1 : n0 ≤ a1) (g_aM : n0 ≤ aM) (ne_a1_aW : a1 ≠ aW) (ne_a1_aS : a1 ≠ aS) (ne_a1_aM : a1 ≠ aM) (ne_aM_aW : aM ≠ aW) (ne_aM_aS : aM ≠ aS) :
    MetFree l (⟨"com/example/prefixwood/prefixwood/huffman/TwoQueues", "poll", "()I"⟩ : MethodName) (head1 (Jvm.Cond.code (⟨"com/example/prefixwood/prefixwood/huffman/TwoQueues", "poll", "()I"⟩ : MethodName) prog_51_method_3_code 1 (some .int) :: ws) ({ frames := 0, cells := 0, slots := 0, locals := 0 } : Room)) (fun a U => a = #[(.ref a1)] ∧ Z.Warmed39 U.vm ∧ U.heap = h0) (fun _ _ _ _ _ => True) (fun _ U o U' => ∃ v L, o = .returned v ∧ (Q6E Z a1 aW aS aM w0 w1 w2 x0 x1 x2 m0 m1 h0 n0) v U'.heap L ∧ FrameEnd U o U' L ({ frames := 0, cells := 0, slots := 0, locals := 0 } : Room).cells ({ frames := 0, cells := 0, slots := 0, locals := 0 } : Room).slots) := by
  refine MetFree.of_bodySF (plainFor_of_name pn_0) hisR ?_
  intro p e s m args below meth c s₁ Bd hml0 hP hK
  obtain ⟨rfl, hZ, hh⟩ := hP
  have hx := Bd.exec
  have hby := Bd.bytes
  have hml : c.maxLocals = 1 := hml0
  have hown : s.vm.findClass "com/example/prefixwood/prefixwood/huffman/TwoQueues" = some m.cls := findClass_of_methodNamed Bd.named
  have hnm := (name_of_methodNamed Bd.named Bd.method).1
  have hlk : meth.locks = false := BodyLoose.notSynchronized Bd
  have X0 : Stand p l e ({ frames := 0, cells := 0, slots := 0, locals := 0 } : Room) s m #[(.ref a1)] below meth c s₁ [] 0 0 := Stand.of_body Bd
  have e0 : s₁.heap = h0 := by rw [← hh, Bd.state]; rfl
  have N0 := Fr.nil n0
  have K0 := Keep.refl h0 [a1]
  show Go p e below s ({ frames := 0, cells := 0, slots := 0, locals := 0 } : Room).cells ({ frames := 0, cells := 0, slots := 0, locals := 0 } : Room).slots (Q6E Z a1 aW aS aM w0 w1 w2 x0 x1 x2 m0 m1 h0 n0) s₁ (entryFrame m #[(.ref a1)] 1)
  rw [ef_rm6E m a1]
  refine g_aloadN 1 X0 hx (hb hby d6_0) rfl (v := (.ref a1)) rfl rfl ?_
  refine g_getF 4 X0 hx hZ hown (hw _ (List.mem_of_getElem? (i := 33) rfl)) Via.refl e0 F_nextMerged (hb hby d6_1) rfl ?_
  intro T1 X1 e1
  refine g_aloadN 5 X1 hx (hb hby d6_4) rfl (v := (.ref a1)) rfl rfl ?_
  refine g_getF 8 X1 hx hZ hown (hw _ (List.mem_of_getElem? (i := 35) rfl)) Via.refl e1 F_merged (hb hby d6_5) rfl ?_
  intro T2 X2 e2
  refine g_icmpNo 11 X2 hx (hb hby d6_8)  (feq (by decide : ¬ ((0 : Int32) = (1 : Int32)))).1 rfl ?_
  refine g_aloadN 12 X2 hx (hb hby d6_11) rfl (v := (.ref a1)) rfl rfl ?_
  refine g_getF 15 X2 hx hZ hown (hw _ (List.mem_of_getElem? (i := 37) rfl)) Via.refl e2 F_nextSymbol (hb hby d6_12) rfl ?_
  intro T3 X3 e3
  refine g_aloadN 16 X3 hx (hb hby d6_15) rfl (v := (.ref a1)) rfl rfl ?_
  refine g_getF 19 X3 hx hZ hown (hw _ (List.mem_of_getElem? (i := 20) rfl)) Via.refl e3 F_symbols (hb hby d6_16) rfl ?_
  intro T4 X4 e4
  refine g_arraylengthI 20 X4 hx hZ e4 A_aS (z := (3 : Int32)) rfl (hb hby d6_19) rfl ?_
  refine g_icmpYes 67 X4 hx (hb hby d6_20)  (flt (Int32.lt_irrefl)).2.1 (by decide) (by decide) ?_
  refine g_aloadN 68 X4 hx (hb hby d6_67) rfl (v := (.ref a1)) rfl rfl ?_
  refine g_getF 71 X4 hx hZ hown (hw _ (List.mem_of_getElem? (i := 20) rfl)) Via.refl e4 F_symbols (hb hby d6_68) rfl ?_
  intro T5 X5 e5
  refine g_arraylengthI 72 X5 hx hZ e5 A_aS (z := (3 : Int32)) rfl (hb hby d6_71) rfl ?_
  refine g_aloadN 73 X5 hx (hb hby d6_72) rfl (v := (.ref a1)) rfl rfl ?_
  refine g_dup 74 X5 hx (hb hby d6_73) rfl rfl ?_
  refine g_getF 77 X5 hx hZ hown (hw _ (List.mem_of_getElem? (i := 33) rfl)) Via.refl e5 F_nextMerged (hb hby d6_74) rfl ?_
  intro T6 X6 e6
  refine g_dup_x1 78 X6 hx (hb hby d6_77) rfl rfl rfl ?_
  refine g_iconst 79 X6 hx (hb hby d6_78) rfl (z := (1 : Int32)) rfl ?_
  refine g_iadd 80 X6 hx (hb hby d6_79) rfl (z := (1 : Int32)) (by decide) ?_
  refine g_putF 83 X6 hx hZ hown (hw _ (List.mem_of_getElem? (i := 33) rfl)) Via.refl e6 F_nextMerged E_a1 (Or.inl (hw _ (List.mem_of_getElem? (i := 34) rfl))) (hw _ (List.mem_of_getElem? (i := 3) rfl)) (ty := .int) (by decide) rfl rfl (hb hby d6_80) rfl ?_
  intro T7 h7 X7 e7 W7
  have f8 := E_a1.wr W7
  have f9 := F_weights.other W7 (Or.inr (slot_ne (Or.inr (hw _ (List.mem_of_getElem? (i := 12) rfl))) (Or.inl (hw _ (List.mem_of_getElem? (i := 34) rfl))) (by decide) (t := (.array .long)) (t' := .int) (by decide) (by decide)))
  have f10 := F_symbols.other W7 (Or.inr (slot_ne (Or.inr (hw _ (List.mem_of_getElem? (i := 21) rfl))) (Or.inl (hw _ (List.mem_of_getElem? (i := 34) rfl))) (by decide) (t := (.array .int)) (t' := .int) (by decide) (by decide)))
  have f11 := F_mergedWeights.other W7 (Or.inr (slot_ne (Or.inr (hw _ (List.mem_of_getElem? (i := 27) rfl))) (Or.inl (hw _ (List.mem_of_getElem? (i := 34) rfl))) (by decide) (t := (.array .long)) (t' := .int) (by decide) (by decide)))
  have f12 := F_merged.other W7 (Or.inr (slot_ne (Or.inl (hw _ (List.mem_of_getElem? (i := 36) rfl))) (Or.inl (hw _ (List.mem_of_getElem? (i := 34) rfl))) (by decide) (t := .int) (t' := .int) (by decide) (by decide)))
  have f13 := F_nextSymbol.other W7 (Or.inr (slot_ne (Or.inl (hw _ (List.mem_of_getElem? (i := 38) rfl))) (Or.inl (hw _ (List.mem_of_getElem? (i := 34) rfl))) (by decide) (t := .int) (t' := .int) (by decide) (by decide)))
  have f14 := A_aW.other W7 (Ne.symm ne_a1_aW)
  have f15 := A_aS.other W7 (Ne.symm ne_a1_aS)
  have f16 := A_aM.other W7 (Ne.symm ne_a1_aM)
  have Zs17 : n0 ≤ h7.size := (Nat.le_trans Z0 (Keep.of_wr W7).1)
  have K18 : Keep h0 h7 [a1] := K0.wr W7 (Or.inl (List.mem_of_getElem? (i := 0) rfl))
  have f19 := F_nextMerged.same W7
  have N20 := Fr.snoc X7 N0 g_a1
  refine g_iadd 84 X7 hx (hb hby d6_83) rfl (z := (3 : Int32)) (by decide) ?_
  exact g_retI X7 hx Bd.returns hlk (hb hby d6_84) (by decide) (by decide) (by
      show Q6E Z a1 aW aS aM w0 w1 w2 x0 x1 x2 m0 m1 h0 n0 _ T7.heap _
      rw [e7]
      exact ⟨rfl, N20, K18, f8, f9, f10, f11, f19, f12, f13⟩)
def Q6F (Z : State) (a1 : Addr)  (aW aS aM : Addr) (w0 w1 w2 : Int64) (x0 x1 x2 : Int32) (m0 m1 : Int64) (h0 : Heap) (n0 : Nat) (v : Option Value) (h : Heap) (L : List Loc) : Prop := v = some (.int x2) ∧ Fr n0 L ∧ Keep h0 h [a1] ∧ Exa Z h a1 "com/example/prefixwood/prefixwood/huffman/TwoQueues" ∧ Fld Z h a1 "com/example/prefixwood/prefixwood/huffman/TwoQueues" "weights" "[J" (.ref aW) ∧ Fld Z h a1 "com/example/prefixwood/prefixwood/huffman/TwoQueues" "symbols" "[I" (.ref aS) ∧ Fld Z h a1 "com/example/prefixwood/prefixwood/huffman/TwoQueues" "mergedWeights" "[J" (.ref aM) ∧ Fld Z h a1 "com/example/prefixwood/prefixwood/huffman/TwoQueues" "nextMerged" "I" (.int (1 : Int32)) ∧ Fld Z h a1 "com/example/prefixwood/prefixwood/huffman/TwoQueues" "merged" "I" (.int (1 : Int32)) ∧ Fld Z h a1 "com/example/prefixwood/prefixwood/huffman/TwoQueues" "nextSymbol" "I" (.int (3 : Int32))
theorem ef_rm6F (m : MethodId) (a1 : Addr) : entryFrame m #[(.ref a1)] 1 = mkF m 0 #[.val (.ref a1)] [] := by first | (simp [entryFrame, mkF, argsToLocals, Value.category]; done) | rfl
set_option maxRecDepth 65536 in
set_option maxHeartbeats 40000000 in
theorem rm6F (l : Launch) (Z : State) (a0 : Array Value) (hw : ∀ d ∈ tables_1, d.before a0 Z = true) (ws : List Jvm.Cond) (a1 : Addr)  (aW aS aM : Addr) (w0 w1 w2 : Int64) (x0 x1 x2 : Int32) (m0 m1 : Int64) (h0 : Heap) (n0 : Nat) (Z0 : n0 ≤ h0.size) (E_a1 : Exa Z h0 a1 "com/example/prefixwood/prefixwood/huffman/TwoQueues") (F_weights : Fld Z h0 a1 "com/example/prefixwood/prefixwood/huffman/TwoQueues" "weights" "[J" (.ref aW)) (F_symbols : Fld Z h0 a1 "com/example/prefixwood/prefixwood/huffman/TwoQueues" "symbols" "[I" (.ref aS)) (F_mergedWeights : Fld Z h0 a1 "com/example/prefixwood/prefixwood/huffman/TwoQueues" "mergedWeights" "[J" (.ref aM)) (F_nextMerged : Fld Z h0 a1 "com/example/prefixwood/prefixwood/huffman/TwoQueues" "nextMerged" "I" (.int (1 : Int32))) (F_merged : Fld Z h0 a1 "com/example/prefixwood/prefixwood/huffman/TwoQueues" "merged" "I" (.int (1 : Int32))) (F_nextSymbol : Fld Z h0 a1 "com/example/prefixwood/prefixwood/huffman/TwoQueues" "nextSymbol" "I" (.int (2 : Int32))) (A_aW : AJ Z h0 aW [w0, w1, w2]) (A_aS : AI Z h0 aS .int [x0, x1, x2]) (A_aM : AJ Z h0 aM [m0, m1]) (g_a1 : n0 ≤ a1) (g_aM : n0 ≤ aM) (ne_a1_aW : a1 ≠ aW) (ne_a1_aS : a1 ≠ aS) (ne_a1_aM : a1 ≠ aM) (ne_aM_aW : aM ≠ aW) (ne_aM_aS : aM ≠ aS) :
    MetFree l (⟨"com/example/prefixwood/prefixwood/huffman/TwoQueues", "poll", "()I"⟩ : MethodName) (head1 (Jvm.Cond.code (⟨"com/example/prefixwood/prefixwood/huffman/TwoQueues", "poll", "()I"⟩ : MethodName) prog_51_method_3_code 1 (some .int) :: ws) ({ frames := 0, cells := 0, slots := 0, locals := 0 } : Room)) (fun a U => a = #[(.ref a1)] ∧ Z.Warmed39 U.vm ∧ U.heap = h0) (fun _ _ _ _ _ => True) (fun _ U o U' => ∃ v L, o = .returned v ∧ (Q6F Z a1 aW aS aM w0 w1 w2 x0 x1 x2 m0 m1 h0 n0) v U'.heap L ∧ FrameEnd U o U' L ({ frames := 0, cells := 0, slots := 0, locals := 0 } : Room).cells ({ frames := 0, cells := 0, slots := 0, locals := 0 } : Room).slots) := by
  refine MetFree.of_bodySF (plainFor_of_name pn_0) hisR ?_
  intro p e s m args below meth c s₁ Bd hml0 hP hK
  obtain ⟨rfl, hZ, hh⟩ := hP
  have hx := Bd.exec
  have hby := Bd.bytes
  have hml : c.maxLocals = 1 := hml0
  have hown : s.vm.findClass "com/example/prefixwood/prefixwood/huffman/TwoQueues" = some m.cls := findClass_of_methodNamed Bd.named
  have hnm := (name_of_methodNamed Bd.named Bd.method).1
  have hlk : meth.locks = false := BodyLoose.notSynchronized Bd
  have X0 : Stand p l e ({ frames := 0, cells := 0, slots := 0, locals := 0 } : Room) s m #[(.ref a1)] below meth c s₁ [] 0 0 := Stand.of_body Bd
  have e0 : s₁.heap = h0 := by rw [← hh, Bd.state]; rfl
  have N0 := Fr.nil n0
  have K0 := Keep.refl h0 [a1]
  show Go p e below s ({ frames := 0, cells := 0, slots := 0, locals := 0 } : Room).cells ({ frames := 0, cells := 0, slots := 0, locals := 0 } : Room).slots (Q6F Z a1 aW aS aM w0 w1 w2 x0 x1 x2 m0 m1 h0 n0) s₁ (entryFrame m #[(.ref a1)] 1)
  rw [ef_rm6F m a1]
  refine g_aloadN 1 X0 hx (hb hby d6_0) rfl (v := (.ref a1)) rfl rfl ?_
  refine g_getF 4 X0 hx hZ hown (hw _ (List.mem_of_getElem? (i := 33) rfl)) Via.refl e0 F_nextMerged (hb hby d6_1) rfl ?_
  intro T1 X1 e1
  refine g_aloadN 5 X1 hx (hb hby d6_4) rfl (v := (.ref a1)) rfl rfl ?_
  refine g_getF 8 X1 hx hZ hown (hw _ (List.mem_of_getElem? (i := 35) rfl)) Via.refl e1 F_merged (hb hby d6_5) rfl ?_
  intro T2 X2 e2
  refine g_icmpYes 50 X2 hx (hb hby d6_8)  (teq (rfl : (1 : Int32) = (1 : Int32))).1 (by decide) (by decide) ?_
  refine g_aloadN 51 X2 hx (hb hby d6_50) rfl (v := (.ref a1)) rfl rfl ?_
  refine g_getF 54 X2 hx hZ hown (hw _ (List.mem_of_getElem? (i := 20) rfl)) Via.refl e2 F_symbols (hb hby d6_51) rfl ?_
  intro T3 X3 e3
  refine g_aloadN 55 X3 hx (hb hby d6_54) rfl (v := (.ref a1)) rfl rfl ?_
  refine g_dup 56 X3 hx (hb hby d6_55) rfl rfl ?_
  refine g_getF 59 X3 hx hZ hown (hw _ (List.mem_of_getElem? (i := 37) rfl)) Via.refl e3 F_nextSymbol (hb hby d6_56) rfl ?_
  intro T4 X4 e4
  refine g_dup_x1 60 X4 hx (hb hby d6_59) rfl rfl rfl ?_
  refine g_iconst 61 X4 hx (hb hby d6_60) rfl (z := (1 : Int32)) rfl ?_
  refine g_iadd 62 X4 hx (hb hby d6_61) rfl (z := (3 : Int32)) (by decide) ?_
  refine g_putF 65 X4 hx hZ hown (hw _ (List.mem_of_getElem? (i := 37) rfl)) Via.refl e4 F_nextSymbol E_a1 (Or.inl (hw _ (List.mem_of_getElem? (i := 38) rfl))) (hw _ (List.mem_of_getElem? (i := 3) rfl)) (ty := .int) (by decide) rfl rfl (hb hby d6_62) rfl ?_
  intro T5 h5 X5 e5 W5
  have f6 := E_a1.wr W5
  have f7 := F_weights.other W5 (Or.inr (slot_ne (Or.inr (hw _ (List.mem_of_getElem? (i := 12) rfl))) (Or.inl (hw _ (List.mem_of_getElem? (i := 38) rfl))) (by decide) (t := (.array .long)) (t' := .int) (by decide) (by decide)))
  have f8 := F_symbols.other W5 (Or.inr (slot_ne (Or.inr (hw _ (List.mem_of_getElem? (i := 21) rfl))) (Or.inl (hw _ (List.mem_of_getElem? (i := 38) rfl))) (by decide) (t := (.array .int)) (t' := .int) (by decide) (by decide)))
  have f9 := F_mergedWeights.other W5 (Or.inr (slot_ne (Or.inr (hw _ (List.mem_of_getElem? (i := 27) rfl))) (Or.inl (hw _ (List.mem_of_getElem? (i := 38) rfl))) (by decide) (t := (.array .long)) (t' := .int) (by decide) (by decide)))
  have f10 := F_nextMerged.other W5 (Or.inr (slot_ne (Or.inl (hw _ (List.mem_of_getElem? (i := 34) rfl))) (Or.inl (hw _ (List.mem_of_getElem? (i := 38) rfl))) (by decide) (t := .int) (t' := .int) (by decide) (by decide)))
  have f11 := F_merged.other W5 (Or.inr (slot_ne (Or.inl (hw _ (List.mem_of_getElem? (i := 36) rfl))) (Or.inl (hw _ (List.mem_of_getElem? (i := 38) rfl))) (by decide) (t := .int) (t' := .int) (by decide) (by decide)))
  have f12 := A_aW.other W5 (Ne.symm ne_a1_aW)
  have f13 := A_aS.other W5 (Ne.symm ne_a1_aS)
  have f14 := A_aM.other W5 (Ne.symm ne_a1_aM)
  have Zs15 : n0 ≤ h5.size := (Nat.le_trans Z0 (Keep.of_wr W5).1)
  have K16 : Keep h0 h5 [a1] := K0.wr W5 (Or.inl (List.mem_of_getElem? (i := 0) rfl))
  have f17 := F_nextSymbol.same W5
  have N18 := Fr.snoc X5 N0 g_a1
  refine g_iaload 66 X5 hx hZ e5 f13 2 (by decide) rfl (z := x2) rfl (hb hby d6_65) rfl ?_
  exact g_retI X5 hx Bd.returns hlk (hb hby d6_66) (by decide) (by decide) (by
      show Q6F Z a1 aW aS aM w0 w1 w2 x0 x1 x2 m0 m1 h0 n0 _ T5.heap _
      rw [e5]
      exact ⟨rfl, N18, K16, f6, f7, f8, f9, f10, f11, f17⟩)
def Q6G (Z : State) (a1 : Addr)  (aW aS aM : Addr) (w0 w1 w2 : Int64) (x0 x1 x2 : Int32) (m0 m1 : Int64) (h0 : Heap) (n0 : Nat) (v : Option Value) (h : Heap) (L : List Loc) : Prop := v = some (.int (4 : Int32)) ∧ Fr n0 L ∧ Keep h0 h [a1] ∧ Exa Z h a1 "com/example/prefixwood/prefixwood/huffman/TwoQueues" ∧ Fld Z h a1 "com/example/prefixwood/prefixwood/huffman/TwoQueues" "weights" "[J" (.ref aW) ∧ Fld Z h a1 "com/example/prefixwood/prefixwood/huffman/TwoQueues" "symbols" "[I" (.ref aS) ∧ Fld Z h a1 "com/example/prefixwood/prefixwood/huffman/TwoQueues" "mergedWeights" "[J" (.ref aM) ∧ Fld Z h a1 "com/example/prefixwood/prefixwood/huffman/TwoQueues" "nextMerged" "I" (.int (2 : Int32)) ∧ Fld Z h a1 "com/example/prefixwood/prefixwood/huffman/TwoQueues" "merged" "I" (.int (2 : Int32)) ∧ Fld Z h a1 "com/example/prefixwood/prefixwood/huffman/TwoQueues" "nextSymbol" "I" (.int (3 : Int32))
theorem ef_rm6G (m : MethodId) (a1 : Addr) : entryFrame m #[(.ref a1)] 1 = mkF m 0 #[.val (.ref a1)] [] := by first | (simp [entryFrame, mkF, argsToLocals, Value.category]; done) | rfl
set_option maxRecDepth 65536 in
set_option maxHeartbeats 40000000 in
theorem rm6G (l : Launch) (Z : State) (a0 : Array Value) (hw : ∀ d ∈ tables_1, d.before a0 Z = true) (ws : List Jvm.Cond) (a1 : Addr)  (aW aS aM : Addr) (w0 w1 w2 : Int64) (x0 x1 x2 : Int32) (m0 m1 : Int64) (h0 : Heap) (n0 : Nat) (Z0 : n0 ≤ h0.size) (E_a1 : Exa Z h0 a1 "com/example/prefixwood/prefixwood/huffman/TwoQueues") (F_weights : Fld Z h0 a1 "com/example/prefixwood/prefixwood/huffman/TwoQueues" "weights" "[J" (.ref aW)) (F_symbols : Fld Z h0 a1 "com/example/prefixwood/prefixwood/huffman/TwoQueues" "symbols" "[I" (.ref aS)) (F_mergedWeights : Fld Z h0 a1 "com/example/prefixwood/prefixwood/huffman/TwoQueues" "mergedWeights" "[J" (.ref aM)) (F_nextMerged : Fld Z h0 a1 "com/example/prefixwood/prefixwood/huffman/TwoQueues" "nextMerged" "I" (.int (1 : Int32))) (F_merged : Fld Z h0 a1 "com/example/prefixwood/prefixwood/huffman/TwoQueues" "merged" "I" (.int (2 : Int32))) (F_nextSymbol : Fld Z h0 a1 "com/example/prefixwood/prefixwood/huffman/TwoQueues" "nextSymbol" "I" (.int (3 : Int32))) (A_aW : AJ Z h0 aW [w0, w1, w2]) (A_aS : AI Z h0 aS .int [x0, x1, x2]) (A_aM : AJ Z h0 aM [m0, m1]) (g_a1 : n0 ≤ a1) (g_aM : n0 ≤ aM) (ne_a1_aW : a1 ≠ aW) (ne_a1_aS : a1 ≠ aS) (ne_a1_aM : a1 ≠ aM) (ne_aM_aW : aM ≠ aW) (ne_aM_aS : aM ≠ aS) :
    MetFree l (⟨"com/example/prefixwood/prefixwood/huffman/TwoQueues", "poll", "()I"⟩ : MethodName) (head1 (Jvm.Cond.code (⟨"com/example/prefixwood/prefixwood/huffman/TwoQueues", "poll", "()I"⟩ : MethodName) prog_51_method_3_code 1 (some .int) :: ws) ({ frames := 0, cells := 0, slots := 0, locals := 0 } : Room)) (fun a U => a = #[(.ref a1)] ∧ Z.Warmed39 U.vm ∧ U.heap = h0) (fun _ _ _ _ _ => True) (fun _ U o U' => ∃ v L, o = .returned v ∧ (Q6G Z a1 aW aS aM w0 w1 w2 x0 x1 x2 m0 m1 h0 n0) v U'.heap L ∧ FrameEnd U o U' L ({ frames := 0, cells := 0, slots := 0, locals := 0 } : Room).cells ({ frames := 0, cells := 0, slots := 0, locals := 0 } : Room).slots) := by
  refine MetFree.of_bodySF (plainFor_of_name pn_0) hisR ?_
  intro p e s m args below meth c s₁ Bd hml0 hP hK
  obtain ⟨rfl, hZ, hh⟩ := hP
  have hx := Bd.exec
  have hby := Bd.bytes
  have hml : c.maxLocals = 1 := hml0
  have hown : s.vm.findClass "com/example/prefixwood/prefixwood/huffman/TwoQueues" = some m.cls := findClass_of_methodNamed Bd.named
  have hnm := (name_of_methodNamed Bd.named Bd.method).1
  have hlk : meth.locks = false := BodyLoose.notSynchronized Bd
  have X0 : Stand p l e ({ frames := 0, cells := 0, slots := 0, locals := 0 } : Room) s m #[(.ref a1)] below meth c s₁ [] 0 0 := Stand.of_body Bd
  have e0 : s₁.heap = h0 := by rw [← hh, Bd.state]; rfl
  have N0 := Fr.nil n0
  have K0 := Keep.refl h0 [a1]
  show Go p e below s ({ frames := 0, cells := 0, slots := 0, locals := 0 } : Room).cells ({ frames := 0, cells := 0, slots := 0, locals := 0 } : Room).slots (Q6G Z a1 aW aS aM w0 w1 w2 x0 x1 x2 m0 m1 h0 n0) s₁ (entryFrame m #[(.ref a1)] 1)
  rw [ef_rm6G m a1]
  refine g_aloadN 1 X0 hx (hb hby d6_0) rfl (v := (.ref a1)) rfl rfl ?_
  refine g_getF 4 X0 hx hZ hown (hw _ (List.mem_of_getElem? (i := 33) rfl)) Via.refl e0 F_nextMerged (hb hby d6_1) rfl ?_
  intro T1 X1 e1
  refine g_aloadN 5 X1 hx (hb hby d6_4) rfl (v := (.ref a1)) rfl rfl ?_
  refine g_getF 8 X1 hx hZ hown (hw _ (List.mem_of_getElem? (i := 35) rfl)) Via.refl e1 F_merged (hb hby d6_5) rfl ?_
  intro T2 X2 e2
  refine g_icmpNo 11 X2 hx (hb hby d6_8)  (feq (by decide : ¬ ((1 : Int32) = (2 : Int32)))).1 rfl ?_
  refine g_aloadN 12 X2 hx (hb hby d6_11) rfl (v := (.ref a1)) rfl rfl ?_
  refine g_getF 15 X2 hx hZ hown (hw _ (List.mem_of_getElem? (i := 37) rfl)) Via.refl e2 F_nextSymbol (hb hby d6_12) rfl ?_
  intro T3 X3 e3
  refine g_aloadN 16 X3 hx (hb hby d6_15) rfl (v := (.ref a1)) rfl rfl ?_
  refine g_getF 19 X3 hx hZ hown (hw _ (List.mem_of_getElem? (i := 20) rfl)) Via.refl e3 F_symbols (hb hby d6_16) rfl ?_
  intro T4 X4 e4
  refine g_arraylengthI 20 X4 hx hZ e4 A_aS (z := (3 : Int32)) rfl (hb hby d6_19) rfl ?_
  refine g_icmpYes 67 X4 hx (hb hby d6_20)  (flt (Int32.lt_irrefl)).2.1 (by decide) (by decide) ?_
  refine g_aloadN 68 X4 hx (hb hby d6_67) rfl (v := (.ref a1)) rfl rfl ?_
  refine g_getF 71 X4 hx hZ hown (hw _ (List.mem_of_getElem? (i := 20) rfl)) Via.refl e4 F_symbols (hb hby d6_68) rfl ?_
  intro T5 X5 e5
  refine g_arraylengthI 72 X5 hx hZ e5 A_aS (z := (3 : Int32)) rfl (hb hby d6_71) rfl ?_
  refine g_aloadN 73 X5 hx (hb hby d6_72) rfl (v := (.ref a1)) rfl rfl ?_
  refine g_dup 74 X5 hx (hb hby d6_73) rfl rfl ?_
  refine g_getF 77 X5 hx hZ hown (hw _ (List.mem_of_getElem? (i := 33) rfl)) Via.refl e5 F_nextMerged (hb hby d6_74) rfl ?_
  intro T6 X6 e6
  refine g_dup_x1 78 X6 hx (hb hby d6_77) rfl rfl rfl ?_
  refine g_iconst 79 X6 hx (hb hby d6_78) rfl (z := (1 : Int32)) rfl ?_
  refine g_iadd 80 X6 hx (hb hby d6_79) rfl (z := (2 : Int32)) (by decide) ?_
  refine g_putF 83 X6 hx hZ hown (hw _ (List.mem_of_getElem? (i := 33) rfl)) Via.refl e6 F_nextMerged E_a1 (Or.inl (hw _ (List.mem_of_getElem? (i := 34) rfl))) (hw _ (List.mem_of_getElem? (i := 3) rfl)) (ty := .int) (by decide) rfl rfl (hb hby d6_80) rfl ?_
  intro T7 h7 X7 e7 W7
  have f8 := E_a1.wr W7
  have f9 := F_weights.other W7 (Or.inr (slot_ne (Or.inr (hw _ (List.mem_of_getElem? (i := 12) rfl))) (Or.inl (hw _ (List.mem_of_getElem? (i := 34) rfl))) (by decide) (t := (.array .long)) (t' := .int) (by decide) (by decide)))
  have f10 := F_symbols.other W7 (Or.inr (slot_ne (Or.inr (hw _ (List.mem_of_getElem? (i := 21) rfl))) (Or.inl (hw _ (List.mem_of_getElem? (i := 34) rfl))) (by decide) (t := (.array .int)) (t' := .int) (by decide) (by decide)))
  have f11 := F_mergedWeights.other W7 (Or.inr (slot_ne (Or.inr (hw _ (List.mem_of_getElem? (i := 27) rfl))) (Or.inl (hw _ (List.mem_of_getElem? (i := 34) rfl))) (by decide) (t := (.array .long)) (t' := .int) (by decide) (by decide)))
  have f12 := F_merged.other W7 (Or.inr (slot_ne (Or.inl (hw _ (List.mem_of_getElem? (i := 36) rfl))) (Or.inl (hw _ (List.mem_of_getElem? (i := 34) rfl))) (by decide) (t := .int) (t' := .int) (by decide) (by decide)))
  have f13 := F_nextSymbol.other W7 (Or.inr (slot_ne (Or.inl (hw _ (List.mem_of_getElem? (i := 38) rfl))) (Or.inl (hw _ (List.mem_of_getElem? (i := 34) rfl))) (by decide) (t := .int) (t' := .int) (by decide) (by decide)))
  have f14 := A_aW.other W7 (Ne.symm ne_a1_aW)
  have f15 := A_aS.other W7 (Ne.symm ne_a1_aS)
  have f16 := A_aM.other W7 (Ne.symm ne_a1_aM)
  have Zs17 : n0 ≤ h7.size := (Nat.le_trans Z0 (Keep.of_wr W7).1)
  have K18 : Keep h0 h7 [a1] := K0.wr W7 (Or.inl (List.mem_of_getElem? (i := 0) rfl))
  have f19 := F_nextMerged.same W7
  have N20 := Fr.snoc X7 N0 g_a1
  refine g_iadd 84 X7 hx (hb hby d6_83) rfl (z := (4 : Int32)) (by decide) ?_
  exact g_retI X7 hx Bd.returns hlk (hb hby d6_84) (by decide) (by decide) (by
      show Q6G Z a1 aW aS aM w0 w1 w2 x0 x1 x2 m0 m1 h0 n0 _ T7.heap _
      rw [e7]
      exact ⟨rfl, N20, K18, f8, f9, f10, f11, f19, f12, f13⟩)
def Q6C (Z : State) (a1 : Addr)  (aW aS aM : Addr) (w0 w1 w2 : Int64) (x0 x1 x2 : Int32) (m0 m1 : Int64) (h0 : Heap) (n0 : Nat) (v : Option Value) (h : Heap) (L : List Loc) : Prop := v = some (.int x2) ∧ Fr n0 L ∧ Keep h0 h [a1] ∧ Exa Z h a1 "com/example/prefixwood/prefixwood/huffman/TwoQueues" ∧ Fld Z h a1 "com/example/prefixwood/prefixwood/huffman/TwoQueues" "weights" "[J" (.ref aW) ∧ Fld Z h a1 "com/example/prefixwood/prefixwood/huffman/TwoQueues" "symbols" "[I" (.ref aS) ∧ Fld Z h a1 "com/example/prefixwood/prefixwood/huffman/TwoQueues" "mergedWeights" "[J" (.ref aM) ∧ Fld Z h a1 "com/example/prefixwood/prefixwood/huffman/TwoQueues" "nextMerged" "I" (.int (0 : Int32)) ∧ Fld Z h a1 "com/example/prefixwood/prefixwood/huffman/TwoQueues" "merged" "I" (.int (1 : Int32)) ∧ Fld Z h a1 "com/example/prefixwood/prefixwood/huffman/TwoQueues" "nextSymbol" "I" (.int (3 : Int32))
theorem ef_rm6C (m : MethodId) (a1 : Addr) : entryFrame m #[(.ref a1)] 1 = mkF m 0 #[.val (.ref a1)] [] := by first | (simp [entryFrame, mkF, argsToLocals, Value.category]; done) | rfl
set_option maxRecDepth 65536 in
set_option maxHeartbeats 40000000 in
theorem rm6C (l : Launch) (Z : State) (a0 : Array Value) (hw : ∀ d ∈ tables_1, d.before a0 Z = true) (ws : List Jvm.Cond) (a1 : Addr)  (aW aS aM : Addr) (w0 w1 w2 : Int64) (x0 x1 x2 : Int32) (m0 m1 : Int64) (h0 : Heap) (n0 : Nat) (Z0 : n0 ≤ h0.size) (E_a1 : Exa Z h0 a1 "com/example/prefixwood/prefixwood/huffman/TwoQueues") (F_weights : Fld Z h0 a1 "com/example/prefixwood/prefixwood/huffman/TwoQueues" "weights" "[J" (.ref aW)) (F_symbols : Fld Z h0 a1 "com/example/prefixwood/prefixwood/huffman/TwoQueues" "symbols" "[I" (.ref aS)) (F_mergedWeights : Fld Z h0 a1 "com/example/prefixwood/prefixwood/huffman/TwoQueues" "mergedWeights" "[J" (.ref aM)) (F_nextMerged : Fld Z h0 a1 "com/example/prefixwood/prefixwood/huffman/TwoQueues" "nextMerged" "I" (.int (0 : Int32))) (F_merged : Fld Z h0 a1 "com/example/prefixwood/prefixwood/huffman/TwoQueues" "merged" "I" (.int (1 : Int32))) (F_nextSymbol : Fld Z h0 a1 "com/example/prefixwood/prefixwood/huffman/TwoQueues" "nextSymbol" "I" (.int (2 : Int32))) (A_aW : AJ Z h0 aW [w0, w1, w2]) (A_aS : AI Z h0 aS .int [x0, x1, x2]) (A_aM : AJ Z h0 aM [m0, m1]) (g_a1 : n0 ≤ a1) (g_aM : n0 ≤ aM) (ne_a1_aW : a1 ≠ aW) (ne_a1_aS : a1 ≠ aS) (ne_a1_aM : a1 ≠ aM) (ne_aM_aW : aM ≠ aW) (ne_aM_aS : aM ≠ aS) (hB : 0 ≤ x2.toInt ∧ x2.toInt ≤ 2) (hS : ¬ (m0 < (([w0, w1, w2] : List Int64).getD x2.toInt.toNat 0))) :
    MetFree l (⟨"com/example/prefixwood/prefixwood/huffman/TwoQueues", "poll", "()I"⟩ : MethodName) (head1 (Jvm.Cond.code (⟨"com/example/prefixwood/prefixwood/huffman/TwoQueues", "poll", "()I"⟩ : MethodName) prog_51_method_3_code 1 (some .int) :: ws) ({ frames := 0, cells := 0, slots := 0, locals := 0 } : Room)) (fun a U => a = #[(.ref a1)] ∧ Z.Warmed39 U.vm ∧ U.heap = h0) (fun _ _ _ _ _ => True) (fun _ U o U' => ∃ v L, o = .returned v ∧ (Q6C Z a1 aW aS aM w0 w1 w2 x0 x1 x2 m0 m1 h0 n0) v U'.heap L ∧ FrameEnd U o U' L ({ frames := 0, cells := 0, slots := 0, locals := 0 } : Room).cells ({ frames := 0, cells := 0, slots := 0, locals := 0 } : Room).slots) := by
  refine MetFree.of_bodySF (plainFor_of_name pn_0) hisR ?_
  intro p e s m args below meth c s₁ Bd hml0 hP hK
  obtain ⟨rfl, hZ, hh⟩ := hP
  have hx := Bd.exec
  have hby := Bd.bytes
  have hml : c.maxLocals = 1 := hml0
  have hown : s.vm.findClass "com/example/prefixwood/prefixwood/huffman/TwoQueues" = some m.cls := findClass_of_methodNamed Bd.named
  have hnm := (name_of_methodNamed Bd.named Bd.method).1
  have hlk : meth.locks = false := BodyLoose.notSynchronized Bd
  have X0 : Stand p l e ({ frames := 0, cells := 0, slots := 0, locals := 0 } : Room) s m #[(.ref a1)] below meth c s₁ [] 0 0 := Stand.of_body Bd
  have e0 : s₁.heap = h0 := by rw [← hh, Bd.state]; rfl
  have N0 := Fr.nil n0
  have K0 := Keep.refl h0 [a1]
  show Go p e below s ({ frames := 0, cells := 0, slots := 0, locals := 0 } : Room).cells ({ frames := 0, cells := 0, slots := 0, locals := 0 } : Room).slots (Q6C Z a1 aW aS aM w0 w1 w2 x0 x1 x2 m0 m1 h0 n0) s₁ (entryFrame m #[(.ref a1)] 1)
  rw [ef_rm6C m a1]
  refine g_aloadN 1 X0 hx (hb hby d6_0) rfl (v := (.ref a1)) rfl rfl ?_
  refine g_getF 4 X0 hx hZ hown (hw _ (List.mem_of_getElem? (i := 33) rfl)) Via.refl e0 F_nextMerged (hb hby d6_1) rfl ?_
  intro T1 X1 e1
  refine g_aloadN 5 X1 hx (hb hby d6_4) rfl (v := (.ref a1)) rfl rfl ?_
  refine g_getF 8 X1 hx hZ hown (hw _ (List.mem_of_getElem? (i := 35) rfl)) Via.refl e1 F_merged (hb hby d6_5) rfl ?_
  intro T2 X2 e2
  refine g_icmpNo 11 X2 hx (hb hby d6_8)  (feq (by decide : ¬ ((0 : Int32) = (1 : Int32)))).1 rfl ?_
  refine g_aloadN 12 X2 hx (hb hby d6_11) rfl (v := (.ref a1)) rfl rfl ?_
  refine g_getF 15 X2 hx hZ hown (hw _ (List.mem_of_getElem? (i := 37) rfl)) Via.refl e2 F_nextSymbol (hb hby d6_12) rfl ?_
  intro T3 X3 e3
  refine g_aloadN 16 X3 hx (hb hby d6_15) rfl (v := (.ref a1)) rfl rfl ?_
  refine g_getF 19 X3 hx hZ hown (hw _ (List.mem_of_getElem? (i := 20) rfl)) Via.refl e3 F_symbols (hb hby d6_16) rfl ?_
  intro T4 X4 e4
  refine g_arraylengthI 20 X4 hx hZ e4 A_aS (z := (3 : Int32)) rfl (hb hby d6_19) rfl ?_
  refine g_icmpNo 23 X4 hx (hb hby d6_20)  (tlt (by decide : (2 : Int32) < (3 : Int32))).2.1 rfl ?_
  refine g_aloadN 24 X4 hx (hb hby d6_23) rfl (v := (.ref a1)) rfl rfl ?_
  refine g_getF 27 X4 hx hZ hown (hw _ (List.mem_of_getElem? (i := 11) rfl)) Via.refl e4 F_weights (hb hby d6_24) rfl ?_
  intro T5 X5 e5
  refine g_aloadN 28 X5 hx (hb hby d6_27) rfl (v := (.ref a1)) rfl rfl ?_
  refine g_getF 31 X5 hx hZ hown (hw _ (List.mem_of_getElem? (i := 20) rfl)) Via.refl e5 F_symbols (hb hby d6_28) rfl ?_
  intro T6 X6 e6
  refine g_aloadN 32 X6 hx (hb hby d6_31) rfl (v := (.ref a1)) rfl rfl ?_
  refine g_getF 35 X6 hx hZ hown (hw _ (List.mem_of_getElem? (i := 37) rfl)) Via.refl e6 F_nextSymbol (hb hby d6_32) rfl ?_
  intro T7 X7 e7
  refine g_iaload 36 X7 hx hZ e7 A_aS 2 (by decide) rfl (z := x2) rfl (hb hby d6_35) rfl ?_
  refine g_laload 37 X7 hx hZ e7 A_aW (x2.toInt.toNat) (own_nat0 hB.1) rfl (z := (([w0, w1, w2] : List Int64).getD x2.toInt.toNat 0)) (own_getJ (by have q := hB; show _ < 3; omega)) (hb hby d6_36) rfl ?_
  refine g_aloadN 38 X7 hx (hb hby d6_37) rfl (v := (.ref a1)) rfl rfl ?_
  refine g_getF 41 X7 hx hZ hown (hw _ (List.mem_of_getElem? (i := 26) rfl)) Via.refl e7 F_mergedWeights (hb hby d6_38) rfl ?_
  intro T8 X8 e8
  refine g_aloadN 42 X8 hx (hb hby d6_41) rfl (v := (.ref a1)) rfl rfl ?_
  refine g_getF 45 X8 hx hZ hown (hw _ (List.mem_of_getElem? (i := 33) rfl)) Via.refl e8 F_nextMerged (hb hby d6_42) rfl ?_
  intro T9 X9 e9
  refine g_laload 46 X9 hx hZ e9 A_aM 0 (by decide) rfl (z := m0) rfl (hb hby d6_45) rfl ?_
  have hc46_9 : ¬ (m0 < (([w0, w1, w2] : List Int64).getD x2.toInt.toNat 0)) := hS
  refine g_lcmpNo 50 X9 hx (hb hby d6_46) rfl (hb hby d6_47) (fltL hc46_9).2.2.1 rfl ?_
  refine g_aloadN 51 X9 hx (hb hby d6_50) rfl (v := (.ref a1)) rfl rfl ?_
  refine g_getF 54 X9 hx hZ hown (hw _ (List.mem_of_getElem? (i := 20) rfl)) Via.refl e9 F_symbols (hb hby d6_51) rfl ?_
  intro T11 X11 e11
  refine g_aloadN 55 X11 hx (hb hby d6_54) rfl (v := (.ref a1)) rfl rfl ?_
  refine g_dup 56 X11 hx (hb hby d6_55) rfl rfl ?_
  refine g_getF 59 X11 hx hZ hown (hw _ (List.mem_of_getElem? (i := 37) rfl)) Via.refl e11 F_nextSymbol (hb hby d6_56) rfl ?_
  intro T12 X12 e12
  refine g_dup_x1 60 X12 hx (hb hby d6_59) rfl rfl rfl ?_
  refine g_iconst 61 X12 hx (hb hby d6_60) rfl (z := (1 : Int32)) rfl ?_
  refine g_iadd 62 X12 hx (hb hby d6_61) rfl (z := (3 : Int32)) (by decide) ?_
  refine g_putF 65 X12 hx hZ hown (hw _ (List.mem_of_getElem? (i := 37) rfl)) Via.refl e12 F_nextSymbol E_a1 (Or.inl (hw _ (List.mem_of_getElem? (i := 38) rfl))) (hw _ (List.mem_of_getElem? (i := 3) rfl)) (ty := .int) (by decide) rfl rfl (hb hby d6_62) rfl ?_
  intro T13 h13 X13 e13 W13
  have f14 := E_a1.wr W13
  have f15 := F_weights.other W13 (Or.inr (slot_ne (Or.inr (hw _ (List.mem_of_getElem? (i := 12) rfl))) (Or.inl (hw _ (List.mem_of_getElem? (i := 38) rfl))) (by decide) (t := (.array .long)) (t' := .int) (by decide) (by decide)))
  have f16 := F_symbols.other W13 (Or.inr (slot_ne (Or.inr (hw _ (List.mem_of_getElem? (i := 21) rfl))) (Or.inl (hw _ (List.mem_of_getElem? (i := 38) rfl))) (by decide) (t := (.array .int)) (t' := .int) (by decide) (by decide)))
  have f17 := F_mergedWeights.other W13 (Or.inr (slot_ne (Or.inr (hw _ (List.mem_of_getElem? (i := 27) rfl))) (Or.inl (hw _ (List.mem_of_getElem? (i := 38) rfl))) (by decide) (t := (.array .long)) (t' := .int) (by decide) (by decide)))
  have f18 := F_nextMerged.other W13 (Or.inr (slot_ne (Or.inl (hw _ (List.mem_of_getElem? (i := 34) rfl))) (Or.inl (hw _ (List.mem_of_getElem? (i := 38) rfl))) (by decide) (t := .int) (t' := .int) (by decide) (by decide)))
  have f19 := F_merged.other W13 (Or.inr (slot_ne (Or.inl (hw _ (List.mem_of_getElem? (i := 36) rfl))) (Or.inl (hw _ (List.mem_of_getElem? (i := 38) rfl))) (by decide) (t := .int) (t' := .int) (by decide) (by decide)))
  have f20 := A_aW.other W13 (Ne.symm ne_a1_aW)
  have f21 := A_aS.other W13 (Ne.symm ne_a1_aS)
  have f22 := A_aM.other W13 (Ne.symm ne_a1_aM)
  have Zs23 : n0 ≤ h13.size := (Nat.le_trans Z0 (Keep.of_wr W13).1)
  have K24 : Keep h0 h13 [a1] := K0.wr W13 (Or.inl (List.mem_of_getElem? (i := 0) rfl))
  have f25 := F_nextSymbol.same W13
  have N26 := Fr.snoc X13 N0 g_a1
  refine g_iaload 66 X13 hx hZ e13 f21 2 (by decide) rfl (z := x2) rfl (hb hby d6_65) rfl ?_
  exact g_retI X13 hx Bd.returns hlk (hb hby d6_66) (by decide) (by decide) (by
      show Q6C Z a1 aW aS aM w0 w1 w2 x0 x1 x2 m0 m1 h0 n0 _ T13.heap _
      rw [e13]
      exact ⟨rfl, N26, K24, f14, f15, f16, f17, f18, f19, f25⟩)
def Q6D (Z : State) (a1 : Addr)  (aW aS aM : Addr) (w0 w1 w2 : Int64) (x0 x1 x2 : Int32) (m0 m1 : Int64) (h0 : Heap) (n0 : Nat) (v : Option Value) (h : Heap) (L : List Loc) : Prop := v = some (.int (3 : Int32)) ∧ Fr n0 L ∧ Keep h0 h [a1] ∧ Exa Z h a1 "com/example/prefixwood/prefixwood/huffman/TwoQueues" ∧ Fld Z h a1 "com/example/prefixwood/prefixwood/huffman/TwoQueues" "weights" "[J" (.ref aW) ∧ Fld Z h a1 "com/example/prefixwood/prefixwood/huffman/TwoQueues" "symbols" "[I" (.ref aS) ∧ Fld Z h a1 "com/example/prefixwood/prefixwood/huffman/TwoQueues" "mergedWeights" "[J" (.ref aM) ∧ Fld Z h a1 "com/example/prefixwood/prefixwood/huffman/TwoQueues" "nextMerged" "I" (.int (1 : Int32)) ∧ Fld Z h a1 "com/example/prefixwood/prefixwood/huffman/TwoQueues" "merged" "I" (.int (1 : Int32)) ∧ Fld Z h a1 "com/example/prefixwood/prefixwood/huffman/TwoQueues" "nextSymbol" "I" (.int (2 : Int32))
theorem ef_rm6D (m : MethodId) (a1 : Addr) : entryFrame m #[(.ref a1)] 1 = mkF m 0 #[.val (.ref a1)] [] := by first | (simp [entryFrame, mkF, argsToLocals, Value.category]; done) | rfl
set_option maxRecDepth 65536 in
set_option maxHeartbeats 40000000 in
theorem rm6D (l : Launch) (Z : State) (a0 : Array Value) (hw : ∀ d ∈ tables_1, d.before a0 Z = true) (ws : List Jvm.Cond) (a1 : Addr)  (aW aS aM : Addr) (w0 w1 w2 : Int64) (x0 x1 x2 : Int32) (m0 m1 : Int64) (h0 : Heap) (n0 : Nat) (Z0 : n0 ≤ h0.size) (E_a1 : Exa Z h0 a1 "com/example/prefixwood/prefixwood/huffman/TwoQueues") (F_weights : Fld Z h0 a1 "com/example/prefixwood/prefixwood/huffman/TwoQueues" "weights" "[J" (.ref aW)) (F_symbols : Fld Z h0 a1 "com/example/prefixwood/prefixwood/huffman/TwoQueues" "symbols" "[I" (.ref aS)) (F_mergedWeights : Fld Z h0 a1 "com/example/prefixwood/prefixwood/huffman/TwoQueues" "mergedWeights" "[J" (.ref aM)) (F_nextMerged : Fld Z h0 a1 "com/example/prefixwood/prefixwood/huffman/TwoQueues" "nextMerged" "I" (.int (0 : Int32))) (F_merged : Fld Z h0 a1 "com/example/prefixwood/prefixwood/huffman/TwoQueues" "merged" "I" (.int (1 : Int32))) (F_nextSymbol : Fld Z h0 a1 "com/example/prefixwood/prefixwood/huffman/TwoQueues" "nextSymbol" "I" (.int (2 : Int32))) (A_aW : AJ Z h0 aW [w0, w1, w2]) (A_aS : AI Z h0 aS .int [x0, x1, x2]) (A_aM : AJ Z h0 aM [m0, m1]) (g_a1 : n0 ≤ a1) (g_aM : n0 ≤ aM) (ne_a1_aW : a1 ≠ aW) (ne_a1_aS : a1 ≠ aS) (ne_a1_aM : a1 ≠ aM) (ne_aM_aW : aM ≠ aW) (ne_aM_aS : aM ≠ aS) (hB : 0 ≤ x2.toInt ∧ x2.toInt ≤ 2) (hS : m0 < (([w0, w1, w2] : List Int64).getD x2.toInt.toNat 0)) :
    MetFree l (⟨"com/example/prefixwood/prefixwood/huffman/TwoQueues", "poll", "()I"⟩ : MethodName) (head1 (Jvm.Cond.code (⟨"com/example/prefixwood/prefixwood/huffman/TwoQueues", "poll", "()I"⟩ : MethodName) prog_51_method_3_code 1 (some .int) :: ws) ({ frames := 0, cells := 0, slots := 0, locals := 0 } : Room)) (fun a U => a = #[(.ref a1)] ∧ Z.Warmed39 U.vm ∧ U.heap = h0) (fun _ _ _ _ _ => True) (fun _ U o U' => ∃ v L, o = .returned v ∧ (Q6D Z a1 aW aS aM w0 w1 w2 x0 x1 x2 m0 m1 h0 n0) v U'.heap L ∧ FrameEnd U o U' L ({ frames := 0, cells := 0, slots := 0, locals := 0 } : Room).cells ({ frames := 0, cells := 0, slots := 0, locals := 0 } : Room).slots) := by
  refine MetFree.of_bodySF (plainFor_of_name pn_0) hisR ?_
  intro p e s m args below meth c s₁ Bd hml0 hP hK
  obtain ⟨rfl, hZ, hh⟩ := hP
  have hx := Bd.exec
  have hby := Bd.bytes
  have hml : c.maxLocals = 1 := hml0
  have hown : s.vm.findClass "com/example/prefixwood/prefixwood/huffman/TwoQueues" = some m.cls := findClass_of_methodNamed Bd.named
  have hnm := (name_of_methodNamed Bd.named Bd.method).1
  have hlk : meth.locks = false := BodyLoose.notSynchronized Bd
  have X0 : Stand p l e ({ frames := 0, cells := 0, slots := 0, locals := 0 } : Room) s m #[(.ref a1)] below meth c s₁ [] 0 0 := Stand.of_body Bd
  have e0 : s₁.heap = h0 := by rw [← hh, Bd.state]; rfl
  have N0 := Fr.nil n0
  have K0 := Keep.refl h0 [a1]
  show Go p e below s ({ frames := 0, cells := 0, slots := 0, locals := 0 } : Room).cells ({ frames := 0, cells := 0, slots := 0, locals := 0 } : Room).slots (Q6D Z a1 aW aS aM w0 w1 w2 x0 x1 x2 m0 m1 h0 n0) s₁ (entryFrame m #[(.ref a1)] 1)
  rw [ef_rm6D m a1]
  refine g_aloadN 1 X0 hx (hb hby d6_0) rfl (v := (.ref a1)) rfl rfl ?_
  refine g_getF 4 X0 hx hZ hown (hw _ (List.mem_of_getElem? (i := 33) rfl)) Via.refl e0 F_nextMerged (hb hby d6_1) rfl ?_
  intro T1 X1 e1
  refine g_aloadN 5 X1 hx (hb hby d6_4) rfl (v := (.ref a1)) rfl rfl ?_
  refine g_getF 8 X1 hx hZ hown (hw _ (List.mem_of_getElem? (i := 35) rfl)) Via.refl e1 F_merged (hb hby d6_5) rfl ?_
  intro T2 X2 e2
  refine g_icmpNo 11 X2 hx (hb hby d6_8)  (feq (by decide : ¬ ((0 : Int32) = (1 : Int32)))).1 rfl ?_
  refine g_aloadN 12 X2 hx (hb hby d6_11) rfl (v := (.ref a1)) rfl rfl ?_
  refine g_getF 15 X2 hx hZ hown (hw _ (List.mem_of_getElem? (i := 37) rfl)) Via.refl e2 F_nextSymbol (hb hby d6_12) rfl ?_
  intro T3 X3 e3
  refine g_aloadN 16 X3 hx (hb hby d6_15) rfl (v := (.ref a1)) rfl rfl ?_
  refine g_getF 19 X3 hx hZ hown (hw _ (List.mem_of_getElem? (i := 20) rfl)) Via.refl e3 F_symbols (hb hby d6_16) rfl ?_
  intro T4 X4 e4
  refine g_arraylengthI 20 X4 hx hZ e4 A_aS (z := (3 : Int32)) rfl (hb hby d6_19) rfl ?_
  refine g_icmpNo 23 X4 hx (hb hby d6_20)  (tlt (by decide : (2 : Int32) < (3 : Int32))).2.1 rfl ?_
  refine g_aloadN 24 X4 hx (hb hby d6_23) rfl (v := (.ref a1)) rfl rfl ?_
  refine g_getF 27 X4 hx hZ hown (hw _ (List.mem_of_getElem? (i := 11) rfl)) Via.refl e4 F_weights (hb hby d6_24) rfl ?_
  intro T5 X5 e5
  refine g_aloadN 28 X5 hx (hb hby d6_27) rfl (v := (.ref a1)) rfl rfl ?_
  refine g_getF 31 X5 hx hZ hown (hw _ (List.mem_of_getElem? (i := 20) rfl)) Via.refl e5 F_symbols (hb hby d6_28) rfl ?_
  intro T6 X6 e6
  refine g_aloadN 32 X6 hx (hb hby d6_31) rfl (v := (.ref a1)) rfl rfl ?_
  refine g_getF 35 X6 hx hZ hown (hw _ (List.mem_of_getElem? (i := 37) rfl)) Via.refl e6 F_nextSymbol (hb hby d6_32) rfl ?_
  intro T7 X7 e7
  refine g_iaload 36 X7 hx hZ e7 A_aS 2 (by decide) rfl (z := x2) rfl (hb hby d6_35) rfl ?_
  refine g_laload 37 X7 hx hZ e7 A_aW (x2.toInt.toNat) (own_nat0 hB.1) rfl (z := (([w0, w1, w2] : List Int64).getD x2.toInt.toNat 0)) (own_getJ (by have q := hB; show _ < 3; omega)) (hb hby d6_36) rfl ?_
  refine g_aloadN 38 X7 hx (hb hby d6_37) rfl (v := (.ref a1)) rfl rfl ?_
  refine g_getF 41 X7 hx hZ hown (hw _ (List.mem_of_getElem? (i := 26) rfl)) Via.refl e7 F_mergedWeights (hb hby d6_38) rfl ?_
  intro T8 X8 e8
  refine g_aloadN 42 X8 hx (hb hby d6_41) rfl (v := (.ref a1)) rfl rfl ?_
  refine g_getF 45 X8 hx hZ hown (hw _ (List.mem_of_getElem? (i := 33) rfl)) Via.refl e8 F_nextMerged (hb hby d6_42) rfl ?_
  intro T9 X9 e9
  refine g_laload 46 X9 hx hZ e9 A_aM 0 (by decide) rfl (z := m0) rfl (hb hby d6_45) rfl ?_
  have hc46_9 : m0 < (([w0, w1, w2] : List Int64).getD x2.toInt.toNat 0) := hS
  refine g_lcmpYes 67 X9 hx (hb hby d6_46) rfl (hb hby d6_47) (tltL hc46_9).2.2.1 (by decide) (by decide) ?_
  refine g_aloadN 68 X9 hx (hb hby d6_67) rfl (v := (.ref a1)) rfl rfl ?_
  refine g_getF 71 X9 hx hZ hown (hw _ (List.mem_of_getElem? (i := 20) rfl)) Via.refl e9 F_symbols (hb hby d6_68) rfl ?_
  intro T11 X11 e11
  refine g_arraylengthI 72 X11 hx hZ e11 A_aS (z := (3 : Int32)) rfl (hb hby d6_71) rfl ?_
  refine g_aloadN 73 X11 hx (hb hby d6_72) rfl (v := (.ref a1)) rfl rfl ?_
  refine g_dup 74 X11 hx (hb hby d6_73) rfl rfl ?_
  refine g_getF 77 X11 hx hZ hown (hw _ (List.mem_of_getElem? (i := 33) rfl)) Via.refl e11 F_nextMerged (hb hby d6_74) rfl ?_
  intro T12 X12 e12
  refine g_dup_x1 78 X12 hx (hb hby d6_77) rfl rfl rfl ?_
  refine g_iconst 79 X12 hx (hb hby d6_78) rfl (z := (1 : Int32)) rfl ?_
  refine g_iadd 80 X12 hx (hb hby d6_79) rfl (z := (1 : Int32)) (by decide) ?_
  refine g_putF 83 X12 hx hZ hown (hw _ (List.mem_of_getElem? (i := 33) rfl)) Via.refl e12 F_nextMerged E_a1 (Or.inl (hw _ (List.mem_of_getElem? (i := 34) rfl))) (hw _ (List.mem_of_getElem? (i := 3) rfl)) (ty := .int) (by decide) rfl rfl (hb hby d6_80) rfl ?_
  intro T13 h13 X13 e13 W13
  have f14 := E_a1.wr W13
  have f15 := F_weights.other W13 (Or.inr (slot_ne (Or.inr (hw _ (List.mem_of_getElem? (i := 12) rfl))) (Or.inl (hw _ (List.mem_of_getElem? (i := 34) rfl))) (by decide) (t := (.array .long)) (t' := .int) (by decide) (by decide)))
  have f16 := F_symbols.other W13 (Or.inr (slot_ne (Or.inr (hw _ (List.mem_of_getElem? (i := 21) rfl))) (Or.inl (hw _ (List.mem_of_getElem? (i := 34) rfl))) (by decide) (t := (.array .int)) (t' := .int) (by decide) (by decide)))
  have f17 := F_mergedWeights.other W13 (Or.inr (slot_ne (Or.inr (hw _ (List.mem_of_getElem? (i := 27) rfl))) (Or.inl (hw _ (List.mem_of_getElem? (i := 34) rfl))) (by decide) (t := (.array .long)) (t' := .int) (by decide) (by decide)))
  have f18 := F_merged.other W13 (Or.inr (slot_ne (Or.inl (hw _ (List.mem_of_getElem? (i := 36) rfl))) (Or.inl (hw _ (List.mem_of_getElem? (i := 34) rfl))) (by decide) (t := .int) (t' := .int) (by decide) (by decide)))
  have f19 := F_nextSymbol.other W13 (Or.inr (slot_ne (Or.inl (hw _ (List.mem_of_getElem? (i := 38) rfl))) (Or.inl (hw _ (List.mem_of_getElem? (i := 34) rfl))) (by decide) (t := .int) (t' := .int) (by decide) (by decide)))
  have f20 := A_aW.other W13 (Ne.symm ne_a1_aW)
  have f21 := A_aS.other W13 (Ne.symm ne_a1_aS)
  have f22 := A_aM.other W13 (Ne.symm ne_a1_aM)
  have Zs23 : n0 ≤ h13.size := (Nat.le_trans Z0 (Keep.of_wr W13).1)
  have K24 : Keep h0 h13 [a1] := K0.wr W13 (Or.inl (List.mem_of_getElem? (i := 0) rfl))
  have f25 := F_nextMerged.same W13
  have N26 := Fr.snoc X13 N0 g_a1
  refine g_iadd 84 X13 hx (hb hby d6_83) rfl (z := (3 : Int32)) (by decide) ?_
  exact g_retI X13 hx Bd.returns hlk (hb hby d6_84) (by decide) (by decide) (by
      show Q6D Z a1 aW aS aM w0 w1 w2 x0 x1 x2 m0 m1 h0 n0 _ T13.heap _
      rw [e13]
      exact ⟨rfl, N26, K24, f14, f15, f16, f17, f25, f18, f19⟩)
theorem d7_0 : decode prog_51_method_2_code 0 = .ok (.aload_n 0, 1) := by decide +kernel
theorem d7_1 : decode prog_51_method_2_code 1 = .ok (.getfield 27, 3) := by decide +kernel
theorem d7_4 : decode prog_51_method_2_code 4 = .ok (.aload_n 0, 1) := by decide +kernel
theorem d7_5 : decode prog_51_method_2_code 5 = .ok (.dup, 1) := by decide +kernel
theorem d7_6 : decode prog_51_method_2_code 6 = .ok (.getfield 30, 3) := by decide +kernel
theorem d7_9 : decode prog_51_method_2_code 9 = .ok (.dup_x1, 1) := by decide +kernel
theorem d7_10 : decode prog_51_method_2_code 10 = .ok (.iconst 1, 1) := by decide +kernel
theorem d7_11 : decode prog_51_method_2_code 11 = .ok (.iadd, 1) := by decide +kernel
theorem d7_12 : decode prog_51_method_2_code 12 = .ok (.putfield 30, 3) := by decide +kernel
theorem d7_15 : decode prog_51_method_2_code 15 = .ok (.lload_n 2, 1) := by decide +kernel
theorem d7_16 : decode prog_51_method_2_code 16 = .ok (.lastore, 1) := by decide +kernel
theorem d7_17 : decode prog_51_method_2_code 17 = .ok (.return_, 1) := by decide +kernel
def Q7A (Z : State) (a1 : Addr) (p2 : Int32) (q3 : Int64) (p4 : Int32) (aW aS aM : Addr) (w0 w1 w2 : Int64) (x0 x1 x2 : Int32) (m0 m1 : Int64) (h0 : Heap) (n0 : Nat) (v : Option Value) (h : Heap) (L : List Loc) : Prop := v = none ∧ Fr n0 L ∧ Keep h0 h [a1, aM] ∧ Exa Z h a1 "com/example/prefixwood/prefixwood/huffman/TwoQueues" ∧ Fld Z h a1 "com/example/prefixwood/prefixwood/huffman/TwoQueues" "weights" "[J" (.ref aW) ∧ Fld Z h a1 "com/example/prefixwood/prefixwood/huffman/TwoQueues" "symbols" "[I" (.ref aS) ∧ Fld Z h a1 "com/example/prefixwood/prefixwood/huffman/TwoQueues" "mergedWeights" "[J" (.ref aM) ∧ Fld Z h a1 "com/example/prefixwood/prefixwood/huffman/TwoQueues" "nextMerged" "I" (.int (0 : Int32)) ∧ Fld Z h a1 "com/example/prefixwood/prefixwood/huffman/TwoQueues" "merged" "I" (.int (1 : Int32)) ∧ Fld Z h a1 "com/example/prefixwood/prefixwood/huffman/TwoQueues" "nextSymbol" "I" (.int (2 : Int32)) ∧ AJ Z h aM [q3, m1]
theorem ef_rm7A (m : MethodId) (a1 : Addr) (p2 : Int32) (q3 : Int64) (p4 : Int32) : entryFrame m #[(.ref a1), (.int p2), (.long q3), (.int p4)] 5 = mkF m 0 #[.val (.ref a1), .val (.int p2), .val (.long q3), .second, .val (.int p4)] [] := by first | (simp [entryFrame, mkF, argsToLocals, Value.category]; done) | rfl
set_option maxRecDepth 65536 in
set_option maxHeartbeats 40000000 in
theorem rm7A (l : Launch) (Z : State) (a0 : Array Value) (hw : ∀ d ∈ tables_1, d.before a0 Z = true) (ws : List Jvm.Cond) (a1 : Addr) (p2 : Int32) (q3 : Int64) (p4 : Int32) (aW aS aM : Addr) (w0 w1 w2 : Int64) (x0 x1 x2 : Int32) (m0 m1 : Int64) (h0 : Heap) (n0 : Nat) (Z0 : n0 ≤ h0.size) (E_a1 : Exa Z h0 a1 "com/example/prefixwood/prefixwood/huffman/TwoQueues") (F_weights : Fld Z h0 a1 "com/example/prefixwood/prefixwood/huffman/TwoQueues" "weights" "[J" (.ref aW)) (F_symbols : Fld Z h0 a1 "com/example/prefixwood/prefixwood/huffman/TwoQueues" "symbols" "[I" (.ref aS)) (F_mergedWeights : Fld Z h0 a1 "com/example/prefixwood/prefixwood/huffman/TwoQueues" "mergedWeights" "[J" (.ref aM)) (F_nextMerged : Fld Z h0 a1 "com/example/prefixwood/prefixwood/huffman/TwoQueues" "nextMerged" "I" (.int (0 : Int32))) (F_merged : Fld Z h0 a1 "com/example/prefixwood/prefixwood/huffman/TwoQueues" "merged" "I" (.int (0 : Int32))) (F_nextSymbol : Fld Z h0 a1 "com/example/prefixwood/prefixwood/huffman/TwoQueues" "nextSymbol" "I" (.int (2 : Int32))) (A_aW : AJ Z h0 aW [w0, w1, w2]) (A_aS : AI Z h0 aS .int [x0, x1, x2]) (A_aM : AJ Z h0 aM [m0, m1]) (g_a1 : n0 ≤ a1) (g_aM : n0 ≤ aM) (ne_a1_aW : a1 ≠ aW) (ne_a1_aS : a1 ≠ aS) (ne_a1_aM : a1 ≠ aM) (ne_aM_aW : aM ≠ aW) (ne_aM_aS : aM ≠ aS) :
    MetFree l (⟨"com/example/prefixwood/prefixwood/huffman/TwoQueues", "add", "(IJI)V"⟩ : MethodName) (head1 (Jvm.Cond.code (⟨"com/example/prefixwood/prefixwood/huffman/TwoQueues", "add", "(IJI)V"⟩ : MethodName) prog_51_method_2_code 5 none :: ws) ({ frames := 0, cells := 0, slots := 0, locals := 0 } : Room)) (fun a U => a = #[(.ref a1), (.int p2), (.long q3), (.int p4)] ∧ Z.Warmed39 U.vm ∧ U.heap = h0) (fun _ _ _ _ _ => True) (fun _ U o U' => ∃ v L, o = .returned v ∧ (Q7A Z a1 p2 q3 p4 aW aS aM w0 w1 w2 x0 x1 x2 m0 m1 h0 n0) v U'.heap L ∧ FrameEnd U o U' L ({ frames := 0, cells := 0, slots := 0, locals := 0 } : Room).cells ({ frames := 0, cells := 0, slots := 0, locals := 0 } : Room).slots) := by
  refine MetFree.of_bodySF (plainFor_of_name pn_0) hisR ?_
  intro p e s m args below meth c s₁ Bd hml0 hP hK
  obtain ⟨rfl, hZ, hh⟩ := hP
  have hx := Bd.exec
  have hby := Bd.bytes
  have hml : c.maxLocals = 5 := hml0
  have hown : s.vm.findClass "com/example/prefixwood/prefixwood/huffman/TwoQueues" = some m.cls := findClass_of_methodNamed Bd.named
  have hnm := (name_of_methodNamed Bd.named Bd.method).1
  have hlk : meth.locks = false := BodyLoose.notSynchronized Bd
  have X0 : Stand p l e ({ frames := 0, cells := 0, slots := 0, locals := 0 } : Room) s m #[(.ref a1), (.int p2), (.long q3), (.int p4)] below meth c s₁ [] 0 0 := Stand.of_body Bd
  have e0 : s₁.heap = h0 := by rw [← hh, Bd.state]; rfl
  have N0 := Fr.nil n0
  have K0 := Keep.refl h0 [a1, aM]
  show Go p e below s ({ frames := 0, cells := 0, slots := 0, locals := 0 } : Room).cells ({ frames := 0, cells := 0, slots := 0, locals := 0 } : Room).slots (Q7A Z a1 p2 q3 p4 aW aS aM w0 w1 w2 x0 x1 x2 m0 m1 h0 n0) s₁ (entryFrame m #[(.ref a1), (.int p2), (.long q3), (.int p4)] 5)
  rw [ef_rm7A m a1 p2 q3 p4]
  refine g_aloadN 1 X0 hx (hb hby d7_0) rfl (v := (.ref a1)) rfl rfl ?_
  refine g_getF 4 X0 hx hZ hown (hw _ (List.mem_of_getElem? (i := 26) rfl)) Via.refl e0 F_mergedWeights (hb hby d7_1) rfl ?_
  intro T1 X1 e1
  refine g_aloadN 5 X1 hx (hb hby d7_4) rfl (v := (.ref a1)) rfl rfl ?_
  refine g_dup 6 X1 hx (hb hby d7_5) rfl rfl ?_
  refine g_getF 9 X1 hx hZ hown (hw _ (List.mem_of_getElem? (i := 35) rfl)) Via.refl e1 F_merged (hb hby d7_6) rfl ?_
  intro T2 X2 e2
  refine g_dup_x1 10 X2 hx (hb hby d7_9) rfl rfl rfl ?_
  refine g_iconst 11 X2 hx (hb hby d7_10) rfl (z := (1 : Int32)) rfl ?_
  refine g_iadd 12 X2 hx (hb hby d7_11) rfl (z := (1 : Int32)) (by decide) ?_
  refine g_putF 15 X2 hx hZ hown (hw _ (List.mem_of_getElem? (i := 35) rfl)) Via.refl e2 F_merged E_a1 (Or.inl (hw _ (List.mem_of_getElem? (i := 36) rfl))) (hw _ (List.mem_of_getElem? (i := 3) rfl)) (ty := .int) (by decide) rfl rfl (hb hby d7_12) rfl ?_
  intro T3 h3 X3 e3 W3
  have f4 := E_a1.wr W3
  have f5 := F_weights.other W3 (Or.inr (slot_ne (Or.inr (hw _ (List.mem_of_getElem? (i := 12) rfl))) (Or.inl (hw _ (List.mem_of_getElem? (i := 36) rfl))) (by decide) (t := (.array .long)) (t' := .int) (by decide) (by decide)))
  have f6 := F_symbols.other W3 (Or.inr (slot_ne (Or.inr (hw _ (List.mem_of_getElem? (i := 21) rfl))) (Or.inl (hw _ (List.mem_of_getElem? (i := 36) rfl))) (by decide) (t := (.array .int)) (t' := .int) (by decide) (by decide)))
  have f7 := F_mergedWeights.other W3 (Or.inr (slot_ne (Or.inr (hw _ (List.mem_of_getElem? (i := 27) rfl))) (Or.inl (hw _ (List.mem_of_getElem? (i := 36) rfl))) (by decide) (t := (.array .long)) (t' := .int) (by decide) (by decide)))
  have f8 := F_nextMerged.other W3 (Or.inr (slot_ne (Or.inl (hw _ (List.mem_of_getElem? (i := 34) rfl))) (Or.inl (hw _ (List.mem_of_getElem? (i := 36) rfl))) (by decide) (t := .int) (t' := .int) (by decide) (by decide)))
  have f9 := F_nextSymbol.other W3 (Or.inr (slot_ne (Or.inl (hw _ (List.mem_of_getElem? (i := 38) rfl))) (Or.inl (hw _ (List.mem_of_getElem? (i := 36) rfl))) (by decide) (t := .int) (t' := .int) (by decide) (by decide)))
  have f10 := A_aW.other W3 (Ne.symm ne_a1_aW)
  have f11 := A_aS.other W3 (Ne.symm ne_a1_aS)
  have f12 := A_aM.other W3 (Ne.symm ne_a1_aM)
  have Zs13 : n0 ≤ h3.size := (Nat.le_trans Z0 (Keep.of_wr W3).1)
  have K14 : Keep h0 h3 [a1, aM] := K0.wr W3 (Or.inl (List.mem_of_getElem? (i := 0) rfl))
  have f15 := F_merged.same W3
  have N16 := Fr.snoc X3 N0 g_a1
  refine g_lloadN 16 X3 hx (hb hby d7_15) rfl (v := q3) rfl ?_
  refine g_lastore 17 X3 hx hZ e3 f12 0 (by decide) rfl (Nat.le_of_ble_eq_true rfl) (hb hby d7_16) rfl ?_
  intro T17 h17 X17 e17 W17 A17
  have f18 := f4.wr W17
  have f19 := f5.other W17 (Or.inl ne_a1_aM)
  have f20 := f6.other W17 (Or.inl ne_a1_aM)
  have f21 := f7.other W17 (Or.inl ne_a1_aM)
  have f22 := f8.other W17 (Or.inl ne_a1_aM)
  have f23 := f15.other W17 (Or.inl ne_a1_aM)
  have f24 := f9.other W17 (Or.inl ne_a1_aM)
  have f25 := f10.other W17 (Ne.symm ne_aM_aW)
  have f26 := f11.other W17 (Ne.symm ne_aM_aS)
  have Zs27 : n0 ≤ h17.size := (Nat.le_trans Zs13 (Keep.of_wr W17).1)
  have K28 : Keep h0 h17 [a1, aM] := K14.wr W17 (Or.inl (List.mem_of_getElem? (i := 1) rfl))
  have A17' : AJ Z h17 aM [q3, m1] := A17
  have N29 := Fr.snoc X17 N16 g_aM
  exact g_ret0 X17 hx Bd.returns hlk (hb hby d7_17) (by decide) (by decide) (by
      show Q7A Z a1 p2 q3 p4 aW aS aM w0 w1 w2 x0 x1 x2 m0 m1 h0 n0 _ T17.heap _
      rw [e17]
      exact ⟨rfl, N29, K28, f18, f19, f20, f21, f22, f23, f24, A17'⟩)
def Q7B (Z : State) (a1 : Addr) (p2 : Int32) (q3 : Int64) (p4 : Int32) (aW aS aM : Addr) (w0 w1 w2 : Int64) (x0 x1 x2 : Int32) (m0 m1 : Int64) (h0 : Heap) (n0 : Nat) (v : Option Value) (h : Heap) (L : List Loc) : Prop := v = none ∧ Fr n0 L ∧ Keep h0 h [a1, aM] ∧ Exa Z h a1 "com/example/prefixwood/prefixwood/huffman/TwoQueues" ∧ Fld Z h a1 "com/example/prefixwood/prefixwood/huffman/TwoQueues" "weights" "[J" (.ref aW) ∧ Fld Z h a1 "com/example/prefixwood/prefixwood/huffman/TwoQueues" "symbols" "[I" (.ref aS) ∧ Fld Z h a1 "com/example/prefixwood/prefixwood/huffman/TwoQueues" "mergedWeights" "[J" (.ref aM) ∧ Fld Z h a1 "com/example/prefixwood/prefixwood/huffman/TwoQueues" "nextMerged" "I" (.int (1 : Int32)) ∧ Fld Z h a1 "com/example/prefixwood/prefixwood/huffman/TwoQueues" "merged" "I" (.int (2 : Int32)) ∧ Fld Z h a1 "com/example/prefixwood/prefixwood/huffman/TwoQueues" "nextSymbol" "I" (.int (3 : Int32)) ∧ AJ Z h aM [m0, q3]
theorem ef_rm7B (m : MethodId) (a1 : Addr) (p2 : Int32) (q3 : Int64) (p4 : Int32) : entryFrame m #[(.ref a1), (.int p2), (.long q3), (.int p4)] 5 = mkF m 0 #[.val (.ref a1), .val (.int p2), .val (.long q3), .second, .val (.int p4)] [] := by first | (simp [entryFrame, mkF, argsToLocals, Value.category]; done) | rfl
set_option maxRecDepth 65536 in
set_option maxHeartbeats 40000000 in
theorem rm7B (l : Launch) (Z : State) (a0 : Array Value) (hw : ∀ d ∈ tables_1, d.before a0 Z = true) (ws : List Jvm.Cond) (a1 : Addr) (p2 : Int32) (q3 : Int64) (p4 : Int32) (aW aS aM : Addr) (w0 w1 w2 : Int64) (x0 x1 x2 : Int32) (m0 m1 : Int64) (h0 : Heap) (n0 : Nat) (Z0 : n0 ≤ h0.size) (E_a1 : Exa Z h0 a1 "com/example/prefixwood/prefixwood/huffman/TwoQueues") (F_weights : Fld Z h0 a1 "com/example/prefixwood/prefixwood/huffman/TwoQueues" "weights" "[J" (.ref aW)) (F_symbols : Fld Z h0 a1 "com/example/prefixwood/prefixwood/huffman/TwoQueues" "symbols" "[I" (.ref aS)) (F_mergedWeights : Fld Z h0 a1 "com/example/prefixwood/prefixwood/huffman/TwoQueues" "mergedWeights" "[J" (.ref aM)) (F_nextMerged : Fld Z h0 a1 "com/example/prefixwood/prefixwood/huffman/TwoQueues" "nextMerged" "I" (.int (1 : Int32))) (F_merged : Fld Z h0 a1 "com/example/prefixwood/prefixwood/huffman/TwoQueues" "merged" "I" (.int (1 : Int32))) (F_nextSymbol : Fld Z h0 a1 "com/example/prefixwood/prefixwood/huffman/TwoQueues" "nextSymbol" "I" (.int (3 : Int32))) (A_aW : AJ Z h0 aW [w0, w1, w2]) (A_aS : AI Z h0 aS .int [x0, x1, x2]) (A_aM : AJ Z h0 aM [m0, m1]) (g_a1 : n0 ≤ a1) (g_aM : n0 ≤ aM) (ne_a1_aW : a1 ≠ aW) (ne_a1_aS : a1 ≠ aS) (ne_a1_aM : a1 ≠ aM) (ne_aM_aW : aM ≠ aW) (ne_aM_aS : aM ≠ aS) :
    MetFree l (⟨"com/example/prefixwood/prefixwood/huffman/TwoQueues", "add", "(IJI)V"⟩ : MethodName) (head1 (Jvm.Cond.code (⟨"com/example/prefixwood/prefixwood/huffman/TwoQueues", "add", "(IJI)V"⟩ : MethodName) prog_51_method_2_code 5 none :: ws) ({ frames := 0, cells := 0, slots := 0, locals := 0 } : Room)) (fun a U => a = #[(.ref a1), (.int p2), (.long q3), (.int p4)] ∧ Z.Warmed39 U.vm ∧ U.heap = h0) (fun _ _ _ _ _ => True) (fun _ U o U' => ∃ v L, o = .returned v ∧ (Q7B Z a1 p2 q3 p4 aW aS aM w0 w1 w2 x0 x1 x2 m0 m1 h0 n0) v U'.heap L ∧ FrameEnd U o U' L ({ frames := 0, cells := 0, slots := 0, locals := 0 } : Room).cells ({ frames := 0, cells := 0, slots := 0, locals := 0 } : Room).slots) := by
  refine MetFree.of_bodySF (plainFor_of_name pn_0) hisR ?_
  intro p e s m args below meth c s₁ Bd hml0 hP hK
  obtain ⟨rfl, hZ, hh⟩ := hP
  have hx := Bd.exec
  have hby := Bd.bytes
  have hml : c.maxLocals = 5 := hml0
  have hown : s.vm.findClass "com/example/prefixwood/prefixwood/huffman/TwoQueues" = some m.cls := findClass_of_methodNamed Bd.named
  have hnm := (name_of_methodNamed Bd.named Bd.method).1
  have hlk : meth.locks = false := BodyLoose.notSynchronized Bd
  have X0 : Stand p l e ({ frames := 0, cells := 0, slots := 0, locals := 0 } : Room) s m #[(.ref a1), (.int p2), (.long q3), (.int p4)] below meth c s₁ [] 0 0 := Stand.of_body Bd
  have e0 : s₁.heap = h0 := by rw [← hh, Bd.state]; rfl
  have N0 := Fr.nil n0
  have K0 := Keep.refl h0 [a1, aM]
  show Go p e below s ({ frames := 0, cells := 0, slots := 0, locals := 0 } : Room).cells ({ frames := 0, cells := 0, slots := 0, locals := 0 } : Room).slots (Q7B Z a1 p2 q3 p4 aW aS aM w0 w1 w2 x0 x1 x2 m0 m1 h0 n0) s₁ (entryFrame m #[(.ref a1), (.int p2), (.long q3), (.int p4)] 5)
  rw [ef_rm7B m a1 p2 q3 p4]
  refine g_aloadN 1 X0 hx (hb hby d7_0) rfl (v := (.ref a1)) rfl rfl ?_
  refine g_getF 4 X0 hx hZ hown (hw _ (List.mem_of_getElem? (i := 26) rfl)) Via.refl e0 F_mergedWeights (hb hby d7_1) rfl ?_
  intro T1 X1 e1
  refine g_aloadN 5 X1 hx (hb hby d7_4) rfl (v := (.ref a1)) rfl rfl ?_
  refine g_dup 6 X1 hx (hb hby d7_5) rfl rfl ?_
  refine g_getF 9 X1 hx hZ hown (hw _ (List.mem_of_getElem? (i := 35) rfl)) Via.refl e1 F_merged (hb hby d7_6) rfl ?_
  intro T2 X2 e2
  refine g_dup_x1 10 X2 hx (hb hby d7_9) rfl rfl rfl ?_
  refine g_iconst 11 X2 hx (hb hby d7_10) rfl (z := (1 : Int32)) rfl ?_
  refine g_iadd 12 X2 hx (hb hby d7_11) rfl (z := (2 : Int32)) (by decide) ?_
  refine g_putF 15 X2 hx hZ hown (hw _ (List.mem_of_getElem? (i := 35) rfl)) Via.refl e2 F_merged E_a1 (Or.inl (hw _ (List.mem_of_getElem? (i := 36) rfl))) (hw _ (List.mem_of_getElem? (i := 3) rfl)) (ty := .int) (by decide) rfl rfl (hb hby d7_12) rfl ?_
  intro T3 h3 X3 e3 W3
  have f4 := E_a1.wr W3
  have f5 := F_weights.other W3 (Or.inr (slot_ne (Or.inr (hw _ (List.mem_of_getElem? (i := 12) rfl))) (Or.inl (hw _ (List.mem_of_getElem? (i := 36) rfl))) (by decide) (t := (.array .long)) (t' := .int) (by decide) (by decide)))
  have f6 := F_symbols.other W3 (Or.inr (slot_ne (Or.inr (hw _ (List.mem_of_getElem? (i := 21) rfl))) (Or.inl (hw _ (List.mem_of_getElem? (i := 36) rfl))) (by decide) (t := (.array .int)) (t' := .int) (by decide) (by decide)))
  have f7 := F_mergedWeights.other W3 (Or.inr (slot_ne (Or.inr (hw _ (List.mem_of_getElem? (i := 27) rfl))) (Or.inl (hw _ (List.mem_of_getElem? (i := 36) rfl))) (by decide) (t := (.array .long)) (t' := .int) (by decide) (by decide)))
  have f8 := F_nextMerged.other W3 (Or.inr (slot_ne (Or.inl (hw _ (List.mem_of_getElem? (i := 34) rfl))) (Or.inl (hw _ (List.mem_of_getElem? (i := 36) rfl))) (by decide) (t := .int) (t' := .int) (by decide) (by decide)))
  have f9 := F_nextSymbol.other W3 (Or.inr (slot_ne (Or.inl (hw _ (List.mem_of_getElem? (i := 38) rfl))) (Or.inl (hw _ (List.mem_of_getElem? (i := 36) rfl))) (by decide) (t := .int) (t' := .int) (by decide) (by decide)))
  have f10 := A_aW.other W3 (Ne.symm ne_a1_aW)
  have f11 := A_aS.other W3 (Ne.symm ne_a1_aS)
  have f12 := A_aM.other W3 (Ne.symm ne_a1_aM)
  have Zs13 : n0 ≤ h3.size := (Nat.le_trans Z0 (Keep.of_wr W3).1)
  have K14 : Keep h0 h3 [a1, aM] := K0.wr W3 (Or.inl (List.mem_of_getElem? (i := 0) rfl))
  have f15 := F_merged.same W3
  have N16 := Fr.snoc X3 N0 g_a1
  refine g_lloadN 16 X3 hx (hb hby d7_15) rfl (v := q3) rfl ?_
  refine g_lastore 17 X3 hx hZ e3 f12 1 (by decide) rfl (Nat.le_of_ble_eq_true rfl) (hb hby d7_16) rfl ?_
  intro T17 h17 X17 e17 W17 A17
  have f18 := f4.wr W17
  have f19 := f5.other W17 (Or.inl ne_a1_aM)
  have f20 := f6.other W17 (Or.inl ne_a1_aM)
  have f21 := f7.other W17 (Or.inl ne_a1_aM)
  have f22 := f8.other W17 (Or.inl ne_a1_aM)
  have f23 := f15.other W17 (Or.inl ne_a1_aM)
  have f24 := f9.other W17 (Or.inl ne_a1_aM)
  have f25 := f10.other W17 (Ne.symm ne_aM_aW)
  have f26 := f11.other W17 (Ne.symm ne_aM_aS)
  have Zs27 : n0 ≤ h17.size := (Nat.le_trans Zs13 (Keep.of_wr W17).1)
  have K28 : Keep h0 h17 [a1, aM] := K14.wr W17 (Or.inl (List.mem_of_getElem? (i := 1) rfl))
  have A17' : AJ Z h17 aM [m0, q3] := A17
  have N29 := Fr.snoc X17 N16 g_aM
  exact g_ret0 X17 hx Bd.returns hlk (hb hby d7_17) (by decide) (by decide) (by
      show Q7B Z a1 p2 q3 p4 aW aS aM w0 w1 w2 x0 x1 x2 m0 m1 h0 n0 _ T17.heap _
      rw [e17]
      exact ⟨rfl, N29, K28, f18, f19, f20, f21, f22, f23, f24, A17'⟩)
theorem own_fA (a b : Int64) (z y : Int32) (ha : 0 ≤ a.toInt) (hb : 0 ≤ b.toInt) (h1 : (b < a ∧ z = (0 : Int32)) ∨ (¬ (b < a) ∧ z = (1 : Int32))) (h2 : (z = (0 : Int32) ∧ y = (1 : Int32)) ∨ (¬ (z = (0 : Int32)) ∧ y = (0 : Int32))) : y.toInt = ((own_i (¬ a.toInt.toNat ≤ b.toInt.toNat) : Nat) : Int) := by
  rcases h1 with ⟨p, rfl⟩ | ⟨p, rfl⟩ <;> rcases h2 with ⟨q, rfl⟩ | ⟨q, rfl⟩
  · refine Eq.trans (by decide : (1 : Int32).toInt = ((1 : Nat) : Int)) ?_; rw [own_i1 (by have := Int64.lt_iff_toInt_lt.mp p; omega)]
  · exact absurd rfl q
  · exact absurd q (by decide)
  · refine Eq.trans (by decide : (0 : Int32).toInt = ((0 : Nat) : Int)) ?_; rw [own_i0 (by have := mt Int64.lt_iff_toInt_lt.mpr p; omega)]
theorem own_fB (a b : Int64) (z y : Int32) (ha : 0 ≤ a.toInt) (hb : 0 ≤ b.toInt) (h1 : (b < a ∧ z = (0 : Int32)) ∨ (¬ (b < a) ∧ z = (1 : Int32))) (h2 : (z = (0 : Int32) ∧ y = (0 : Int32)) ∨ (¬ (z = (0 : Int32)) ∧ y = (1 : Int32))) : y.toInt = ((own_i (a.toInt.toNat ≤ b.toInt.toNat) : Nat) : Int) := by
  rcases h1 with ⟨p, rfl⟩ | ⟨p, rfl⟩ <;> rcases h2 with ⟨q, rfl⟩ | ⟨q, rfl⟩
  · refine Eq.trans (by decide : (0 : Int32).toInt = ((0 : Nat) : Int)) ?_; rw [own_i0 (by have := Int64.lt_iff_toInt_lt.mp p; omega)]
  · exact absurd rfl q
  · exact absurd q (by decide)
  · refine Eq.trans (by decide : (1 : Int32).toInt = ((1 : Nat) : Int)) ?_; rw [own_i1 (by have := mt Int64.lt_iff_toInt_lt.mpr p; omega)]
theorem own_i2 (p q : Prop) [Decidable p] [Decidable q] : own_i p + own_i q < 3 := by
  have a := own_ile p; have b := own_ile q; omega
theorem own_iN {z : Int32} {n : Nat} (h : z.toInt = (n : Int)) : ¬ z < 0 ∧ z.toNatClampNeg = n := by
  refine ⟨own_nat0 (by omega), ?_⟩
  show (Int32.toInt _).toNat = _
  rw [h]; rfl
theorem own_wm (x z1 z2 : Int64) (h1 : x &&& (1152921504606846975 : Int64) = z1) (h2 : z1 + (1 : Int64) = z2) : 0 ≤ z2.toInt := by
  subst h1; subst h2
  have a : (x &&& (1152921504606846975 : Int64)).toInt = ((x.toBitVec &&& 1152921504606846975#64).toInt) := rfl
  have b : (x.toBitVec &&& 1152921504606846975#64).toNat ≤ 1152921504606846975 := by rw [BitVec.toNat_and]; exact Nat.and_le_right
  rw [BitVec.toInt_eq_toNat_cond] at a
  have c := c_ladd (x &&& (1152921504606846975 : Int64)) (1 : Int64)
  have d := rng64 ((x &&& (1152921504606846975 : Int64)) + (1 : Int64))
  simp only [Int64.reduceToInt] at c
  split at a <;> omega

theorem pd_3 : parseMethodDescriptor "([J)V" = some ⟨[(.array .long)], none⟩ := by decide +kernel
theorem pd_4 : parseMethodDescriptor "()I" = some ⟨[], some .int⟩ := by decide +kernel
theorem pd_5 : parseMethodDescriptor "(IJI)V" = some ⟨[.int, .long, .int], none⟩ := by decide +kernel
def Q0 (Z : State) (q1 : Int64) (q2 : Int64) (q3 : Int64) (h0 : Heap) (n0 : Nat) (v : Option Value) (h : Heap) (L : List Loc) : Prop := v = some (.int (1 : Int32)) ∧ Fr n0 L
theorem pn_1 : plainName "com/example/prefixwood/prefixwood/huffman/TwoQueuesPollPinLaw" = true := by first | (simp [plainName, overriddenIn]; done) | decide +kernel
theorem ef_rm0 (m : MethodId) (q1 : Int64) (q2 : Int64) (q3 : Int64) : entryFrame m #[(.long q1), (.long q2), (.long q3)] maxLocals = mkF m 0 #[.val (.long q1), .second, .val (.long q2), .second, .val (.long q3), .second, .unset, .unset, .unset, .unset, .unset, .unset, .unset, .unset, .unset, .unset, .unset, .unset, .unset, .unset, .unset, .unset, .unset, .unset, .unset, .unset, .unset, .unset, .unset, .unset] [] := by first | (simp [entryFrame, mkF, argsToLocals, Value.category, maxLocals]; done) | rfl
set_option maxRecDepth 65536 in
set_option maxHeartbeats 40000000 in
theorem rm0 (l : Launch) (Z : State) (a0 : Array Value) (hw : ∀ d ∈ tables_1, d.before a0 Z = true) (ws : List Jvm.Cond) (q1 : Int64) (q2 : Int64) (q3 : Int64) (h0 : Heap) (n0 : Nat) (Z0 : n0 ≤ h0.size)  :
    MetFree l x (head1 (Jvm.Cond.code x code maxLocals ret :: ws) room_1) (fun a U => a = #[(.long q1), (.long q2), (.long q3)] ∧ Z.Warmed39 U.vm ∧ U.heap = h0) (fun _ _ _ _ _ => True) (fun _ U o U' => ∃ v L, o = .returned v ∧ (Q0 Z q1 q2 q3 h0 n0) v U'.heap L ∧ FrameEnd U o U' L 40 4224) := by
  refine MetFree.of_bodySF (plainFor_of_name pn_1) hisR ?_
  intro p e s m args below meth c s₁ Bd hml0 hP hK
  obtain ⟨rfl, hZ, hh⟩ := hP
  have hx := Bd.exec
  have hby := Bd.bytes
  have hml : c.maxLocals = 30 := hml0
  have hown : s.vm.findClass "com/example/prefixwood/prefixwood/huffman/TwoQueuesPollPinLaw" = some m.cls := findClass_of_methodNamed Bd.named
  have hnm := (name_of_methodNamed Bd.named Bd.method).1
  have hlk : meth.locks = false := BodyLoose.notSynchronized Bd
  have X0 : Stand p l e room_1 s m #[(.long q1), (.long q2), (.long q3)] below meth c s₁ [] 0 0 := Stand.of_body Bd
  have e0 : s₁.heap = h0 := by rw [← hh, Bd.state]; rfl
  have N0 := Fr.nil n0
  show Go p e below s 40 4224 (Q0 Z q1 q2 q3 h0 n0) s₁ (entryFrame m #[(.long q1), (.long q2), (.long q3)] maxLocals)
  rw [ef_rm0 m q1 q2 q3]
  refine g_lloadN 1 X0 hx (hb hby at_0) rfl (v := q1) rfl ?_
  refine g_ldc2 4 X0 hx hZ hown (hw _ (List.mem_of_getElem? (i := 0) rfl)) (hb hby at_1) rfl ?_
  obtain ⟨z1, hz1⟩ : ∃ z : Int64, q1 &&& (1152921504606846975 : Int64) = z := ⟨_, rfl⟩
  refine g_land 5 X0 hx (hb hby at_4) rfl (z := z1) hz1 ?_
  refine g_lconst 6 X0 hx (hb hby at_5) rfl (z := (1 : Int64)) rfl ?_
  obtain ⟨z2, hz2⟩ : ∃ z : Int64, z1 + (1 : Int64) = z := ⟨_, rfl⟩
  refine g_ladd 7 X0 hx (hb hby at_6) rfl (z := z2) hz2 ?_
  refine g_lstore 9 X0 hx (hb hby at_7) rfl (Ls' := #[.val (.long q1), .second, .val (.long q2), .second, .val (.long q3), .second, .val (.long z2), .second, .unset, .unset, .unset, .unset, .unset, .unset, .unset, .unset, .unset, .unset, .unset, .unset, .unset, .unset, .unset, .unset, .unset, .unset, .unset, .unset, .unset, .unset]) rfl ?_
  refine g_lloadN 10 X0 hx (hb hby at_9) rfl (v := q2) rfl ?_
  refine g_ldc2 13 X0 hx hZ hown (hw _ (List.mem_of_getElem? (i := 0) rfl)) (hb hby at_10) rfl ?_
  obtain ⟨z3, hz3⟩ : ∃ z : Int64, q2 &&& (1152921504606846975 : Int64) = z := ⟨_, rfl⟩
  refine g_land 14 X0 hx (hb hby at_13) rfl (z := z3) hz3 ?_
  refine g_lconst 15 X0 hx (hb hby at_14) rfl (z := (1 : Int64)) rfl ?_
  obtain ⟨z4, hz4⟩ : ∃ z : Int64, z3 + (1 : Int64) = z := ⟨_, rfl⟩
  refine g_ladd 16 X0 hx (hb hby at_15) rfl (z := z4) hz4 ?_
  refine g_lstore 18 X0 hx (hb hby at_16) rfl (Ls' := #[.val (.long q1), .second, .val (.long q2), .second, .val (.long q3), .second, .val (.long z2), .second, .val (.long z4), .second, .unset, .unset, .unset, .unset, .unset, .unset, .unset, .unset, .unset, .unset, .unset, .unset, .unset, .unset, .unset, .unset, .unset, .unset, .unset, .unset]) rfl ?_
  refine g_lload 20 X0 hx (hb hby at_18) rfl (v := q3) rfl ?_
  refine g_ldc2 23 X0 hx hZ hown (hw _ (List.mem_of_getElem? (i := 0) rfl)) (hb hby at_20) rfl ?_
  obtain ⟨z5, hz5⟩ : ∃ z : Int64, q3 &&& (1152921504606846975 : Int64) = z := ⟨_, rfl⟩
  refine g_land 24 X0 hx (hb hby at_23) rfl (z := z5) hz5 ?_
  refine g_lconst 25 X0 hx (hb hby at_24) rfl (z := (1 : Int64)) rfl ?_
  obtain ⟨z6, hz6⟩ : ∃ z : Int64, z5 + (1 : Int64) = z := ⟨_, rfl⟩
  refine g_ladd 26 X0 hx (hb hby at_25) rfl (z := z6) hz6 ?_
  refine g_lstore 28 X0 hx (hb hby at_26) rfl (Ls' := #[.val (.long q1), .second, .val (.long q2), .second, .val (.long q3), .second, .val (.long z2), .second, .val (.long z4), .second, .val (.long z6), .second, .unset, .unset, .unset, .unset, .unset, .unset, .unset, .unset, .unset, .unset, .unset, .unset, .unset, .unset, .unset, .unset, .unset, .unset]) rfl ?_
  have hW0 := own_wm q1 z1 z2 hz1 hz2
  have hW1 := own_wm q2 z3 z4 hz3 hz4
  have hW2 := own_wm q3 z5 z6 hz5 hz6
  refine g_iconst 29 X0 hx (hb hby at_28) rfl (z := (3 : Int32)) rfl ?_
  refine g_new_long 31 X0 hx hZ (hw _ (List.mem_of_getElem? (i := 1) rfl)) e0 3 3 (by decide) rfl (by decide) (by decide) (by decide) (by decide) (hb hby at_29) rfl ?_
  intro T7 h7 b7 X7 e7 E7 g7 A7
  have Zs8 : n0 ≤ h7.size := (Nat.le_trans Z0 E7.1)
  have g_b7 : n0 ≤ b7 := Nat.le_trans Z0 (Nat.le_of_eq g7.symm)
  have A7' : AJ Z h7 b7 [(0 : Int64), (0 : Int64), (0 : Int64)] := A7
  refine g_dup 32 X7 hx (hb hby at_31) rfl rfl ?_
  refine g_iconst 33 X7 hx (hb hby at_32) rfl (z := (0 : Int32)) rfl ?_
  refine g_lload 35 X7 hx (hb hby at_33) rfl (v := z2) rfl ?_
  refine g_lastore 36 X7 hx hZ e7 A7' 0 (by decide) rfl (Nat.le_of_ble_eq_true rfl) (hb hby at_35) rfl ?_
  intro T9 h9 X9 e9 W9 A9
  have Zs10 : n0 ≤ h9.size := (Nat.le_trans Zs8 (Keep.of_wr W9).1)
  have A9' : AJ Z h9 b7 [z2, (0 : Int64), (0 : Int64)] := A9
  have N11 := Fr.snoc X9 N0 g_b7
  refine g_dup 37 X9 hx (hb hby at_36) rfl rfl ?_
  refine g_iconst 38 X9 hx (hb hby at_37) rfl (z := (1 : Int32)) rfl ?_
  refine g_lload 40 X9 hx (hb hby at_38) rfl (v := z4) rfl ?_
  refine g_lastore 41 X9 hx hZ e9 A9' 1 (by decide) rfl (Nat.le_of_ble_eq_true rfl) (hb hby at_40) rfl ?_
  intro T12 h12 X12 e12 W12 A12
  have Zs13 : n0 ≤ h12.size := (Nat.le_trans Zs10 (Keep.of_wr W12).1)
  have A12' : AJ Z h12 b7 [z2, z4, (0 : Int64)] := A12
  have N14 := Fr.snoc X12 N11 g_b7
  refine g_dup 42 X12 hx (hb hby at_41) rfl rfl ?_
  refine g_iconst 43 X12 hx (hb hby at_42) rfl (z := (2 : Int32)) rfl ?_
  refine g_lload 45 X12 hx (hb hby at_43) rfl (v := z6) rfl ?_
  refine g_lastore 46 X12 hx hZ e12 A12' 2 (by decide) rfl (Nat.le_of_ble_eq_true rfl) (hb hby at_45) rfl ?_
  intro T15 h15 X15 e15 W15 A15
  have Zs16 : n0 ≤ h15.size := (Nat.le_trans Zs13 (Keep.of_wr W15).1)
  have A15' : AJ Z h15 b7 [z2, z4, z6] := A15
  have N17 := Fr.snoc X15 N14 g_b7
  refine g_astore 48 X15 hx (hb hby at_46) rfl (Ls' := #[.val (.long q1), .second, .val (.long q2), .second, .val (.long q3), .second, .val (.long z2), .second, .val (.long z4), .second, .val (.long z6), .second, .val (.ref b7), .unset, .unset, .unset, .unset, .unset, .unset, .unset, .unset, .unset, .unset, .unset, .unset, .unset, .unset, .unset, .unset, .unset]) rfl rfl ?_
  refine g_newO 51 X15 hx hZ hown (hw _ (List.mem_of_getElem? (i := 2) rfl)) (hw _ (List.mem_of_getElem? (i := 3) rfl)) (hw _ (List.mem_of_getElem? (i := 4) rfl)) e15 (hb hby at_48) (by decide) (by decide) rfl ?_
  intro T18 h18 b18 X18 e18 E18 g18 A18 D18
  have f19 := A15'.ext E18
  have Zs20 : n0 ≤ h18.size := (Nat.le_trans Zs16 E18.1)
  have g_b18 : n0 ≤ b18 := Nat.le_trans Zs16 (Nat.le_of_eq g18.symm)
  have f21 : Fld Z h18 b18 "com/example/prefixwood/prefixwood/huffman/TwoQueues" "weights" "[J" .null := D18 (Or.inr (hw _ (List.mem_of_getElem? (i := 12) rfl))) (ty := (.array .long)) (by decide)
  have f22 : Fld Z h18 b18 "com/example/prefixwood/prefixwood/huffman/TwoQueues" "symbols" "[I" .null := D18 (Or.inr (hw _ (List.mem_of_getElem? (i := 21) rfl))) (ty := (.array .int)) (by decide)
  have f23 : Fld Z h18 b18 "com/example/prefixwood/prefixwood/huffman/TwoQueues" "mergedWeights" "[J" .null := D18 (Or.inr (hw _ (List.mem_of_getElem? (i := 27) rfl))) (ty := (.array .long)) (by decide)
  have f24 : Fld Z h18 b18 "com/example/prefixwood/prefixwood/huffman/TwoQueues" "nextMerged" "I" (.int (0 : Int32)) := D18 (Or.inl (hw _ (List.mem_of_getElem? (i := 34) rfl))) (ty := .int) (by decide)
  have f25 : Fld Z h18 b18 "com/example/prefixwood/prefixwood/huffman/TwoQueues" "merged" "I" (.int (0 : Int32)) := D18 (Or.inl (hw _ (List.mem_of_getElem? (i := 36) rfl))) (ty := .int) (by decide)
  have f26 : Fld Z h18 b18 "com/example/prefixwood/prefixwood/huffman/TwoQueues" "nextSymbol" "I" (.int (0 : Int32)) := D18 (Or.inl (hw _ (List.mem_of_getElem? (i := 38) rfl))) (ty := .int) (by decide)
  refine g_dup 52 X18 hx (hb hby at_51) rfl rfl ?_
  refine g_aload 54 X18 hx (hb hby at_52) rfl (v := (.ref b7)) rfl rfl ?_
  refine g_callI 57 X18 hx hZ (y := (⟨"com/example/prefixwood/prefixwood/huffman/TwoQueues", "<init>", "([J)V"⟩ : MethodName)) rfl hown (hw _ (List.mem_of_getElem? (i := 5) rfl)) (hw _ (List.mem_of_getElem? (i := 6) rfl)) (hw _ (List.mem_of_getElem? (i := 4) rfl)) (hw _ (List.mem_of_getElem? (i := 7) rfl)) (by decide) e18 (rm1 l Z a0 hw [] b18 b7 z2 z4 z6 h18 n0 Zs20 A18 f21 f22 f23 f24 f25 f26 f19 g_b18 (Ne.symm (Nat.ne_of_lt (Nat.lt_of_lt_of_le A15'.lt (Nat.le_of_eq g18.symm)))) hW0 hW1 hW2) (by rw [hml]; rfl) b18 [(.ref b7)] [(.ref b18)] rfl rfl (lenOf pd_3 rfl) 1 (Nat.le_of_eq rfl) (hb hby at_54) (by decide) (by decide) (by decide) (by decide) rfl ?_
  intro v27 T27 L27 X27 hQ27
  obtain ⟨b27, c27, rfl, N27q, K27, g_b27, sz_b27, g_c27, sz_c27, ne_27, E27, F27_0, F27_1, F27_2, F27_3, F27_4, F27_5, A27, B27⟩ := hQ27
  have N27 := Fr.app N17 N27q
  have f28 := f19.keep K27 (ninS (Nat.ne_of_lt (Nat.lt_of_lt_of_le A15'.lt (Nat.le_of_eq g18.symm))) nin0)
  have Zs29 : n0 ≤ T27.heap.size := (Nat.le_trans Zs20 K27.1)
  show Go p e below s 40 4224 (Q0 Z q1 q2 q3 h0 n0) T27 (mkF m 57 #[.val (.long q1), .second, .val (.long q2), .second, .val (.long q3), .second, .val (.long z2), .second, .val (.long z4), .second, .val (.long z6), .second, .val (.ref b7), .unset, .unset, .unset, .unset, .unset, .unset, .unset, .unset, .unset, .unset, .unset, .unset, .unset, .unset, .unset, .unset, .unset] [(.ref b18)])
  refine g_astore 59 X27 hx (hb hby at_57) rfl (Ls' := #[.val (.long q1), .second, .val (.long q2), .second, .val (.long q3), .second, .val (.long z2), .second, .val (.long z4), .second, .val (.long z6), .second, .val (.ref b7), .val (.ref b18), .unset, .unset, .unset, .unset, .unset, .unset, .unset, .unset, .unset, .unset, .unset, .unset, .unset, .unset, .unset, .unset]) rfl rfl ?_
  refine g_lload 61 X27 hx (hb hby at_59) rfl (v := z2) rfl ?_
  refine g_lload 63 X27 hx (hb hby at_61) rfl (v := z4) rfl ?_
  suffices Jhj32 : ∀ (z31 : Int32), ((z4 < z2 ∧ z31 = (0 : Int32)) ∨ (¬ (z4 < z2) ∧ z31 = (1 : Int32))) → Go p e below s 40 4224 (Q0 Z q1 q2 q3 h0 n0) T27 (mkF m 72 #[.val (.long q1), .second, .val (.long q2), .second, .val (.long q3), .second, .val (.long z2), .second, .val (.long z4), .second, .val (.long z6), .second, .val (.ref b7), .val (.ref b18), .unset, .unset, .unset, .unset, .unset, .unset, .unset, .unset, .unset, .unset, .unset, .unset, .unset, .unset, .unset, .unset] [(.int z31)]) by
    by_cases hc63_29 : z4 < z2
    ·
      refine g_lcmpYes 71 X27 hx (hb hby at_63) rfl (hb hby at_64) (tltL hc63_29).2.2.1 (by decide) (by decide) ?_
      refine g_iconst 72 X27 hx (hb hby at_71) rfl (z := (0 : Int32)) rfl ?_
      exact Jhj32 (0 : Int32) (Or.inl ⟨hc63_29, rfl⟩)
    ·
      refine g_lcmpNo 67 X27 hx (hb hby at_63) rfl (hb hby at_64) (fltL hc63_29).2.2.1 rfl ?_
      refine g_iconst 68 X27 hx (hb hby at_67) rfl (z := (1 : Int32)) rfl ?_
      refine g_goto 72 X27 hx (hb hby at_68) (by decide) (by decide) ?_
      exact Jhj32 (1 : Int32) (Or.inr (⟨hc63_29, rfl⟩))
  intro z31 hj32
  refine g_istore 74 X27 hx (hb hby at_72) rfl (Ls' := #[.val (.long q1), .second, .val (.long q2), .second, .val (.long q3), .second, .val (.long z2), .second, .val (.long z4), .second, .val (.long z6), .second, .val (.ref b7), .val (.ref b18), .val (.int z31), .unset, .unset, .unset, .unset, .unset, .unset, .unset, .unset, .unset, .unset, .unset, .unset, .unset, .unset, .unset]) rfl ?_
  refine g_lload 76 X27 hx (hb hby at_74) rfl (v := z2) rfl ?_
  refine g_lload 78 X27 hx (hb hby at_76) rfl (v := z6) rfl ?_
  suffices Jhj35 : ∀ (z34 : Int32), ((z6 < z2 ∧ z34 = (0 : Int32)) ∨ (¬ (z6 < z2) ∧ z34 = (1 : Int32))) → Go p e below s 40 4224 (Q0 Z q1 q2 q3 h0 n0) T27 (mkF m 87 #[.val (.long q1), .second, .val (.long q2), .second, .val (.long q3), .second, .val (.long z2), .second, .val (.long z4), .second, .val (.long z6), .second, .val (.ref b7), .val (.ref b18), .val (.int z31), .unset, .unset, .unset, .unset, .unset, .unset, .unset, .unset, .unset, .unset, .unset, .unset, .unset, .unset, .unset] [(.int z34)]) by
    by_cases hc78_32 : z6 < z2
    ·
      refine g_lcmpYes 86 X27 hx (hb hby at_78) rfl (hb hby at_79) (tltL hc78_32).2.2.1 (by decide) (by decide) ?_
      refine g_iconst 87 X27 hx (hb hby at_86) rfl (z := (0 : Int32)) rfl ?_
      exact Jhj35 (0 : Int32) (Or.inl ⟨hc78_32, rfl⟩)
    ·
      refine g_lcmpNo 82 X27 hx (hb hby at_78) rfl (hb hby at_79) (fltL hc78_32).2.2.1 rfl ?_
      refine g_iconst 83 X27 hx (hb hby at_82) rfl (z := (1 : Int32)) rfl ?_
      refine g_goto 87 X27 hx (hb hby at_83) (by decide) (by decide) ?_
      exact Jhj35 (1 : Int32) (Or.inr (⟨hc78_32, rfl⟩))
  intro z34 hj35
  refine g_istore 89 X27 hx (hb hby at_87) rfl (Ls' := #[.val (.long q1), .second, .val (.long q2), .second, .val (.long q3), .second, .val (.long z2), .second, .val (.long z4), .second, .val (.long z6), .second, .val (.ref b7), .val (.ref b18), .val (.int z31), .val (.int z34), .unset, .unset, .unset, .unset, .unset, .unset, .unset, .unset, .unset, .unset, .unset, .unset, .unset, .unset]) rfl ?_
  refine g_lload 91 X27 hx (hb hby at_89) rfl (v := z4) rfl ?_
  refine g_lload 93 X27 hx (hb hby at_91) rfl (v := z6) rfl ?_
  suffices Jhj38 : ∀ (z37 : Int32), ((z6 < z4 ∧ z37 = (0 : Int32)) ∨ (¬ (z6 < z4) ∧ z37 = (1 : Int32))) → Go p e below s 40 4224 (Q0 Z q1 q2 q3 h0 n0) T27 (mkF m 102 #[.val (.long q1), .second, .val (.long q2), .second, .val (.long q3), .second, .val (.long z2), .second, .val (.long z4), .second, .val (.long z6), .second, .val (.ref b7), .val (.ref b18), .val (.int z31), .val (.int z34), .unset, .unset, .unset, .unset, .unset, .unset, .unset, .unset, .unset, .unset, .unset, .unset, .unset, .unset] [(.int z37)]) by
    by_cases hc93_35 : z6 < z4
    ·
      refine g_lcmpYes 101 X27 hx (hb hby at_93) rfl (hb hby at_94) (tltL hc93_35).2.2.1 (by decide) (by decide) ?_
      refine g_iconst 102 X27 hx (hb hby at_101) rfl (z := (0 : Int32)) rfl ?_
      exact Jhj38 (0 : Int32) (Or.inl ⟨hc93_35, rfl⟩)
    ·
      refine g_lcmpNo 97 X27 hx (hb hby at_93) rfl (hb hby at_94) (fltL hc93_35).2.2.1 rfl ?_
      refine g_iconst 98 X27 hx (hb hby at_97) rfl (z := (1 : Int32)) rfl ?_
      refine g_goto 102 X27 hx (hb hby at_98) (by decide) (by decide) ?_
      exact Jhj38 (1 : Int32) (Or.inr (⟨hc93_35, rfl⟩))
  intro z37 hj38
  refine g_istore 104 X27 hx (hb hby at_102) rfl (Ls' := #[.val (.long q1), .second, .val (.long q2), .second, .val (.long q3), .second, .val (.long z2), .second, .val (.long z4), .second, .val (.long z6), .second, .val (.ref b7), .val (.ref b18), .val (.int z31), .val (.int z34), .val (.int z37), .unset, .unset, .unset, .unset, .unset, .unset, .unset, .unset, .unset, .unset, .unset, .unset, .unset]) rfl ?_
  refine g_iconst 105 X27 hx (hb hby at_104) rfl (z := (3 : Int32)) rfl ?_
  refine g_new_int 107 X27 hx hZ (hw _ (List.mem_of_getElem? (i := 16) rfl)) rfl 3 3 (by decide) rfl (by decide) (by decide) (by decide) (by decide) (hb hby at_105) rfl ?_
  intro T39 h39 b39 X39 e39 E39 g39 A39
  have f40 := f28.ext E39
  have f41 := E27.ext E39
  have f42 := F27_0.ext E39
  have f43 := F27_1.ext E39
  have f44 := F27_2.ext E39
  have f45 := F27_3.ext E39
  have f46 := F27_4.ext E39
  have f47 := F27_5.ext E39
  have f48 := A27.ext E39
  have f49 := B27.ext E39
  have Zs50 : n0 ≤ h39.size := (Nat.le_trans Zs29 E39.1)
  have g_b39 : n0 ≤ b39 := Nat.le_trans Zs29 (Nat.le_of_eq g39.symm)
  have A39' : AI Z h39 b39 .int [(0 : Int32), (0 : Int32), (0 : Int32)] := A39
  refine g_astore 109 X39 hx (hb hby at_107) rfl (Ls' := #[.val (.long q1), .second, .val (.long q2), .second, .val (.long q3), .second, .val (.long z2), .second, .val (.long z4), .second, .val (.long z6), .second, .val (.ref b7), .val (.ref b18), .val (.int z31), .val (.int z34), .val (.int z37), .val (.ref b39), .unset, .unset, .unset, .unset, .unset, .unset, .unset, .unset, .unset, .unset, .unset, .unset]) rfl rfl ?_
  refine g_aload 111 X39 hx (hb hby at_109) rfl (v := (.ref b39)) rfl rfl ?_
  refine g_iload 113 X39 hx (hb hby at_111) rfl (v := z31) rfl ?_
  suffices Jhj53 : ∀ (z52 : Int32), ((z31 = (0 : Int32) ∧ z52 = (1 : Int32)) ∨ (¬ (z31 = (0 : Int32)) ∧ z52 = (0 : Int32))) → Go p e below s 40 4224 (Q0 Z q1 q2 q3 h0 n0) T39 (mkF m 121 #[.val (.long q1), .second, .val (.long q2), .second, .val (.long q3), .second, .val (.long z2), .second, .val (.long z4), .second, .val (.long z6), .second, .val (.ref b7), .val (.ref b18), .val (.int z31), .val (.int z34), .val (.int z37), .val (.ref b39), .unset, .unset, .unset, .unset, .unset, .unset, .unset, .unset, .unset, .unset, .unset, .unset] [(.int z52), (.ref b39)]) by
    by_cases hc113_50 : z31 = (0 : Int32)
    ·
      refine g_ifYes 120 X39 hx (hb hby at_113)  ((if0 _ _).trans (teq hc113_50).1) (by decide) (by decide) ?_
      refine g_iconst 121 X39 hx (hb hby at_120) rfl (z := (1 : Int32)) rfl ?_
      exact Jhj53 (1 : Int32) (Or.inl ⟨hc113_50, rfl⟩)
    ·
      refine g_ifNo 116 X39 hx (hb hby at_113)  ((if0 _ _).trans (feq hc113_50).1) rfl ?_
      refine g_iconst 117 X39 hx (hb hby at_116) rfl (z := (0 : Int32)) rfl ?_
      refine g_goto 121 X39 hx (hb hby at_117) (by decide) (by decide) ?_
      exact Jhj53 (0 : Int32) (Or.inr (⟨hc113_50, rfl⟩))
  intro z52 hj53
  refine g_iload 123 X39 hx (hb hby at_121) rfl (v := z34) rfl ?_
  suffices Jhj56 : ∀ (z55 : Int32), ((z34 = (0 : Int32) ∧ z55 = (1 : Int32)) ∨ (¬ (z34 = (0 : Int32)) ∧ z55 = (0 : Int32))) → Go p e below s 40 4224 (Q0 Z q1 q2 q3 h0 n0) T39 (mkF m 131 #[.val (.long q1), .second, .val (.long q2), .second, .val (.long q3), .second, .val (.long z2), .second, .val (.long z4), .second, .val (.long z6), .second, .val (.ref b7), .val (.ref b18), .val (.int z31), .val (.int z34), .val (.int z37), .val (.ref b39), .unset, .unset, .unset, .unset, .unset, .unset, .unset, .unset, .unset, .unset, .unset, .unset] [(.int z55), (.int z52), (.ref b39)]) by
    by_cases hc123_53 : z34 = (0 : Int32)
    ·
      refine g_ifYes 130 X39 hx (hb hby at_123)  ((if0 _ _).trans (teq hc123_53).1) (by decide) (by decide) ?_
      refine g_iconst 131 X39 hx (hb hby at_130) rfl (z := (1 : Int32)) rfl ?_
      exact Jhj56 (1 : Int32) (Or.inl ⟨hc123_53, rfl⟩)
    ·
      refine g_ifNo 126 X39 hx (hb hby at_123)  ((if0 _ _).trans (feq hc123_53).1) rfl ?_
      refine g_iconst 127 X39 hx (hb hby at_126) rfl (z := (0 : Int32)) rfl ?_
      refine g_goto 131 X39 hx (hb hby at_127) (by decide) (by decide) ?_
      exact Jhj56 (0 : Int32) (Or.inr (⟨hc123_53, rfl⟩))
  intro z55 hj56
  obtain ⟨z57, hz57⟩ : ∃ z : Int32, z52 + z55 = z := ⟨_, rfl⟩
  refine g_iadd 132 X39 hx (hb hby at_131) rfl (z := z57) hz57 ?_
  have hI0 := own_iN (z := z57) (n := own_i (¬ z2.toInt.toNat ≤ z4.toInt.toNat) + own_i (¬ z2.toInt.toNat ≤ z6.toInt.toNat)) (by rw [← hz57]; exact own_add _ _ _ _ (own_fA z2 z4 z31 z52 hW0 hW1 hj32 hj53) (own_fA z2 z6 z34 z55 hW0 hW2 hj35 hj56) (Nat.lt_trans (own_i2 _ _) (by decide)))
  refine g_iconst 133 X39 hx (hb hby at_132) rfl (z := (0 : Int32)) rfl ?_
  refine g_iastore 134 X39 hx hZ e39 A39' (own_i (¬ z2.toInt.toNat ≤ z4.toInt.toNat) + own_i (¬ z2.toInt.toNat ≤ z6.toInt.toNat)) hI0.1 hI0.2 (by exact own_i2 _ _) (z := (0 : Int32)) rfl (hb hby at_133) rfl ?_
  intro T58 h58 X58 e58 W58 A58
  have f59 := f40.other W58 (Nat.ne_of_lt (Nat.lt_of_lt_of_le f28.lt (Nat.le_of_eq g39.symm)))
  have f60 := f41.wr W58
  have f61 := f42.other W58 (Or.inl (Nat.ne_of_lt (Nat.lt_of_lt_of_le F27_5.lt (Nat.le_of_eq g39.symm))))
  have f62 := f43.other W58 (Or.inl (Nat.ne_of_lt (Nat.lt_of_lt_of_le F27_5.lt (Nat.le_of_eq g39.symm))))
  have f63 := f44.other W58 (Or.inl (Nat.ne_of_lt (Nat.lt_of_lt_of_le F27_5.lt (Nat.le_of_eq g39.symm))))
  have f64 := f45.other W58 (Or.inl (Nat.ne_of_lt (Nat.lt_of_lt_of_le F27_5.lt (Nat.le_of_eq g39.symm))))
  have f65 := f46.other W58 (Or.inl (Nat.ne_of_lt (Nat.lt_of_lt_of_le F27_5.lt (Nat.le_of_eq g39.symm))))
  have f66 := f47.other W58 (Or.inl (Nat.ne_of_lt (Nat.lt_of_lt_of_le F27_5.lt (Nat.le_of_eq g39.symm))))
  have f67 := f48.other W58 (Nat.ne_of_lt (Nat.lt_of_lt_of_le A27.lt (Nat.le_of_eq g39.symm)))
  have f68 := f49.other W58 (Nat.ne_of_lt (Nat.lt_of_lt_of_le B27.lt (Nat.le_of_eq g39.symm)))
  have Zs69 : n0 ≤ h58.size := (Nat.le_trans Zs50 (Keep.of_wr W58).1)
  have N70 := Fr.snoc X58 N27 g_b39
  refine g_aload 136 X58 hx (hb hby at_134) rfl (v := (.ref b39)) rfl rfl ?_
  refine g_iload 138 X58 hx (hb hby at_136) rfl (v := z31) rfl ?_
  suffices Jhj73 : ∀ (z72 : Int32), ((z31 = (0 : Int32) ∧ z72 = (0 : Int32)) ∨ (¬ (z31 = (0 : Int32)) ∧ z72 = (1 : Int32))) → Go p e below s 40 4224 (Q0 Z q1 q2 q3 h0 n0) T58 (mkF m 146 #[.val (.long q1), .second, .val (.long q2), .second, .val (.long q3), .second, .val (.long z2), .second, .val (.long z4), .second, .val (.long z6), .second, .val (.ref b7), .val (.ref b18), .val (.int z31), .val (.int z34), .val (.int z37), .val (.ref b39), .unset, .unset, .unset, .unset, .unset, .unset, .unset, .unset, .unset, .unset, .unset, .unset] [(.int z72), (.ref b39)]) by
    by_cases hc138_70 : z31 = (0 : Int32)
    ·
      refine g_ifYes 145 X58 hx (hb hby at_138)  ((if0 _ _).trans (teq hc138_70).1) (by decide) (by decide) ?_
      refine g_iconst 146 X58 hx (hb hby at_145) rfl (z := (0 : Int32)) rfl ?_
      exact Jhj73 (0 : Int32) (Or.inl ⟨hc138_70, rfl⟩)
    ·
      refine g_ifNo 141 X58 hx (hb hby at_138)  ((if0 _ _).trans (feq hc138_70).1) rfl ?_
      refine g_iconst 142 X58 hx (hb hby at_141) rfl (z := (1 : Int32)) rfl ?_
      refine g_goto 146 X58 hx (hb hby at_142) (by decide) (by decide) ?_
      exact Jhj73 (1 : Int32) (Or.inr (⟨hc138_70, rfl⟩))
  intro z72 hj73
  refine g_iload 148 X58 hx (hb hby at_146) rfl (v := z37) rfl ?_
  suffices Jhj76 : ∀ (z75 : Int32), ((z37 = (0 : Int32) ∧ z75 = (1 : Int32)) ∨ (¬ (z37 = (0 : Int32)) ∧ z75 = (0 : Int32))) → Go p e below s 40 4224 (Q0 Z q1 q2 q3 h0 n0) T58 (mkF m 156 #[.val (.long q1), .second, .val (.long q2), .second, .val (.long q3), .second, .val (.long z2), .second, .val (.long z4), .second, .val (.long z6), .second, .val (.ref b7), .val (.ref b18), .val (.int z31), .val (.int z34), .val (.int z37), .val (.ref b39), .unset, .unset, .unset, .unset, .unset, .unset, .unset, .unset, .unset, .unset, .unset, .unset] [(.int z75), (.int z72), (.ref b39)]) by
    by_cases hc148_73 : z37 = (0 : Int32)
    ·
      refine g_ifYes 155 X58 hx (hb hby at_148)  ((if0 _ _).trans (teq hc148_73).1) (by decide) (by decide) ?_
      refine g_iconst 156 X58 hx (hb hby at_155) rfl (z := (1 : Int32)) rfl ?_
      exact Jhj76 (1 : Int32) (Or.inl ⟨hc148_73, rfl⟩)
    ·
      refine g_ifNo 151 X58 hx (hb hby at_148)  ((if0 _ _).trans (feq hc148_73).1) rfl ?_
      refine g_iconst 152 X58 hx (hb hby at_151) rfl (z := (0 : Int32)) rfl ?_
      refine g_goto 156 X58 hx (hb hby at_152) (by decide) (by decide) ?_
      exact Jhj76 (0 : Int32) (Or.inr (⟨hc148_73, rfl⟩))
  intro z75 hj76
  obtain ⟨z77, hz77⟩ : ∃ z : Int32, z72 + z75 = z := ⟨_, rfl⟩
  refine g_iadd 157 X58 hx (hb hby at_156) rfl (z := z77) hz77 ?_
  have hI1 := own_iN (z := z77) (n := own_i (z2.toInt.toNat ≤ z4.toInt.toNat) + own_i (¬ z4.toInt.toNat ≤ z6.toInt.toNat)) (by rw [← hz77]; exact own_add _ _ _ _ (own_fB z2 z4 z31 z72 hW0 hW1 hj32 hj73) (own_fA z4 z6 z37 z75 hW1 hW2 hj38 hj76) (Nat.lt_trans (own_i2 _ _) (by decide)))
  refine g_iconst 158 X58 hx (hb hby at_157) rfl (z := (1 : Int32)) rfl ?_
  refine g_iastore 159 X58 hx hZ e58 A58 (own_i (z2.toInt.toNat ≤ z4.toInt.toNat) + own_i (¬ z4.toInt.toNat ≤ z6.toInt.toNat)) hI1.1 hI1.2 (by rw [List.length_set]; exact own_i2 _ _) (z := (1 : Int32)) rfl (hb hby at_158) rfl ?_
  intro T78 h78 X78 e78 W78 A78
  have f79 := f59.other W78 (Nat.ne_of_lt (Nat.lt_of_lt_of_le f28.lt (Nat.le_of_eq g39.symm)))
  have f80 := f60.wr W78
  have f81 := f61.other W78 (Or.inl (Nat.ne_of_lt (Nat.lt_of_lt_of_le F27_5.lt (Nat.le_of_eq g39.symm))))
  have f82 := f62.other W78 (Or.inl (Nat.ne_of_lt (Nat.lt_of_lt_of_le F27_5.lt (Nat.le_of_eq g39.symm))))
  have f83 := f63.other W78 (Or.inl (Nat.ne_of_lt (Nat.lt_of_lt_of_le F27_5.lt (Nat.le_of_eq g39.symm))))
  have f84 := f64.other W78 (Or.inl (Nat.ne_of_lt (Nat.lt_of_lt_of_le F27_5.lt (Nat.le_of_eq g39.symm))))
  have f85 := f65.other W78 (Or.inl (Nat.ne_of_lt (Nat.lt_of_lt_of_le F27_5.lt (Nat.le_of_eq g39.symm))))
  have f86 := f66.other W78 (Or.inl (Nat.ne_of_lt (Nat.lt_of_lt_of_le F27_5.lt (Nat.le_of_eq g39.symm))))
  have f87 := f67.other W78 (Nat.ne_of_lt (Nat.lt_of_lt_of_le A27.lt (Nat.le_of_eq g39.symm)))
  have f88 := f68.other W78 (Nat.ne_of_lt (Nat.lt_of_lt_of_le B27.lt (Nat.le_of_eq g39.symm)))
  have Zs89 : n0 ≤ h78.size := (Nat.le_trans Zs69 (Keep.of_wr W78).1)
  have N90 := Fr.snoc X78 N70 g_b39
  refine g_aload 161 X78 hx (hb hby at_159) rfl (v := (.ref b39)) rfl rfl ?_
  refine g_iload 163 X78 hx (hb hby at_161) rfl (v := z34) rfl ?_
  suffices Jhj93 : ∀ (z92 : Int32), ((z34 = (0 : Int32) ∧ z92 = (0 : Int32)) ∨ (¬ (z34 = (0 : Int32)) ∧ z92 = (1 : Int32))) → Go p e below s 40 4224 (Q0 Z q1 q2 q3 h0 n0) T78 (mkF m 171 #[.val (.long q1), .second, .val (.long q2), .second, .val (.long q3), .second, .val (.long z2), .second, .val (.long z4), .second, .val (.long z6), .second, .val (.ref b7), .val (.ref b18), .val (.int z31), .val (.int z34), .val (.int z37), .val (.ref b39), .unset, .unset, .unset, .unset, .unset, .unset, .unset, .unset, .unset, .unset, .unset, .unset] [(.int z92), (.ref b39)]) by
    by_cases hc163_90 : z34 = (0 : Int32)
    ·
      refine g_ifYes 170 X78 hx (hb hby at_163)  ((if0 _ _).trans (teq hc163_90).1) (by decide) (by decide) ?_
      refine g_iconst 171 X78 hx (hb hby at_170) rfl (z := (0 : Int32)) rfl ?_
      exact Jhj93 (0 : Int32) (Or.inl ⟨hc163_90, rfl⟩)
    ·
      refine g_ifNo 166 X78 hx (hb hby at_163)  ((if0 _ _).trans (feq hc163_90).1) rfl ?_
      refine g_iconst 167 X78 hx (hb hby at_166) rfl (z := (1 : Int32)) rfl ?_
      refine g_goto 171 X78 hx (hb hby at_167) (by decide) (by decide) ?_
      exact Jhj93 (1 : Int32) (Or.inr (⟨hc163_90, rfl⟩))
  intro z92 hj93
  refine g_iload 173 X78 hx (hb hby at_171) rfl (v := z37) rfl ?_
  suffices Jhj96 : ∀ (z95 : Int32), ((z37 = (0 : Int32) ∧ z95 = (0 : Int32)) ∨ (¬ (z37 = (0 : Int32)) ∧ z95 = (1 : Int32))) → Go p e below s 40 4224 (Q0 Z q1 q2 q3 h0 n0) T78 (mkF m 181 #[.val (.long q1), .second, .val (.long q2), .second, .val (.long q3), .second, .val (.long z2), .second, .val (.long z4), .second, .val (.long z6), .second, .val (.ref b7), .val (.ref b18), .val (.int z31), .val (.int z34), .val (.int z37), .val (.ref b39), .unset, .unset, .unset, .unset, .unset, .unset, .unset, .unset, .unset, .unset, .unset, .unset] [(.int z95), (.int z92), (.ref b39)]) by
    by_cases hc173_93 : z37 = (0 : Int32)
    ·
      refine g_ifYes 180 X78 hx (hb hby at_173)  ((if0 _ _).trans (teq hc173_93).1) (by decide) (by decide) ?_
      refine g_iconst 181 X78 hx (hb hby at_180) rfl (z := (0 : Int32)) rfl ?_
      exact Jhj96 (0 : Int32) (Or.inl ⟨hc173_93, rfl⟩)
    ·
      refine g_ifNo 176 X78 hx (hb hby at_173)  ((if0 _ _).trans (feq hc173_93).1) rfl ?_
      refine g_iconst 177 X78 hx (hb hby at_176) rfl (z := (1 : Int32)) rfl ?_
      refine g_goto 181 X78 hx (hb hby at_177) (by decide) (by decide) ?_
      exact Jhj96 (1 : Int32) (Or.inr (⟨hc173_93, rfl⟩))
  intro z95 hj96
  obtain ⟨z97, hz97⟩ : ∃ z : Int32, z92 + z95 = z := ⟨_, rfl⟩
  refine g_iadd 182 X78 hx (hb hby at_181) rfl (z := z97) hz97 ?_
  have hI2 := own_iN (z := z97) (n := own_i (z2.toInt.toNat ≤ z6.toInt.toNat) + own_i (z4.toInt.toNat ≤ z6.toInt.toNat)) (by rw [← hz97]; exact own_add _ _ _ _ (own_fB z2 z6 z34 z92 hW0 hW2 hj35 hj93) (own_fB z4 z6 z37 z95 hW1 hW2 hj38 hj96) (Nat.lt_trans (own_i2 _ _) (by decide)))
  refine g_iconst 183 X78 hx (hb hby at_182) rfl (z := (2 : Int32)) rfl ?_
  refine g_iastore 184 X78 hx hZ e78 A78 (own_i (z2.toInt.toNat ≤ z6.toInt.toNat) + own_i (z4.toInt.toNat ≤ z6.toInt.toNat)) hI2.1 hI2.2 (by rw [List.length_set, List.length_set]; exact own_i2 _ _) (z := (2 : Int32)) rfl (hb hby at_183) rfl ?_
  intro T98 h98 X98 e98 W98 A98
  have f99 := f79.other W98 (Nat.ne_of_lt (Nat.lt_of_lt_of_le f28.lt (Nat.le_of_eq g39.symm)))
  have f100 := f80.wr W98
  have f101 := f81.other W98 (Or.inl (Nat.ne_of_lt (Nat.lt_of_lt_of_le F27_5.lt (Nat.le_of_eq g39.symm))))
  have f102 := f82.other W98 (Or.inl (Nat.ne_of_lt (Nat.lt_of_lt_of_le F27_5.lt (Nat.le_of_eq g39.symm))))
  have f103 := f83.other W98 (Or.inl (Nat.ne_of_lt (Nat.lt_of_lt_of_le F27_5.lt (Nat.le_of_eq g39.symm))))
  have f104 := f84.other W98 (Or.inl (Nat.ne_of_lt (Nat.lt_of_lt_of_le F27_5.lt (Nat.le_of_eq g39.symm))))
  have f105 := f85.other W98 (Or.inl (Nat.ne_of_lt (Nat.lt_of_lt_of_le F27_5.lt (Nat.le_of_eq g39.symm))))
  have f106 := f86.other W98 (Or.inl (Nat.ne_of_lt (Nat.lt_of_lt_of_le F27_5.lt (Nat.le_of_eq g39.symm))))
  have f107 := f87.other W98 (Nat.ne_of_lt (Nat.lt_of_lt_of_le A27.lt (Nat.le_of_eq g39.symm)))
  have f108 := f88.other W98 (Nat.ne_of_lt (Nat.lt_of_lt_of_le B27.lt (Nat.le_of_eq g39.symm)))
  have Zs109 : n0 ≤ h98.size := (Nat.le_trans Zs89 (Keep.of_wr W98).1)
  have N110 := Fr.snoc X98 N90 g_b39
  obtain ⟨x0, x1, x2, hxe, hsix⟩ := own_srtS z2.toInt.toNat z4.toInt.toNat z6.toInt.toNat
  have hB := own_sixB _ _ _ _ _ _ hsix
  have AS1 : AI Z h98 b39 .int [x0, x1, x2] := by rw [← hxe]; exact A98
  have AS2 : AI Z h98 b27 .int [x0, x1, x2] := by rw [← hxe]; exact f107
  refine g_aload 186 X98 hx (hb hby at_184) rfl (v := (.ref b7)) rfl rfl ?_
  refine g_aload 188 X98 hx (hb hby at_186) rfl (v := (.ref b39)) rfl rfl ?_
  refine g_iconst 189 X98 hx (hb hby at_188) rfl (z := (0 : Int32)) rfl ?_
  refine g_iaload 190 X98 hx hZ e98 AS1 0 (by decide) rfl (z := x0) rfl (hb hby at_189) rfl ?_
  refine g_laload 191 X98 hx hZ e98 f99 (x0.toInt.toNat) (own_nat0 hB.1.1) rfl (z := (([z2, z4, z6] : List Int64).getD x0.toInt.toNat 0)) (own_getJ (by have q := hB.1; show _ < 3; omega)) (hb hby at_190) rfl ?_
  refine g_aload 193 X98 hx (hb hby at_191) rfl (v := (.ref b7)) rfl rfl ?_
  refine g_aload 195 X98 hx (hb hby at_193) rfl (v := (.ref b39)) rfl rfl ?_
  refine g_iconst 196 X98 hx (hb hby at_195) rfl (z := (1 : Int32)) rfl ?_
  refine g_iaload 197 X98 hx hZ e98 AS1 1 (by decide) rfl (z := x1) rfl (hb hby at_196) rfl ?_
  refine g_laload 198 X98 hx hZ e98 f99 (x1.toInt.toNat) (own_nat0 hB.2.1.1) rfl (z := (([z2, z4, z6] : List Int64).getD x1.toInt.toNat 0)) (own_getJ (by have q := hB.2.1; show _ < 3; omega)) (hb hby at_197) rfl ?_
  obtain ⟨z111, hz111⟩ : ∃ z : Int64, (([z2, z4, z6] : List Int64).getD x0.toInt.toNat 0) + (([z2, z4, z6] : List Int64).getD x1.toInt.toNat 0) = z := ⟨_, rfl⟩
  refine g_ladd 199 X98 hx (hb hby at_198) rfl (z := z111) hz111 ?_
  refine g_lstore 201 X98 hx (hb hby at_199) rfl (Ls' := #[.val (.long q1), .second, .val (.long q2), .second, .val (.long q3), .second, .val (.long z2), .second, .val (.long z4), .second, .val (.long z6), .second, .val (.ref b7), .val (.ref b18), .val (.int z31), .val (.int z34), .val (.int z37), .val (.ref b39), .val (.long z111), .second, .unset, .unset, .unset, .unset, .unset, .unset, .unset, .unset, .unset, .unset]) rfl ?_
  refine g_aload 203 X98 hx (hb hby at_201) rfl (v := (.ref b7)) rfl rfl ?_
  refine g_aload 205 X98 hx (hb hby at_203) rfl (v := (.ref b39)) rfl rfl ?_
  refine g_iconst 206 X98 hx (hb hby at_205) rfl (z := (2 : Int32)) rfl ?_
  refine g_iaload 207 X98 hx hZ e98 AS1 2 (by decide) rfl (z := x2) rfl (hb hby at_206) rfl ?_
  refine g_laload 208 X98 hx hZ e98 f99 (x2.toInt.toNat) (own_nat0 hB.2.2.1) rfl (z := (([z2, z4, z6] : List Int64).getD x2.toInt.toNat 0)) (own_getJ (by have q := hB.2.2; show _ < 3; omega)) (hb hby at_207) rfl ?_
  refine g_lload 210 X98 hx (hb hby at_208) rfl (v := z111) rfl ?_
  by_cases hc210_111 : z111 < (([z2, z4, z6] : List Int64).getD x2.toInt.toNat 0)
  ·
    refine g_lcmpYes 218 X98 hx (hb hby at_210) rfl (hb hby at_211) (tltL hc210_111).2.2.1 (by decide) (by decide) ?_
    refine g_iconst 219 X98 hx (hb hby at_218) rfl (z := (0 : Int32)) rfl ?_
    refine g_istore 221 X98 hx (hb hby at_219) rfl (Ls' := #[.val (.long q1), .second, .val (.long q2), .second, .val (.long q3), .second, .val (.long z2), .second, .val (.long z4), .second, .val (.long z6), .second, .val (.ref b7), .val (.ref b18), .val (.int z31), .val (.int z34), .val (.int z37), .val (.ref b39), .val (.long z111), .second, .val (.int (0 : Int32)), .unset, .unset, .unset, .unset, .unset, .unset, .unset, .unset, .unset]) rfl ?_
    refine g_iload 223 X98 hx (hb hby at_221) rfl (v := (0 : Int32)) rfl ?_
    refine g_ifYes 233 X98 hx (hb hby at_223)  ((if0 _ _).trans (teq (rfl : (0 : Int32) = (0 : Int32))).1) (by decide) (by decide) ?_
    refine g_iconst 234 X98 hx (hb hby at_233) rfl (z := (3 : Int32)) rfl ?_
    refine g_istore 236 X98 hx (hb hby at_234) rfl (Ls' := #[.val (.long q1), .second, .val (.long q2), .second, .val (.long q3), .second, .val (.long z2), .second, .val (.long z4), .second, .val (.long z6), .second, .val (.ref b7), .val (.ref b18), .val (.int z31), .val (.int z34), .val (.int z37), .val (.ref b39), .val (.long z111), .second, .val (.int (0 : Int32)), .val (.int (3 : Int32)), .unset, .unset, .unset, .unset, .unset, .unset, .unset, .unset]) rfl ?_
    refine g_iload 238 X98 hx (hb hby at_236) rfl (v := (0 : Int32)) rfl ?_
    refine g_ifYes 245 X98 hx (hb hby at_238)  ((if0 _ _).trans (teq (rfl : (0 : Int32) = (0 : Int32))).1) (by decide) (by decide) ?_
    refine g_aload 247 X98 hx (hb hby at_245) rfl (v := (.ref b39)) rfl rfl ?_
    refine g_iconst 248 X98 hx (hb hby at_247) rfl (z := (2 : Int32)) rfl ?_
    refine g_iaload 249 X98 hx hZ e98 AS1 2 (by decide) rfl (z := x2) rfl (hb hby at_248) rfl ?_
    refine g_istore 251 X98 hx (hb hby at_249) rfl (Ls' := #[.val (.long q1), .second, .val (.long q2), .second, .val (.long q3), .second, .val (.long z2), .second, .val (.long z4), .second, .val (.long z6), .second, .val (.ref b7), .val (.ref b18), .val (.int z31), .val (.int z34), .val (.int z37), .val (.ref b39), .val (.long z111), .second, .val (.int (0 : Int32)), .val (.int (3 : Int32)), .val (.int x2), .unset, .unset, .unset, .unset, .unset, .unset, .unset]) rfl ?_
    refine g_lload 253 X98 hx (hb hby at_251) rfl (v := z111) rfl ?_
    refine g_aload 255 X98 hx (hb hby at_253) rfl (v := (.ref b7)) rfl rfl ?_
    refine g_aload 257 X98 hx (hb hby at_255) rfl (v := (.ref b39)) rfl rfl ?_
    refine g_iconst 258 X98 hx (hb hby at_257) rfl (z := (2 : Int32)) rfl ?_
    refine g_iaload 259 X98 hx hZ e98 AS1 2 (by decide) rfl (z := x2) rfl (hb hby at_258) rfl ?_
    refine g_laload 260 X98 hx hZ e98 f99 (x2.toInt.toNat) (own_nat0 hB.2.2.1) rfl (z := (([z2, z4, z6] : List Int64).getD x2.toInt.toNat 0)) (own_getJ (by have q := hB.2.2; show _ < 3; omega)) (hb hby at_259) rfl ?_
    obtain ⟨z113, hz113⟩ : ∃ z : Int64, z111 + (([z2, z4, z6] : List Int64).getD x2.toInt.toNat 0) = z := ⟨_, rfl⟩
    refine g_ladd 261 X98 hx (hb hby at_260) rfl (z := z113) hz113 ?_
    refine g_lstore 263 X98 hx (hb hby at_261) rfl (Ls' := #[.val (.long q1), .second, .val (.long q2), .second, .val (.long q3), .second, .val (.long z2), .second, .val (.long z4), .second, .val (.long z6), .second, .val (.ref b7), .val (.ref b18), .val (.int z31), .val (.int z34), .val (.int z37), .val (.ref b39), .val (.long z111), .second, .val (.int (0 : Int32)), .val (.int (3 : Int32)), .val (.int x2), .val (.long z113), .second, .unset, .unset, .unset, .unset, .unset]) rfl ?_
    refine g_aload 265 X98 hx (hb hby at_263) rfl (v := (.ref b18)) rfl rfl ?_
    refine g_callV 268 X98 hx hZ (y := (⟨"com/example/prefixwood/prefixwood/huffman/TwoQueues", "poll", "()I"⟩ : MethodName)) hown (hw _ (List.mem_of_getElem? (i := 28) rfl)) (hw _ (List.mem_of_getElem? (i := 29) rfl)) (hw _ (List.mem_of_getElem? (i := 31) rfl)) (hw _ (List.mem_of_getElem? (i := 30) rfl)) (hw _ (List.mem_of_getElem? (i := 4) rfl)) (hw _ (List.mem_of_getElem? (i := 32) rfl)) (by decide) e98 f100 (rm6A l Z a0 hw [] b18 b7 b27 c27 z2 z4 z6 x0 x1 x2 (0 : Int64) (0 : Int64) h98 n0 Zs109 f100 f101 f102 f103 f104 f105 f106 f99 AS2 f108 g_b18 g_c27 (Ne.symm (Nat.ne_of_lt (Nat.lt_of_lt_of_le A15'.lt (Nat.le_of_eq g18.symm)))) (Nat.ne_of_lt (Nat.lt_of_lt_of_le f26.lt sz_b27)) (Nat.ne_of_lt (Nat.lt_of_lt_of_le f26.lt sz_c27)) (Ne.symm (Nat.ne_of_lt (Nat.lt_of_lt_of_le f19.lt sz_c27))) (Ne.symm ne_27)) (by rw [hml]; rfl) [] [] rfl rfl (lenOf pd_4 rfl) 0 (Nat.le_of_eq rfl) (hb hby at_265) (by decide) (by decide) (by decide) (by decide) rfl ?_
    intro v114 T114 L114 X114 hQ114
    obtain ⟨rfl, N114q, K114, E114, F114_0, F114_1, F114_2, F114_3, F114_4, F114_5⟩ := hQ114
    have N114 := Fr.app N110 N114q
    have f115 := f99.keep K114 (ninS (Nat.ne_of_lt (Nat.lt_of_lt_of_le A15'.lt (Nat.le_of_eq g18.symm))) nin0)
    have f116 := AS2.keep K114 (ninS (Ne.symm (Nat.ne_of_lt (Nat.lt_of_lt_of_le f26.lt sz_b27))) nin0)
    have f117 := f108.keep K114 (ninS (Ne.symm (Nat.ne_of_lt (Nat.lt_of_lt_of_le f26.lt sz_c27))) nin0)
    have f118 := AS1.keep K114 (ninS (Ne.symm (Nat.ne_of_lt (Nat.lt_of_lt_of_le F27_5.lt (Nat.le_of_eq g39.symm)))) nin0)
    have Zs119 : n0 ≤ T114.heap.size := (Nat.le_trans Zs109 K114.1)
    show Go p e below s 40 4224 (Q0 Z q1 q2 q3 h0 n0) T114 (mkF m 268 #[.val (.long q1), .second, .val (.long q2), .second, .val (.long q3), .second, .val (.long z2), .second, .val (.long z4), .second, .val (.long z6), .second, .val (.ref b7), .val (.ref b18), .val (.int z31), .val (.int z34), .val (.int z37), .val (.ref b39), .val (.long z111), .second, .val (.int (0 : Int32)), .val (.int (3 : Int32)), .val (.int x2), .val (.long z113), .second, .unset, .unset, .unset, .unset, .unset] [(.int x0)])
    refine g_istore 270 X114 hx (hb hby at_268) rfl (Ls' := #[.val (.long q1), .second, .val (.long q2), .second, .val (.long q3), .second, .val (.long z2), .second, .val (.long z4), .second, .val (.long z6), .second, .val (.ref b7), .val (.ref b18), .val (.int z31), .val (.int z34), .val (.int z37), .val (.ref b39), .val (.long z111), .second, .val (.int (0 : Int32)), .val (.int (3 : Int32)), .val (.int x2), .val (.long z113), .second, .val (.int x0), .unset, .unset, .unset, .unset]) rfl ?_
    refine g_aload 272 X114 hx (hb hby at_270) rfl (v := (.ref b18)) rfl rfl ?_
    refine g_callV 275 X114 hx hZ (y := (⟨"com/example/prefixwood/prefixwood/huffman/TwoQueues", "poll", "()I"⟩ : MethodName)) hown (hw _ (List.mem_of_getElem? (i := 28) rfl)) (hw _ (List.mem_of_getElem? (i := 29) rfl)) (hw _ (List.mem_of_getElem? (i := 31) rfl)) (hw _ (List.mem_of_getElem? (i := 30) rfl)) (hw _ (List.mem_of_getElem? (i := 4) rfl)) (hw _ (List.mem_of_getElem? (i := 32) rfl)) (by decide) rfl E114 (rm6B l Z a0 hw [] b18 b7 b27 c27 z2 z4 z6 x0 x1 x2 (0 : Int64) (0 : Int64) T114.heap n0 Zs119 E114 F114_0 F114_1 F114_2 F114_3 F114_4 F114_5 f115 f116 f117 g_b18 g_c27 (Ne.symm (Nat.ne_of_lt (Nat.lt_of_lt_of_le A15'.lt (Nat.le_of_eq g18.symm)))) (Nat.ne_of_lt (Nat.lt_of_lt_of_le f26.lt sz_b27)) (Nat.ne_of_lt (Nat.lt_of_lt_of_le f26.lt sz_c27)) (Ne.symm (Nat.ne_of_lt (Nat.lt_of_lt_of_le f19.lt sz_c27))) (Ne.symm ne_27)) (by rw [hml]; rfl) [] [] rfl rfl (lenOf pd_4 rfl) 0 (Nat.le_of_eq rfl) (hb hby at_272) (by decide) (by decide) (by decide) (by decide) rfl ?_
    intro v120 T120 L120 X120 hQ120
    obtain ⟨rfl, N120q, K120, E120, F120_0, F120_1, F120_2, F120_3, F120_4, F120_5⟩ := hQ120
    have N120 := Fr.app N114 N120q
    have f121 := f115.keep K120 (ninS (Nat.ne_of_lt (Nat.lt_of_lt_of_le A15'.lt (Nat.le_of_eq g18.symm))) nin0)
    have f122 := f116.keep K120 (ninS (Ne.symm (Nat.ne_of_lt (Nat.lt_of_lt_of_le f26.lt sz_b27))) nin0)
    have f123 := f117.keep K120 (ninS (Ne.symm (Nat.ne_of_lt (Nat.lt_of_lt_of_le f26.lt sz_c27))) nin0)
    have f124 := f118.keep K120 (ninS (Ne.symm (Nat.ne_of_lt (Nat.lt_of_lt_of_le F27_5.lt (Nat.le_of_eq g39.symm)))) nin0)
    have Zs125 : n0 ≤ T120.heap.size := (Nat.le_trans Zs119 K120.1)
    show Go p e below s 40 4224 (Q0 Z q1 q2 q3 h0 n0) T120 (mkF m 275 #[.val (.long q1), .second, .val (.long q2), .second, .val (.long q3), .second, .val (.long z2), .second, .val (.long z4), .second, .val (.long z6), .second, .val (.ref b7), .val (.ref b18), .val (.int z31), .val (.int z34), .val (.int z37), .val (.ref b39), .val (.long z111), .second, .val (.int (0 : Int32)), .val (.int (3 : Int32)), .val (.int x2), .val (.long z113), .second, .val (.int x0), .unset, .unset, .unset, .unset] [(.int x1)])
    refine g_istore 277 X120 hx (hb hby at_275) rfl (Ls' := #[.val (.long q1), .second, .val (.long q2), .second, .val (.long q3), .second, .val (.long z2), .second, .val (.long z4), .second, .val (.long z6), .second, .val (.ref b7), .val (.ref b18), .val (.int z31), .val (.int z34), .val (.int z37), .val (.ref b39), .val (.long z111), .second, .val (.int (0 : Int32)), .val (.int (3 : Int32)), .val (.int x2), .val (.long z113), .second, .val (.int x0), .val (.int x1), .unset, .unset, .unset]) rfl ?_
    refine g_aload 279 X120 hx (hb hby at_277) rfl (v := (.ref b18)) rfl rfl ?_
    refine g_iconst 280 X120 hx (hb hby at_279) rfl (z := (3 : Int32)) rfl ?_
    refine g_lload 282 X120 hx (hb hby at_280) rfl (v := z111) rfl ?_
    refine g_iconst 283 X120 hx (hb hby at_282) rfl (z := (3 : Int32)) rfl ?_
    refine g_callV 286 X120 hx hZ (y := (⟨"com/example/prefixwood/prefixwood/huffman/TwoQueues", "add", "(IJI)V"⟩ : MethodName)) hown (hw _ (List.mem_of_getElem? (i := 39) rfl)) (hw _ (List.mem_of_getElem? (i := 40) rfl)) (hw _ (List.mem_of_getElem? (i := 42) rfl)) (hw _ (List.mem_of_getElem? (i := 41) rfl)) (hw _ (List.mem_of_getElem? (i := 4) rfl)) (hw _ (List.mem_of_getElem? (i := 43) rfl)) (by decide) rfl E120 (rm7A l Z a0 hw [] b18 (3 : Int32) z111 (3 : Int32) b7 b27 c27 z2 z4 z6 x0 x1 x2 (0 : Int64) (0 : Int64) T120.heap n0 Zs125 E120 F120_0 F120_1 F120_2 F120_3 F120_4 F120_5 f121 f122 f123 g_b18 g_c27 (Ne.symm (Nat.ne_of_lt (Nat.lt_of_lt_of_le A15'.lt (Nat.le_of_eq g18.symm)))) (Nat.ne_of_lt (Nat.lt_of_lt_of_le f26.lt sz_b27)) (Nat.ne_of_lt (Nat.lt_of_lt_of_le f26.lt sz_c27)) (Ne.symm (Nat.ne_of_lt (Nat.lt_of_lt_of_le f19.lt sz_c27))) (Ne.symm ne_27)) (by rw [hml]; rfl) [(.int (3 : Int32)), (.long z111), (.int (3 : Int32))] [] rfl rfl (lenOf pd_5 rfl) 0 (Nat.le_of_eq rfl) (hb hby at_283) (by decide) (by decide) (by decide) (by decide) rfl ?_
    intro v126 T126 L126 X126 hQ126
    obtain ⟨rfl, N126q, K126, E126, F126_0, F126_1, F126_2, F126_3, F126_4, F126_5, A126⟩ := hQ126
    have N126 := Fr.app N120 N126q
    have f127 := f121.keep K126 (ninS (Nat.ne_of_lt (Nat.lt_of_lt_of_le A15'.lt (Nat.le_of_eq g18.symm))) (ninS (Nat.ne_of_lt (Nat.lt_of_lt_of_le f19.lt sz_c27)) nin0))
    have f128 := f122.keep K126 (ninS (Ne.symm (Nat.ne_of_lt (Nat.lt_of_lt_of_le f26.lt sz_b27))) (ninS ne_27 nin0))
    have f129 := f124.keep K126 (ninS (Ne.symm (Nat.ne_of_lt (Nat.lt_of_lt_of_le F27_5.lt (Nat.le_of_eq g39.symm)))) (ninS (Ne.symm (Nat.ne_of_lt (Nat.lt_of_lt_of_le B27.lt (Nat.le_of_eq g39.symm)))) nin0))
    have Zs130 : n0 ≤ T126.heap.size := (Nat.le_trans Zs125 K126.1)
    show Go p e below s 40 4224 (Q0 Z q1 q2 q3 h0 n0) T126 (mkF m 286 #[.val (.long q1), .second, .val (.long q2), .second, .val (.long q3), .second, .val (.long z2), .second, .val (.long z4), .second, .val (.long z6), .second, .val (.ref b7), .val (.ref b18), .val (.int z31), .val (.int z34), .val (.int z37), .val (.ref b39), .val (.long z111), .second, .val (.int (0 : Int32)), .val (.int (3 : Int32)), .val (.int x2), .val (.long z113), .second, .val (.int x0), .val (.int x1), .unset, .unset, .unset] [])
    refine g_aload 288 X126 hx (hb hby at_286) rfl (v := (.ref b18)) rfl rfl ?_
    refine g_callV 291 X126 hx hZ (y := (⟨"com/example/prefixwood/prefixwood/huffman/TwoQueues", "poll", "()I"⟩ : MethodName)) hown (hw _ (List.mem_of_getElem? (i := 28) rfl)) (hw _ (List.mem_of_getElem? (i := 29) rfl)) (hw _ (List.mem_of_getElem? (i := 31) rfl)) (hw _ (List.mem_of_getElem? (i := 30) rfl)) (hw _ (List.mem_of_getElem? (i := 4) rfl)) (hw _ (List.mem_of_getElem? (i := 32) rfl)) (by decide) rfl E126 (rm6D l Z a0 hw [] b18 b7 b27 c27 z2 z4 z6 x0 x1 x2 z111 (0 : Int64) T126.heap n0 Zs130 E126 F126_0 F126_1 F126_2 F126_3 F126_4 F126_5 f127 f128 A126 g_b18 g_c27 (Ne.symm (Nat.ne_of_lt (Nat.lt_of_lt_of_le A15'.lt (Nat.le_of_eq g18.symm)))) (Nat.ne_of_lt (Nat.lt_of_lt_of_le f26.lt sz_b27)) (Nat.ne_of_lt (Nat.lt_of_lt_of_le f26.lt sz_c27)) (Ne.symm (Nat.ne_of_lt (Nat.lt_of_lt_of_le f19.lt sz_c27))) (Ne.symm ne_27) hB.2.2 hc210_111) (by rw [hml]; rfl) [] [] rfl rfl (lenOf pd_4 rfl) 0 (Nat.le_of_eq rfl) (hb hby at_288) (by decide) (by decide) (by decide) (by decide) rfl ?_
    intro v131 T131 L131 X131 hQ131
    obtain ⟨rfl, N131q, K131, E131, F131_0, F131_1, F131_2, F131_3, F131_4, F131_5⟩ := hQ131
    have N131 := Fr.app N126 N131q
    have f132 := f127.keep K131 (ninS (Nat.ne_of_lt (Nat.lt_of_lt_of_le A15'.lt (Nat.le_of_eq g18.symm))) nin0)
    have f133 := f128.keep K131 (ninS (Ne.symm (Nat.ne_of_lt (Nat.lt_of_lt_of_le f26.lt sz_b27))) nin0)
    have f134 := f129.keep K131 (ninS (Ne.symm (Nat.ne_of_lt (Nat.lt_of_lt_of_le F27_5.lt (Nat.le_of_eq g39.symm)))) nin0)
    have f135 := A126.keep K131 (ninS (Ne.symm (Nat.ne_of_lt (Nat.lt_of_lt_of_le f26.lt sz_c27))) nin0)
    have Zs136 : n0 ≤ T131.heap.size := (Nat.le_trans Zs130 K131.1)
    show Go p e below s 40 4224 (Q0 Z q1 q2 q3 h0 n0) T131 (mkF m 291 #[.val (.long q1), .second, .val (.long q2), .second, .val (.long q3), .second, .val (.long z2), .second, .val (.long z4), .second, .val (.long z6), .second, .val (.ref b7), .val (.ref b18), .val (.int z31), .val (.int z34), .val (.int z37), .val (.ref b39), .val (.long z111), .second, .val (.int (0 : Int32)), .val (.int (3 : Int32)), .val (.int x2), .val (.long z113), .second, .val (.int x0), .val (.int x1), .unset, .unset, .unset] [(.int (3 : Int32))])
    refine g_istore 293 X131 hx (hb hby at_291) rfl (Ls' := #[.val (.long q1), .second, .val (.long q2), .second, .val (.long q3), .second, .val (.long z2), .second, .val (.long z4), .second, .val (.long z6), .second, .val (.ref b7), .val (.ref b18), .val (.int z31), .val (.int z34), .val (.int z37), .val (.ref b39), .val (.long z111), .second, .val (.int (0 : Int32)), .val (.int (3 : Int32)), .val (.int x2), .val (.long z113), .second, .val (.int x0), .val (.int x1), .val (.int (3 : Int32)), .unset, .unset]) rfl ?_
    refine g_aload 295 X131 hx (hb hby at_293) rfl (v := (.ref b18)) rfl rfl ?_
    refine g_callV 298 X131 hx hZ (y := (⟨"com/example/prefixwood/prefixwood/huffman/TwoQueues", "poll", "()I"⟩ : MethodName)) hown (hw _ (List.mem_of_getElem? (i := 28) rfl)) (hw _ (List.mem_of_getElem? (i := 29) rfl)) (hw _ (List.mem_of_getElem? (i := 31) rfl)) (hw _ (List.mem_of_getElem? (i := 30) rfl)) (hw _ (List.mem_of_getElem? (i := 4) rfl)) (hw _ (List.mem_of_getElem? (i := 32) rfl)) (by decide) rfl E131 (rm6F l Z a0 hw [] b18 b7 b27 c27 z2 z4 z6 x0 x1 x2 z111 (0 : Int64) T131.heap n0 Zs136 E131 F131_0 F131_1 F131_2 F131_3 F131_4 F131_5 f132 f133 f135 g_b18 g_c27 (Ne.symm (Nat.ne_of_lt (Nat.lt_of_lt_of_le A15'.lt (Nat.le_of_eq g18.symm)))) (Nat.ne_of_lt (Nat.lt_of_lt_of_le f26.lt sz_b27)) (Nat.ne_of_lt (Nat.lt_of_lt_of_le f26.lt sz_c27)) (Ne.symm (Nat.ne_of_lt (Nat.lt_of_lt_of_le f19.lt sz_c27))) (Ne.symm ne_27)) (by rw [hml]; rfl) [] [] rfl rfl (lenOf pd_4 rfl) 0 (Nat.le_of_eq rfl) (hb hby at_295) (by decide) (by decide) (by decide) (by decide) rfl ?_
    intro v137 T137 L137 X137 hQ137
    obtain ⟨rfl, N137q, K137, E137, F137_0, F137_1, F137_2, F137_3, F137_4, F137_5⟩ := hQ137
    have N137 := Fr.app N131 N137q
    have f138 := f132.keep K137 (ninS (Nat.ne_of_lt (Nat.lt_of_lt_of_le A15'.lt (Nat.le_of_eq g18.symm))) nin0)
    have f139 := f133.keep K137 (ninS (Ne.symm (Nat.ne_of_lt (Nat.lt_of_lt_of_le f26.lt sz_b27))) nin0)
    have f140 := f134.keep K137 (ninS (Ne.symm (Nat.ne_of_lt (Nat.lt_of_lt_of_le F27_5.lt (Nat.le_of_eq g39.symm)))) nin0)
    have f141 := f135.keep K137 (ninS (Ne.symm (Nat.ne_of_lt (Nat.lt_of_lt_of_le f26.lt sz_c27))) nin0)
    have Zs142 : n0 ≤ T137.heap.size := (Nat.le_trans Zs136 K137.1)
    show Go p e below s 40 4224 (Q0 Z q1 q2 q3 h0 n0) T137 (mkF m 298 #[.val (.long q1), .second, .val (.long q2), .second, .val (.long q3), .second, .val (.long z2), .second, .val (.long z4), .second, .val (.long z6), .second, .val (.ref b7), .val (.ref b18), .val (.int z31), .val (.int z34), .val (.int z37), .val (.ref b39), .val (.long z111), .second, .val (.int (0 : Int32)), .val (.int (3 : Int32)), .val (.int x2), .val (.long z113), .second, .val (.int x0), .val (.int x1), .val (.int (3 : Int32)), .unset, .unset] [(.int x2)])
    refine g_istore 300 X137 hx (hb hby at_298) rfl (Ls' := #[.val (.long q1), .second, .val (.long q2), .second, .val (.long q3), .second, .val (.long z2), .second, .val (.long z4), .second, .val (.long z6), .second, .val (.ref b7), .val (.ref b18), .val (.int z31), .val (.int z34), .val (.int z37), .val (.ref b39), .val (.long z111), .second, .val (.int (0 : Int32)), .val (.int (3 : Int32)), .val (.int x2), .val (.long z113), .second, .val (.int x0), .val (.int x1), .val (.int (3 : Int32)), .val (.int x2), .unset]) rfl ?_
    refine g_aload 302 X137 hx (hb hby at_300) rfl (v := (.ref b18)) rfl rfl ?_
    refine g_iconst 303 X137 hx (hb hby at_302) rfl (z := (4 : Int32)) rfl ?_
    refine g_lload 305 X137 hx (hb hby at_303) rfl (v := z113) rfl ?_
    refine g_iconst 306 X137 hx (hb hby at_305) rfl (z := (4 : Int32)) rfl ?_
    refine g_callV 309 X137 hx hZ (y := (⟨"com/example/prefixwood/prefixwood/huffman/TwoQueues", "add", "(IJI)V"⟩ : MethodName)) hown (hw _ (List.mem_of_getElem? (i := 39) rfl)) (hw _ (List.mem_of_getElem? (i := 40) rfl)) (hw _ (List.mem_of_getElem? (i := 42) rfl)) (hw _ (List.mem_of_getElem? (i := 41) rfl)) (hw _ (List.mem_of_getElem? (i := 4) rfl)) (hw _ (List.mem_of_getElem? (i := 43) rfl)) (by decide) rfl E137 (rm7B l Z a0 hw [] b18 (4 : Int32) z113 (4 : Int32) b7 b27 c27 z2 z4 z6 x0 x1 x2 z111 (0 : Int64) T137.heap n0 Zs142 E137 F137_0 F137_1 F137_2 F137_3 F137_4 F137_5 f138 f139 f141 g_b18 g_c27 (Ne.symm (Nat.ne_of_lt (Nat.lt_of_lt_of_le A15'.lt (Nat.le_of_eq g18.symm)))) (Nat.ne_of_lt (Nat.lt_of_lt_of_le f26.lt sz_b27)) (Nat.ne_of_lt (Nat.lt_of_lt_of_le f26.lt sz_c27)) (Ne.symm (Nat.ne_of_lt (Nat.lt_of_lt_of_le f19.lt sz_c27))) (Ne.symm ne_27)) (by rw [hml]; rfl) [(.int (4 : Int32)), (.long z113), (.int (4 : Int32))] [] rfl rfl (lenOf pd_5 rfl) 0 (Nat.le_of_eq rfl) (hb hby at_306) (by decide) (by decide) (by decide) (by decide) rfl ?_
    intro v143 T143 L143 X143 hQ143
    obtain ⟨rfl, N143q, K143, E143, F143_0, F143_1, F143_2, F143_3, F143_4, F143_5, A143⟩ := hQ143
    have N143 := Fr.app N137 N143q
    have f144 := f138.keep K143 (ninS (Nat.ne_of_lt (Nat.lt_of_lt_of_le A15'.lt (Nat.le_of_eq g18.symm))) (ninS (Nat.ne_of_lt (Nat.lt_of_lt_of_le f19.lt sz_c27)) nin0))
    have f145 := f139.keep K143 (ninS (Ne.symm (Nat.ne_of_lt (Nat.lt_of_lt_of_le f26.lt sz_b27))) (ninS ne_27 nin0))
    have f146 := f140.keep K143 (ninS (Ne.symm (Nat.ne_of_lt (Nat.lt_of_lt_of_le F27_5.lt (Nat.le_of_eq g39.symm)))) (ninS (Ne.symm (Nat.ne_of_lt (Nat.lt_of_lt_of_le B27.lt (Nat.le_of_eq g39.symm)))) nin0))
    have Zs147 : n0 ≤ T143.heap.size := (Nat.le_trans Zs142 K143.1)
    show Go p e below s 40 4224 (Q0 Z q1 q2 q3 h0 n0) T143 (mkF m 309 #[.val (.long q1), .second, .val (.long q2), .second, .val (.long q3), .second, .val (.long z2), .second, .val (.long z4), .second, .val (.long z6), .second, .val (.ref b7), .val (.ref b18), .val (.int z31), .val (.int z34), .val (.int z37), .val (.ref b39), .val (.long z111), .second, .val (.int (0 : Int32)), .val (.int (3 : Int32)), .val (.int x2), .val (.long z113), .second, .val (.int x0), .val (.int x1), .val (.int (3 : Int32)), .val (.int x2), .unset] [])
    refine g_aload 311 X143 hx (hb hby at_309) rfl (v := (.ref b18)) rfl rfl ?_
    refine g_callV 314 X143 hx hZ (y := (⟨"com/example/prefixwood/prefixwood/huffman/TwoQueues", "poll", "()I"⟩ : MethodName)) hown (hw _ (List.mem_of_getElem? (i := 28) rfl)) (hw _ (List.mem_of_getElem? (i := 29) rfl)) (hw _ (List.mem_of_getElem? (i := 31) rfl)) (hw _ (List.mem_of_getElem? (i := 30) rfl)) (hw _ (List.mem_of_getElem? (i := 4) rfl)) (hw _ (List.mem_of_getElem? (i := 32) rfl)) (by decide) rfl E143 (rm6G l Z a0 hw [] b18 b7 b27 c27 z2 z4 z6 x0 x1 x2 z111 z113 T143.heap n0 Zs147 E143 F143_0 F143_1 F143_2 F143_3 F143_4 F143_5 f144 f145 A143 g_b18 g_c27 (Ne.symm (Nat.ne_of_lt (Nat.lt_of_lt_of_le A15'.lt (Nat.le_of_eq g18.symm)))) (Nat.ne_of_lt (Nat.lt_of_lt_of_le f26.lt sz_b27)) (Nat.ne_of_lt (Nat.lt_of_lt_of_le f26.lt sz_c27)) (Ne.symm (Nat.ne_of_lt (Nat.lt_of_lt_of_le f19.lt sz_c27))) (Ne.symm ne_27)) (by rw [hml]; rfl) [] [] rfl rfl (lenOf pd_4 rfl) 0 (Nat.le_of_eq rfl) (hb hby at_311) (by decide) (by decide) (by decide) (by decide) rfl ?_
    intro v148 T148 L148 X148 hQ148
    obtain ⟨rfl, N148q, K148, E148, F148_0, F148_1, F148_2, F148_3, F148_4, F148_5⟩ := hQ148
    have N148 := Fr.app N143 N148q
    have f149 := f144.keep K148 (ninS (Nat.ne_of_lt (Nat.lt_of_lt_of_le A15'.lt (Nat.le_of_eq g18.symm))) nin0)
    have f150 := f145.keep K148 (ninS (Ne.symm (Nat.ne_of_lt (Nat.lt_of_lt_of_le f26.lt sz_b27))) nin0)
    have f151 := f146.keep K148 (ninS (Ne.symm (Nat.ne_of_lt (Nat.lt_of_lt_of_le F27_5.lt (Nat.le_of_eq g39.symm)))) nin0)
    have f152 := A143.keep K148 (ninS (Ne.symm (Nat.ne_of_lt (Nat.lt_of_lt_of_le f26.lt sz_c27))) nin0)
    have Zs153 : n0 ≤ T148.heap.size := (Nat.le_trans Zs147 K148.1)
    show Go p e below s 40 4224 (Q0 Z q1 q2 q3 h0 n0) T148 (mkF m 314 #[.val (.long q1), .second, .val (.long q2), .second, .val (.long q3), .second, .val (.long z2), .second, .val (.long z4), .second, .val (.long z6), .second, .val (.ref b7), .val (.ref b18), .val (.int z31), .val (.int z34), .val (.int z37), .val (.ref b39), .val (.long z111), .second, .val (.int (0 : Int32)), .val (.int (3 : Int32)), .val (.int x2), .val (.long z113), .second, .val (.int x0), .val (.int x1), .val (.int (3 : Int32)), .val (.int x2), .unset] [(.int (4 : Int32))])
    refine g_istore 316 X148 hx (hb hby at_314) rfl (Ls' := #[.val (.long q1), .second, .val (.long q2), .second, .val (.long q3), .second, .val (.long z2), .second, .val (.long z4), .second, .val (.long z6), .second, .val (.ref b7), .val (.ref b18), .val (.int z31), .val (.int z34), .val (.int z37), .val (.ref b39), .val (.long z111), .second, .val (.int (0 : Int32)), .val (.int (3 : Int32)), .val (.int x2), .val (.long z113), .second, .val (.int x0), .val (.int x1), .val (.int (3 : Int32)), .val (.int x2), .val (.int (4 : Int32))]) rfl ?_
    refine g_iload 318 X148 hx (hb hby at_316) rfl (v := x0) rfl ?_
    refine g_aload 320 X148 hx (hb hby at_318) rfl (v := (.ref b39)) rfl rfl ?_
    refine g_iconst 321 X148 hx (hb hby at_320) rfl (z := (0 : Int32)) rfl ?_
    refine g_iaload 322 X148 hx hZ rfl f151 0 (by decide) rfl (z := x0) rfl (hb hby at_321) rfl ?_
    refine g_icmpNo 325 X148 hx (hb hby at_322)  (teq (rfl : x0 = x0)).2 rfl ?_
    refine g_iload 327 X148 hx (hb hby at_325) rfl (v := x1) rfl ?_
    refine g_aload 329 X148 hx (hb hby at_327) rfl (v := (.ref b39)) rfl rfl ?_
    refine g_iconst 330 X148 hx (hb hby at_329) rfl (z := (1 : Int32)) rfl ?_
    refine g_iaload 331 X148 hx hZ rfl f151 1 (by decide) rfl (z := x1) rfl (hb hby at_330) rfl ?_
    refine g_icmpNo 334 X148 hx (hb hby at_331)  (teq (rfl : x1 = x1)).2 rfl ?_
    refine g_iload 336 X148 hx (hb hby at_334) rfl (v := (3 : Int32)) rfl ?_
    refine g_iload 338 X148 hx (hb hby at_336) rfl (v := (3 : Int32)) rfl ?_
    refine g_icmpNo 341 X148 hx (hb hby at_338)  (teq (rfl : (3 : Int32) = (3 : Int32))).2 rfl ?_
    refine g_iload 343 X148 hx (hb hby at_341) rfl (v := x2) rfl ?_
    refine g_iload 345 X148 hx (hb hby at_343) rfl (v := x2) rfl ?_
    refine g_icmpNo 348 X148 hx (hb hby at_345)  (teq (rfl : x2 = x2)).2 rfl ?_
    refine g_iload 350 X148 hx (hb hby at_348) rfl (v := (4 : Int32)) rfl ?_
    refine g_iconst 351 X148 hx (hb hby at_350) rfl (z := (4 : Int32)) rfl ?_
    refine g_icmpNo 354 X148 hx (hb hby at_351)  (teq (rfl : (4 : Int32) = (4 : Int32))).2 rfl ?_
    refine g_iconst 355 X148 hx (hb hby at_354) rfl (z := (1 : Int32)) rfl ?_
    refine g_goto 359 X148 hx (hb hby at_355) (by decide) (by decide) ?_
    exact g_retN X148 hx (t := .boolean) Bd.returns hlk (by simp) rfl (hb hby at_359) (by decide) (by decide) ⟨rfl, N148⟩
  ·
    refine g_lcmpNo 214 X98 hx (hb hby at_210) rfl (hb hby at_211) (fltL hc210_111).2.2.1 rfl ?_
    refine g_iconst 215 X98 hx (hb hby at_214) rfl (z := (1 : Int32)) rfl ?_
    refine g_goto 219 X98 hx (hb hby at_215) (by decide) (by decide) ?_
    refine g_istore 221 X98 hx (hb hby at_219) rfl (Ls' := #[.val (.long q1), .second, .val (.long q2), .second, .val (.long q3), .second, .val (.long z2), .second, .val (.long z4), .second, .val (.long z6), .second, .val (.ref b7), .val (.ref b18), .val (.int z31), .val (.int z34), .val (.int z37), .val (.ref b39), .val (.long z111), .second, .val (.int (1 : Int32)), .unset, .unset, .unset, .unset, .unset, .unset, .unset, .unset, .unset]) rfl ?_
    refine g_iload 223 X98 hx (hb hby at_221) rfl (v := (1 : Int32)) rfl ?_
    refine g_ifNo 226 X98 hx (hb hby at_223)  ((if0 _ _).trans (feq (by decide : ¬ ((1 : Int32) = (0 : Int32)))).1) rfl ?_
    refine g_aload 228 X98 hx (hb hby at_226) rfl (v := (.ref b39)) rfl rfl ?_
    refine g_iconst 229 X98 hx (hb hby at_228) rfl (z := (2 : Int32)) rfl ?_
    refine g_iaload 230 X98 hx hZ e98 AS1 2 (by decide) rfl (z := x2) rfl (hb hby at_229) rfl ?_
    refine g_goto 234 X98 hx (hb hby at_230) (by decide) (by decide) ?_
    refine g_istore 236 X98 hx (hb hby at_234) rfl (Ls' := #[.val (.long q1), .second, .val (.long q2), .second, .val (.long q3), .second, .val (.long z2), .second, .val (.long z4), .second, .val (.long z6), .second, .val (.ref b7), .val (.ref b18), .val (.int z31), .val (.int z34), .val (.int z37), .val (.ref b39), .val (.long z111), .second, .val (.int (1 : Int32)), .val (.int x2), .unset, .unset, .unset, .unset, .unset, .unset, .unset, .unset]) rfl ?_
    refine g_iload 238 X98 hx (hb hby at_236) rfl (v := (1 : Int32)) rfl ?_
    refine g_ifNo 241 X98 hx (hb hby at_238)  ((if0 _ _).trans (feq (by decide : ¬ ((1 : Int32) = (0 : Int32)))).1) rfl ?_
    refine g_iconst 242 X98 hx (hb hby at_241) rfl (z := (3 : Int32)) rfl ?_
    refine g_goto 249 X98 hx (hb hby at_242) (by decide) (by decide) ?_
    refine g_istore 251 X98 hx (hb hby at_249) rfl (Ls' := #[.val (.long q1), .second, .val (.long q2), .second, .val (.long q3), .second, .val (.long z2), .second, .val (.long z4), .second, .val (.long z6), .second, .val (.ref b7), .val (.ref b18), .val (.int z31), .val (.int z34), .val (.int z37), .val (.ref b39), .val (.long z111), .second, .val (.int (1 : Int32)), .val (.int x2), .val (.int (3 : Int32)), .unset, .unset, .unset, .unset, .unset, .unset, .unset]) rfl ?_
    refine g_lload 253 X98 hx (hb hby at_251) rfl (v := z111) rfl ?_
    refine g_aload 255 X98 hx (hb hby at_253) rfl (v := (.ref b7)) rfl rfl ?_
    refine g_aload 257 X98 hx (hb hby at_255) rfl (v := (.ref b39)) rfl rfl ?_
    refine g_iconst 258 X98 hx (hb hby at_257) rfl (z := (2 : Int32)) rfl ?_
    refine g_iaload 259 X98 hx hZ e98 AS1 2 (by decide) rfl (z := x2) rfl (hb hby at_258) rfl ?_
    refine g_laload 260 X98 hx hZ e98 f99 (x2.toInt.toNat) (own_nat0 hB.2.2.1) rfl (z := (([z2, z4, z6] : List Int64).getD x2.toInt.toNat 0)) (own_getJ (by have q := hB.2.2; show _ < 3; omega)) (hb hby at_259) rfl ?_
    obtain ⟨z154, hz154⟩ : ∃ z : Int64, z111 + (([z2, z4, z6] : List Int64).getD x2.toInt.toNat 0) = z := ⟨_, rfl⟩
    refine g_ladd 261 X98 hx (hb hby at_260) rfl (z := z154) hz154 ?_
    refine g_lstore 263 X98 hx (hb hby at_261) rfl (Ls' := #[.val (.long q1), .second, .val (.long q2), .second, .val (.long q3), .second, .val (.long z2), .second, .val (.long z4), .second, .val (.long z6), .second, .val (.ref b7), .val (.ref b18), .val (.int z31), .val (.int z34), .val (.int z37), .val (.ref b39), .val (.long z111), .second, .val (.int (1 : Int32)), .val (.int x2), .val (.int (3 : Int32)), .val (.long z154), .second, .unset, .unset, .unset, .unset, .unset]) rfl ?_
    refine g_aload 265 X98 hx (hb hby at_263) rfl (v := (.ref b18)) rfl rfl ?_
    refine g_callV 268 X98 hx hZ (y := (⟨"com/example/prefixwood/prefixwood/huffman/TwoQueues", "poll", "()I"⟩ : MethodName)) hown (hw _ (List.mem_of_getElem? (i := 28) rfl)) (hw _ (List.mem_of_getElem? (i := 29) rfl)) (hw _ (List.mem_of_getElem? (i := 31) rfl)) (hw _ (List.mem_of_getElem? (i := 30) rfl)) (hw _ (List.mem_of_getElem? (i := 4) rfl)) (hw _ (List.mem_of_getElem? (i := 32) rfl)) (by decide) e98 f100 (rm6A l Z a0 hw [] b18 b7 b27 c27 z2 z4 z6 x0 x1 x2 (0 : Int64) (0 : Int64) h98 n0 Zs109 f100 f101 f102 f103 f104 f105 f106 f99 AS2 f108 g_b18 g_c27 (Ne.symm (Nat.ne_of_lt (Nat.lt_of_lt_of_le A15'.lt (Nat.le_of_eq g18.symm)))) (Nat.ne_of_lt (Nat.lt_of_lt_of_le f26.lt sz_b27)) (Nat.ne_of_lt (Nat.lt_of_lt_of_le f26.lt sz_c27)) (Ne.symm (Nat.ne_of_lt (Nat.lt_of_lt_of_le f19.lt sz_c27))) (Ne.symm ne_27)) (by rw [hml]; rfl) [] [] rfl rfl (lenOf pd_4 rfl) 0 (Nat.le_of_eq rfl) (hb hby at_265) (by decide) (by decide) (by decide) (by decide) rfl ?_
    intro v155 T155 L155 X155 hQ155
    obtain ⟨rfl, N155q, K155, E155, F155_0, F155_1, F155_2, F155_3, F155_4, F155_5⟩ := hQ155
    have N155 := Fr.app N110 N155q
    have f156 := f99.keep K155 (ninS (Nat.ne_of_lt (Nat.lt_of_lt_of_le A15'.lt (Nat.le_of_eq g18.symm))) nin0)
    have f157 := AS2.keep K155 (ninS (Ne.symm (Nat.ne_of_lt (Nat.lt_of_lt_of_le f26.lt sz_b27))) nin0)
    have f158 := f108.keep K155 (ninS (Ne.symm (Nat.ne_of_lt (Nat.lt_of_lt_of_le f26.lt sz_c27))) nin0)
    have f159 := AS1.keep K155 (ninS (Ne.symm (Nat.ne_of_lt (Nat.lt_of_lt_of_le F27_5.lt (Nat.le_of_eq g39.symm)))) nin0)
    have Zs160 : n0 ≤ T155.heap.size := (Nat.le_trans Zs109 K155.1)
    show Go p e below s 40 4224 (Q0 Z q1 q2 q3 h0 n0) T155 (mkF m 268 #[.val (.long q1), .second, .val (.long q2), .second, .val (.long q3), .second, .val (.long z2), .second, .val (.long z4), .second, .val (.long z6), .second, .val (.ref b7), .val (.ref b18), .val (.int z31), .val (.int z34), .val (.int z37), .val (.ref b39), .val (.long z111), .second, .val (.int (1 : Int32)), .val (.int x2), .val (.int (3 : Int32)), .val (.long z154), .second, .unset, .unset, .unset, .unset, .unset] [(.int x0)])
    refine g_istore 270 X155 hx (hb hby at_268) rfl (Ls' := #[.val (.long q1), .second, .val (.long q2), .second, .val (.long q3), .second, .val (.long z2), .second, .val (.long z4), .second, .val (.long z6), .second, .val (.ref b7), .val (.ref b18), .val (.int z31), .val (.int z34), .val (.int z37), .val (.ref b39), .val (.long z111), .second, .val (.int (1 : Int32)), .val (.int x2), .val (.int (3 : Int32)), .val (.long z154), .second, .val (.int x0), .unset, .unset, .unset, .unset]) rfl ?_
    refine g_aload 272 X155 hx (hb hby at_270) rfl (v := (.ref b18)) rfl rfl ?_
    refine g_callV 275 X155 hx hZ (y := (⟨"com/example/prefixwood/prefixwood/huffman/TwoQueues", "poll", "()I"⟩ : MethodName)) hown (hw _ (List.mem_of_getElem? (i := 28) rfl)) (hw _ (List.mem_of_getElem? (i := 29) rfl)) (hw _ (List.mem_of_getElem? (i := 31) rfl)) (hw _ (List.mem_of_getElem? (i := 30) rfl)) (hw _ (List.mem_of_getElem? (i := 4) rfl)) (hw _ (List.mem_of_getElem? (i := 32) rfl)) (by decide) rfl E155 (rm6B l Z a0 hw [] b18 b7 b27 c27 z2 z4 z6 x0 x1 x2 (0 : Int64) (0 : Int64) T155.heap n0 Zs160 E155 F155_0 F155_1 F155_2 F155_3 F155_4 F155_5 f156 f157 f158 g_b18 g_c27 (Ne.symm (Nat.ne_of_lt (Nat.lt_of_lt_of_le A15'.lt (Nat.le_of_eq g18.symm)))) (Nat.ne_of_lt (Nat.lt_of_lt_of_le f26.lt sz_b27)) (Nat.ne_of_lt (Nat.lt_of_lt_of_le f26.lt sz_c27)) (Ne.symm (Nat.ne_of_lt (Nat.lt_of_lt_of_le f19.lt sz_c27))) (Ne.symm ne_27)) (by rw [hml]; rfl) [] [] rfl rfl (lenOf pd_4 rfl) 0 (Nat.le_of_eq rfl) (hb hby at_272) (by decide) (by decide) (by decide) (by decide) rfl ?_
    intro v161 T161 L161 X161 hQ161
    obtain ⟨rfl, N161q, K161, E161, F161_0, F161_1, F161_2, F161_3, F161_4, F161_5⟩ := hQ161
    have N161 := Fr.app N155 N161q
    have f162 := f156.keep K161 (ninS (Nat.ne_of_lt (Nat.lt_of_lt_of_le A15'.lt (Nat.le_of_eq g18.symm))) nin0)
    have f163 := f157.keep K161 (ninS (Ne.symm (Nat.ne_of_lt (Nat.lt_of_lt_of_le f26.lt sz_b27))) nin0)
    have f164 := f158.keep K161 (ninS (Ne.symm (Nat.ne_of_lt (Nat.lt_of_lt_of_le f26.lt sz_c27))) nin0)
    have f165 := f159.keep K161 (ninS (Ne.symm (Nat.ne_of_lt (Nat.lt_of_lt_of_le F27_5.lt (Nat.le_of_eq g39.symm)))) nin0)
    have Zs166 : n0 ≤ T161.heap.size := (Nat.le_trans Zs160 K161.1)
    show Go p e below s 40 4224 (Q0 Z q1 q2 q3 h0 n0) T161 (mkF m 275 #[.val (.long q1), .second, .val (.long q2), .second, .val (.long q3), .second, .val (.long z2), .second, .val (.long z4), .second, .val (.long z6), .second, .val (.ref b7), .val (.ref b18), .val (.int z31), .val (.int z34), .val (.int z37), .val (.ref b39), .val (.long z111), .second, .val (.int (1 : Int32)), .val (.int x2), .val (.int (3 : Int32)), .val (.long z154), .second, .val (.int x0), .unset, .unset, .unset, .unset] [(.int x1)])
    refine g_istore 277 X161 hx (hb hby at_275) rfl (Ls' := #[.val (.long q1), .second, .val (.long q2), .second, .val (.long q3), .second, .val (.long z2), .second, .val (.long z4), .second, .val (.long z6), .second, .val (.ref b7), .val (.ref b18), .val (.int z31), .val (.int z34), .val (.int z37), .val (.ref b39), .val (.long z111), .second, .val (.int (1 : Int32)), .val (.int x2), .val (.int (3 : Int32)), .val (.long z154), .second, .val (.int x0), .val (.int x1), .unset, .unset, .unset]) rfl ?_
    refine g_aload 279 X161 hx (hb hby at_277) rfl (v := (.ref b18)) rfl rfl ?_
    refine g_iconst 280 X161 hx (hb hby at_279) rfl (z := (3 : Int32)) rfl ?_
    refine g_lload 282 X161 hx (hb hby at_280) rfl (v := z111) rfl ?_
    refine g_iconst 283 X161 hx (hb hby at_282) rfl (z := (3 : Int32)) rfl ?_
    refine g_callV 286 X161 hx hZ (y := (⟨"com/example/prefixwood/prefixwood/huffman/TwoQueues", "add", "(IJI)V"⟩ : MethodName)) hown (hw _ (List.mem_of_getElem? (i := 39) rfl)) (hw _ (List.mem_of_getElem? (i := 40) rfl)) (hw _ (List.mem_of_getElem? (i := 42) rfl)) (hw _ (List.mem_of_getElem? (i := 41) rfl)) (hw _ (List.mem_of_getElem? (i := 4) rfl)) (hw _ (List.mem_of_getElem? (i := 43) rfl)) (by decide) rfl E161 (rm7A l Z a0 hw [] b18 (3 : Int32) z111 (3 : Int32) b7 b27 c27 z2 z4 z6 x0 x1 x2 (0 : Int64) (0 : Int64) T161.heap n0 Zs166 E161 F161_0 F161_1 F161_2 F161_3 F161_4 F161_5 f162 f163 f164 g_b18 g_c27 (Ne.symm (Nat.ne_of_lt (Nat.lt_of_lt_of_le A15'.lt (Nat.le_of_eq g18.symm)))) (Nat.ne_of_lt (Nat.lt_of_lt_of_le f26.lt sz_b27)) (Nat.ne_of_lt (Nat.lt_of_lt_of_le f26.lt sz_c27)) (Ne.symm (Nat.ne_of_lt (Nat.lt_of_lt_of_le f19.lt sz_c27))) (Ne.symm ne_27)) (by rw [hml]; rfl) [(.int (3 : Int32)), (.long z111), (.int (3 : Int32))] [] rfl rfl (lenOf pd_5 rfl) 0 (Nat.le_of_eq rfl) (hb hby at_283) (by decide) (by decide) (by decide) (by decide) rfl ?_
    intro v167 T167 L167 X167 hQ167
    obtain ⟨rfl, N167q, K167, E167, F167_0, F167_1, F167_2, F167_3, F167_4, F167_5, A167⟩ := hQ167
    have N167 := Fr.app N161 N167q
    have f168 := f162.keep K167 (ninS (Nat.ne_of_lt (Nat.lt_of_lt_of_le A15'.lt (Nat.le_of_eq g18.symm))) (ninS (Nat.ne_of_lt (Nat.lt_of_lt_of_le f19.lt sz_c27)) nin0))
    have f169 := f163.keep K167 (ninS (Ne.symm (Nat.ne_of_lt (Nat.lt_of_lt_of_le f26.lt sz_b27))) (ninS ne_27 nin0))
    have f170 := f165.keep K167 (ninS (Ne.symm (Nat.ne_of_lt (Nat.lt_of_lt_of_le F27_5.lt (Nat.le_of_eq g39.symm)))) (ninS (Ne.symm (Nat.ne_of_lt (Nat.lt_of_lt_of_le B27.lt (Nat.le_of_eq g39.symm)))) nin0))
    have Zs171 : n0 ≤ T167.heap.size := (Nat.le_trans Zs166 K167.1)
    show Go p e below s 40 4224 (Q0 Z q1 q2 q3 h0 n0) T167 (mkF m 286 #[.val (.long q1), .second, .val (.long q2), .second, .val (.long q3), .second, .val (.long z2), .second, .val (.long z4), .second, .val (.long z6), .second, .val (.ref b7), .val (.ref b18), .val (.int z31), .val (.int z34), .val (.int z37), .val (.ref b39), .val (.long z111), .second, .val (.int (1 : Int32)), .val (.int x2), .val (.int (3 : Int32)), .val (.long z154), .second, .val (.int x0), .val (.int x1), .unset, .unset, .unset] [])
    refine g_aload 288 X167 hx (hb hby at_286) rfl (v := (.ref b18)) rfl rfl ?_
    refine g_callV 291 X167 hx hZ (y := (⟨"com/example/prefixwood/prefixwood/huffman/TwoQueues", "poll", "()I"⟩ : MethodName)) hown (hw _ (List.mem_of_getElem? (i := 28) rfl)) (hw _ (List.mem_of_getElem? (i := 29) rfl)) (hw _ (List.mem_of_getElem? (i := 31) rfl)) (hw _ (List.mem_of_getElem? (i := 30) rfl)) (hw _ (List.mem_of_getElem? (i := 4) rfl)) (hw _ (List.mem_of_getElem? (i := 32) rfl)) (by decide) rfl E167 (rm6C l Z a0 hw [] b18 b7 b27 c27 z2 z4 z6 x0 x1 x2 z111 (0 : Int64) T167.heap n0 Zs171 E167 F167_0 F167_1 F167_2 F167_3 F167_4 F167_5 f168 f169 A167 g_b18 g_c27 (Ne.symm (Nat.ne_of_lt (Nat.lt_of_lt_of_le A15'.lt (Nat.le_of_eq g18.symm)))) (Nat.ne_of_lt (Nat.lt_of_lt_of_le f26.lt sz_b27)) (Nat.ne_of_lt (Nat.lt_of_lt_of_le f26.lt sz_c27)) (Ne.symm (Nat.ne_of_lt (Nat.lt_of_lt_of_le f19.lt sz_c27))) (Ne.symm ne_27) hB.2.2 hc210_111) (by rw [hml]; rfl) [] [] rfl rfl (lenOf pd_4 rfl) 0 (Nat.le_of_eq rfl) (hb hby at_288) (by decide) (by decide) (by decide) (by decide) rfl ?_
    intro v172 T172 L172 X172 hQ172
    obtain ⟨rfl, N172q, K172, E172, F172_0, F172_1, F172_2, F172_3, F172_4, F172_5⟩ := hQ172
    have N172 := Fr.app N167 N172q
    have f173 := f168.keep K172 (ninS (Nat.ne_of_lt (Nat.lt_of_lt_of_le A15'.lt (Nat.le_of_eq g18.symm))) nin0)
    have f174 := f169.keep K172 (ninS (Ne.symm (Nat.ne_of_lt (Nat.lt_of_lt_of_le f26.lt sz_b27))) nin0)
    have f175 := f170.keep K172 (ninS (Ne.symm (Nat.ne_of_lt (Nat.lt_of_lt_of_le F27_5.lt (Nat.le_of_eq g39.symm)))) nin0)
    have f176 := A167.keep K172 (ninS (Ne.symm (Nat.ne_of_lt (Nat.lt_of_lt_of_le f26.lt sz_c27))) nin0)
    have Zs177 : n0 ≤ T172.heap.size := (Nat.le_trans Zs171 K172.1)
    show Go p e below s 40 4224 (Q0 Z q1 q2 q3 h0 n0) T172 (mkF m 291 #[.val (.long q1), .second, .val (.long q2), .second, .val (.long q3), .second, .val (.long z2), .second, .val (.long z4), .second, .val (.long z6), .second, .val (.ref b7), .val (.ref b18), .val (.int z31), .val (.int z34), .val (.int z37), .val (.ref b39), .val (.long z111), .second, .val (.int (1 : Int32)), .val (.int x2), .val (.int (3 : Int32)), .val (.long z154), .second, .val (.int x0), .val (.int x1), .unset, .unset, .unset] [(.int x2)])
    refine g_istore 293 X172 hx (hb hby at_291) rfl (Ls' := #[.val (.long q1), .second, .val (.long q2), .second, .val (.long q3), .second, .val (.long z2), .second, .val (.long z4), .second, .val (.long z6), .second, .val (.ref b7), .val (.ref b18), .val (.int z31), .val (.int z34), .val (.int z37), .val (.ref b39), .val (.long z111), .second, .val (.int (1 : Int32)), .val (.int x2), .val (.int (3 : Int32)), .val (.long z154), .second, .val (.int x0), .val (.int x1), .val (.int x2), .unset, .unset]) rfl ?_
    refine g_aload 295 X172 hx (hb hby at_293) rfl (v := (.ref b18)) rfl rfl ?_
    refine g_callV 298 X172 hx hZ (y := (⟨"com/example/prefixwood/prefixwood/huffman/TwoQueues", "poll", "()I"⟩ : MethodName)) hown (hw _ (List.mem_of_getElem? (i := 28) rfl)) (hw _ (List.mem_of_getElem? (i := 29) rfl)) (hw _ (List.mem_of_getElem? (i := 31) rfl)) (hw _ (List.mem_of_getElem? (i := 30) rfl)) (hw _ (List.mem_of_getElem? (i := 4) rfl)) (hw _ (List.mem_of_getElem? (i := 32) rfl)) (by decide) rfl E172 (rm6E l Z a0 hw [] b18 b7 b27 c27 z2 z4 z6 x0 x1 x2 z111 (0 : Int64) T172.heap n0 Zs177 E172 F172_0 F172_1 F172_2 F172_3 F172_4 F172_5 f173 f174 f176 g_b18 g_c27 (Ne.symm (Nat.ne_of_lt (Nat.lt_of_lt_of_le A15'.lt (Nat.le_of_eq g18.symm)))) (Nat.ne_of_lt (Nat.lt_of_lt_of_le f26.lt sz_b27)) (Nat.ne_of_lt (Nat.lt_of_lt_of_le f26.lt sz_c27)) (Ne.symm (Nat.ne_of_lt (Nat.lt_of_lt_of_le f19.lt sz_c27))) (Ne.symm ne_27)) (by rw [hml]; rfl) [] [] rfl rfl (lenOf pd_4 rfl) 0 (Nat.le_of_eq rfl) (hb hby at_295) (by decide) (by decide) (by decide) (by decide) rfl ?_
    intro v178 T178 L178 X178 hQ178
    obtain ⟨rfl, N178q, K178, E178, F178_0, F178_1, F178_2, F178_3, F178_4, F178_5⟩ := hQ178
    have N178 := Fr.app N172 N178q
    have f179 := f173.keep K178 (ninS (Nat.ne_of_lt (Nat.lt_of_lt_of_le A15'.lt (Nat.le_of_eq g18.symm))) nin0)
    have f180 := f174.keep K178 (ninS (Ne.symm (Nat.ne_of_lt (Nat.lt_of_lt_of_le f26.lt sz_b27))) nin0)
    have f181 := f175.keep K178 (ninS (Ne.symm (Nat.ne_of_lt (Nat.lt_of_lt_of_le F27_5.lt (Nat.le_of_eq g39.symm)))) nin0)
    have f182 := f176.keep K178 (ninS (Ne.symm (Nat.ne_of_lt (Nat.lt_of_lt_of_le f26.lt sz_c27))) nin0)
    have Zs183 : n0 ≤ T178.heap.size := (Nat.le_trans Zs177 K178.1)
    show Go p e below s 40 4224 (Q0 Z q1 q2 q3 h0 n0) T178 (mkF m 298 #[.val (.long q1), .second, .val (.long q2), .second, .val (.long q3), .second, .val (.long z2), .second, .val (.long z4), .second, .val (.long z6), .second, .val (.ref b7), .val (.ref b18), .val (.int z31), .val (.int z34), .val (.int z37), .val (.ref b39), .val (.long z111), .second, .val (.int (1 : Int32)), .val (.int x2), .val (.int (3 : Int32)), .val (.long z154), .second, .val (.int x0), .val (.int x1), .val (.int x2), .unset, .unset] [(.int (3 : Int32))])
    refine g_istore 300 X178 hx (hb hby at_298) rfl (Ls' := #[.val (.long q1), .second, .val (.long q2), .second, .val (.long q3), .second, .val (.long z2), .second, .val (.long z4), .second, .val (.long z6), .second, .val (.ref b7), .val (.ref b18), .val (.int z31), .val (.int z34), .val (.int z37), .val (.ref b39), .val (.long z111), .second, .val (.int (1 : Int32)), .val (.int x2), .val (.int (3 : Int32)), .val (.long z154), .second, .val (.int x0), .val (.int x1), .val (.int x2), .val (.int (3 : Int32)), .unset]) rfl ?_
    refine g_aload 302 X178 hx (hb hby at_300) rfl (v := (.ref b18)) rfl rfl ?_
    refine g_iconst 303 X178 hx (hb hby at_302) rfl (z := (4 : Int32)) rfl ?_
    refine g_lload 305 X178 hx (hb hby at_303) rfl (v := z154) rfl ?_
    refine g_iconst 306 X178 hx (hb hby at_305) rfl (z := (4 : Int32)) rfl ?_
    refine g_callV 309 X178 hx hZ (y := (⟨"com/example/prefixwood/prefixwood/huffman/TwoQueues", "add", "(IJI)V"⟩ : MethodName)) hown (hw _ (List.mem_of_getElem? (i := 39) rfl)) (hw _ (List.mem_of_getElem? (i := 40) rfl)) (hw _ (List.mem_of_getElem? (i := 42) rfl)) (hw _ (List.mem_of_getElem? (i := 41) rfl)) (hw _ (List.mem_of_getElem? (i := 4) rfl)) (hw _ (List.mem_of_getElem? (i := 43) rfl)) (by decide) rfl E178 (rm7B l Z a0 hw [] b18 (4 : Int32) z154 (4 : Int32) b7 b27 c27 z2 z4 z6 x0 x1 x2 z111 (0 : Int64) T178.heap n0 Zs183 E178 F178_0 F178_1 F178_2 F178_3 F178_4 F178_5 f179 f180 f182 g_b18 g_c27 (Ne.symm (Nat.ne_of_lt (Nat.lt_of_lt_of_le A15'.lt (Nat.le_of_eq g18.symm)))) (Nat.ne_of_lt (Nat.lt_of_lt_of_le f26.lt sz_b27)) (Nat.ne_of_lt (Nat.lt_of_lt_of_le f26.lt sz_c27)) (Ne.symm (Nat.ne_of_lt (Nat.lt_of_lt_of_le f19.lt sz_c27))) (Ne.symm ne_27)) (by rw [hml]; rfl) [(.int (4 : Int32)), (.long z154), (.int (4 : Int32))] [] rfl rfl (lenOf pd_5 rfl) 0 (Nat.le_of_eq rfl) (hb hby at_306) (by decide) (by decide) (by decide) (by decide) rfl ?_
    intro v184 T184 L184 X184 hQ184
    obtain ⟨rfl, N184q, K184, E184, F184_0, F184_1, F184_2, F184_3, F184_4, F184_5, A184⟩ := hQ184
    have N184 := Fr.app N178 N184q
    have f185 := f179.keep K184 (ninS (Nat.ne_of_lt (Nat.lt_of_lt_of_le A15'.lt (Nat.le_of_eq g18.symm))) (ninS (Nat.ne_of_lt (Nat.lt_of_lt_of_le f19.lt sz_c27)) nin0))
    have f186 := f180.keep K184 (ninS (Ne.symm (Nat.ne_of_lt (Nat.lt_of_lt_of_le f26.lt sz_b27))) (ninS ne_27 nin0))
    have f187 := f181.keep K184 (ninS (Ne.symm (Nat.ne_of_lt (Nat.lt_of_lt_of_le F27_5.lt (Nat.le_of_eq g39.symm)))) (ninS (Ne.symm (Nat.ne_of_lt (Nat.lt_of_lt_of_le B27.lt (Nat.le_of_eq g39.symm)))) nin0))
    have Zs188 : n0 ≤ T184.heap.size := (Nat.le_trans Zs183 K184.1)
    show Go p e below s 40 4224 (Q0 Z q1 q2 q3 h0 n0) T184 (mkF m 309 #[.val (.long q1), .second, .val (.long q2), .second, .val (.long q3), .second, .val (.long z2), .second, .val (.long z4), .second, .val (.long z6), .second, .val (.ref b7), .val (.ref b18), .val (.int z31), .val (.int z34), .val (.int z37), .val (.ref b39), .val (.long z111), .second, .val (.int (1 : Int32)), .val (.int x2), .val (.int (3 : Int32)), .val (.long z154), .second, .val (.int x0), .val (.int x1), .val (.int x2), .val (.int (3 : Int32)), .unset] [])
    refine g_aload 311 X184 hx (hb hby at_309) rfl (v := (.ref b18)) rfl rfl ?_
    refine g_callV 314 X184 hx hZ (y := (⟨"com/example/prefixwood/prefixwood/huffman/TwoQueues", "poll", "()I"⟩ : MethodName)) hown (hw _ (List.mem_of_getElem? (i := 28) rfl)) (hw _ (List.mem_of_getElem? (i := 29) rfl)) (hw _ (List.mem_of_getElem? (i := 31) rfl)) (hw _ (List.mem_of_getElem? (i := 30) rfl)) (hw _ (List.mem_of_getElem? (i := 4) rfl)) (hw _ (List.mem_of_getElem? (i := 32) rfl)) (by decide) rfl E184 (rm6G l Z a0 hw [] b18 b7 b27 c27 z2 z4 z6 x0 x1 x2 z111 z154 T184.heap n0 Zs188 E184 F184_0 F184_1 F184_2 F184_3 F184_4 F184_5 f185 f186 A184 g_b18 g_c27 (Ne.symm (Nat.ne_of_lt (Nat.lt_of_lt_of_le A15'.lt (Nat.le_of_eq g18.symm)))) (Nat.ne_of_lt (Nat.lt_of_lt_of_le f26.lt sz_b27)) (Nat.ne_of_lt (Nat.lt_of_lt_of_le f26.lt sz_c27)) (Ne.symm (Nat.ne_of_lt (Nat.lt_of_lt_of_le f19.lt sz_c27))) (Ne.symm ne_27)) (by rw [hml]; rfl) [] [] rfl rfl (lenOf pd_4 rfl) 0 (Nat.le_of_eq rfl) (hb hby at_311) (by decide) (by decide) (by decide) (by decide) rfl ?_
    intro v189 T189 L189 X189 hQ189
    obtain ⟨rfl, N189q, K189, E189, F189_0, F189_1, F189_2, F189_3, F189_4, F189_5⟩ := hQ189
    have N189 := Fr.app N184 N189q
    have f190 := f185.keep K189 (ninS (Nat.ne_of_lt (Nat.lt_of_lt_of_le A15'.lt (Nat.le_of_eq g18.symm))) nin0)
    have f191 := f186.keep K189 (ninS (Ne.symm (Nat.ne_of_lt (Nat.lt_of_lt_of_le f26.lt sz_b27))) nin0)
    have f192 := f187.keep K189 (ninS (Ne.symm (Nat.ne_of_lt (Nat.lt_of_lt_of_le F27_5.lt (Nat.le_of_eq g39.symm)))) nin0)
    have f193 := A184.keep K189 (ninS (Ne.symm (Nat.ne_of_lt (Nat.lt_of_lt_of_le f26.lt sz_c27))) nin0)
    have Zs194 : n0 ≤ T189.heap.size := (Nat.le_trans Zs188 K189.1)
    show Go p e below s 40 4224 (Q0 Z q1 q2 q3 h0 n0) T189 (mkF m 314 #[.val (.long q1), .second, .val (.long q2), .second, .val (.long q3), .second, .val (.long z2), .second, .val (.long z4), .second, .val (.long z6), .second, .val (.ref b7), .val (.ref b18), .val (.int z31), .val (.int z34), .val (.int z37), .val (.ref b39), .val (.long z111), .second, .val (.int (1 : Int32)), .val (.int x2), .val (.int (3 : Int32)), .val (.long z154), .second, .val (.int x0), .val (.int x1), .val (.int x2), .val (.int (3 : Int32)), .unset] [(.int (4 : Int32))])
    refine g_istore 316 X189 hx (hb hby at_314) rfl (Ls' := #[.val (.long q1), .second, .val (.long q2), .second, .val (.long q3), .second, .val (.long z2), .second, .val (.long z4), .second, .val (.long z6), .second, .val (.ref b7), .val (.ref b18), .val (.int z31), .val (.int z34), .val (.int z37), .val (.ref b39), .val (.long z111), .second, .val (.int (1 : Int32)), .val (.int x2), .val (.int (3 : Int32)), .val (.long z154), .second, .val (.int x0), .val (.int x1), .val (.int x2), .val (.int (3 : Int32)), .val (.int (4 : Int32))]) rfl ?_
    refine g_iload 318 X189 hx (hb hby at_316) rfl (v := x0) rfl ?_
    refine g_aload 320 X189 hx (hb hby at_318) rfl (v := (.ref b39)) rfl rfl ?_
    refine g_iconst 321 X189 hx (hb hby at_320) rfl (z := (0 : Int32)) rfl ?_
    refine g_iaload 322 X189 hx hZ rfl f192 0 (by decide) rfl (z := x0) rfl (hb hby at_321) rfl ?_
    refine g_icmpNo 325 X189 hx (hb hby at_322)  (teq (rfl : x0 = x0)).2 rfl ?_
    refine g_iload 327 X189 hx (hb hby at_325) rfl (v := x1) rfl ?_
    refine g_aload 329 X189 hx (hb hby at_327) rfl (v := (.ref b39)) rfl rfl ?_
    refine g_iconst 330 X189 hx (hb hby at_329) rfl (z := (1 : Int32)) rfl ?_
    refine g_iaload 331 X189 hx hZ rfl f192 1 (by decide) rfl (z := x1) rfl (hb hby at_330) rfl ?_
    refine g_icmpNo 334 X189 hx (hb hby at_331)  (teq (rfl : x1 = x1)).2 rfl ?_
    refine g_iload 336 X189 hx (hb hby at_334) rfl (v := x2) rfl ?_
    refine g_iload 338 X189 hx (hb hby at_336) rfl (v := x2) rfl ?_
    refine g_icmpNo 341 X189 hx (hb hby at_338)  (teq (rfl : x2 = x2)).2 rfl ?_
    refine g_iload 343 X189 hx (hb hby at_341) rfl (v := (3 : Int32)) rfl ?_
    refine g_iload 345 X189 hx (hb hby at_343) rfl (v := (3 : Int32)) rfl ?_
    refine g_icmpNo 348 X189 hx (hb hby at_345)  (teq (rfl : (3 : Int32) = (3 : Int32))).2 rfl ?_
    refine g_iload 350 X189 hx (hb hby at_348) rfl (v := (4 : Int32)) rfl ?_
    refine g_iconst 351 X189 hx (hb hby at_350) rfl (z := (4 : Int32)) rfl ?_
    refine g_icmpNo 354 X189 hx (hb hby at_351)  (teq (rfl : (4 : Int32) = (4 : Int32))).2 rfl ?_
    refine g_iconst 355 X189 hx (hb hby at_354) rfl (z := (1 : Int32)) rfl ?_
    refine g_goto 359 X189 hx (hb hby at_355) (by decide) (by decide) ?_
    exact g_retN X189 hx (t := .boolean) Bd.returns hlk (by simp) rfl (hb hby at_359) (by decide) (by decide) ⟨rfl, N189⟩
set_option maxRecDepth 65536 in
set_option maxHeartbeats 40000000 in
theorem comes_1 {Post : Tables → Env → Array Value → State → Outcome → State → Prop} (hpost : ∀ tb e args s v u, (limb_1_1.after args s (.returned v) u = true ∧ limb_1_2.after args s (.returned v) u = true ∧ True) → FrameEnd s (.returned v) u (Jvm.fieldLocs frame_1_writes args s ++ Jvm.arrayLocs frame_1_arrays args s ++ Jvm.staticLocs frame_1_statics s) 40 4224 → Post tb e args s (.returned v) u) :
    ArmFor flags0 classFile x code maxLocals ret World_1 tables_1 room_1 Calls_1 rest_1 Pre_1 Post := by
  intro l hfl _ _ p e ha hc hk s m args below hf hA hF happ hP
  obtain ⟨hcalls, hrest, hpre⟩ := hP
  obtain ⟨-, -, -, hnamed, -, -, -, hat⟩ := (Spec.applies_iff hf).mp happ
  obtain ⟨hg, hn⟩ := and_e (Cond.before_iff.mp (show (Jvm.Cond.and given_1 narrow_1).before args s = true from hpre))
  obtain ⟨hcount, r0⟩ := and_e hg
  obtain ⟨ga0, r1⟩ := and_e r0
  obtain ⟨ga1, r2⟩ := and_e r1
  obtain ⟨w0, w1, w2, rfl⟩ : ∃ w0 w1 w2 : Value, args = #[w0, w1, w2] := by
    have hs : args.size = 3 := by simpa [Cond.value, given_1] using hcount
    obtain ⟨L⟩ := args
    match L, hs with
    | [w0, w1, w2], _ => exact ⟨w0, w1, w2, rfl⟩
  have hw := fun d (hd : d ∈ tables_1) => atoms_spec (ws := Jvm.Cond.code x code maxLocals ret :: tables_1) hat d (List.mem_cons_of_mem _ hd)
  obtain ⟨i0, ei0⟩ := isL_v ga0
  obtain rfl : w0 = (.long i0) := Option.some.inj ei0
  obtain ⟨i1, ei1⟩ := isL_v ga1
  obtain rfl : w1 = (.long i1) := Option.some.inj ei1
  obtain ⟨i2, ei2⟩ := isL_v r2
  obtain rfl : w2 = (.long i2) := Option.some.inj ei2
  obtain ⟨n, o, h1, h2, h3, _, L, rfl, ⟨rfl, N⟩, hq⟩ := rm0 l s _ hw tables_1 i0 i1 i2 s.heap s.heap.size (Nat.le_refl _)  p e ha hc hk s m _ below hf ((Spec.applies_iff_loose hf).mp happ).1 ⟨rfl, State.Warmed39.refl s, rfl⟩ trivial
  exact ⟨n, _, h1, h2, h3, hpost _ _ _ _ _ _ ⟨Cond.after_iff.mpr rfl, Cond.after_iff.mpr (eq_i res_at (Term.int_eval (1)) rfl), trivial⟩ ⟨hq.1, hq.2.1, (hq.2.2.sift fun y hy => Or.inr (N y hy)).mono (by decide) (by decide)⟩⟩
theorem main_1_1 : Claimed_1_1 := comes_1 fun _ _ _ _ _ _ h hF => ⟨h.1, hF⟩
theorem main_1_2 : Claimed_1_2 := comes_1 fun _ _ _ _ _ _ h hF => ⟨h.2.1, hF⟩
end Jvm.Pilot.@@N@@
namespace Jvm.Pilot.@@N@@
open Jvm Jvm.ClassFile Sem Op Lib Jvm.Free Jvm.Stand Jvm.Pilot.@@N@@.Jvm.D
/-! MADE BY PROGRAM (witnessworld.py) out of the Statement's table words and the real class files: 13 classes; the members and pool entries that the words name. The judged class is class 1, her method 1. -/
namespace start1
open Jvm.ClassFile
def u (s : String) : CpInfo := .utf8 (stringToUtf16 s)
/-- a pool by its gaps: so many unusable entries, then the entry; so many at the end -/
def gap : Nat → List CpInfo → List CpInfo
  | 0, r => r
  | n + 1, r => .unusable :: gap n r
def poolList (es : List (Nat × CpInfo)) (last : Nat) : List CpInfo := es.foldr (fun e r => gap e.1 (e.2 :: r)) (gap last [])
def pool (es : List (Nat × CpInfo)) (last : Nat) : Array CpInfo := ⟨poolList es last⟩
def fileOf (pool : Array CpInfo) (this : Nat) (attrs : Array Attribute := #[]) (ms : Array MethodInfo := #[]) (fl : Nat := 33) (sup : Nat := 0) (ifs : Array Nat := #[]) (fds : Array FieldInfo := #[]) : ClassFile where
  minorVersion := 0
  majorVersion := 65
  constantPool := pool
  accessFlags := fl
  thisClass := this
  superClass := sup
  interfaces := ifs
  fields := fds
  methods := ms
  attributes := attrs
def plain (name : String) (sup : Option ClassId) : Class where
  name := name
  kind := .ordinary
  loader := none
  accessFlags := 33
  super := sup
  interfaces := #[]
  cf := none
  fields := #[]
  methods := #[]
  instanceTypes := #[]
  staticTypes := #[]
  resolved := #[]
  callSites := []
  init := .initialized
  statics := none
  mirror := none

def pool0 : Array CpInfo := pool [(5, u "<init>"), (0, u "()V"), (1, .class_ 10), (1, u "java/lang/Object")] 113

def k0c0 : Code := { maxStack := 0, maxLocals := 1, code := object_method_1_code, exceptionTable := #[], attributes := #[] }
def k0m0 : Method := { name := "<init>", desc := "()V", sig := { parameters := [], returnType := none }, accessFlags := 1, code := some k0c0 }
/-- java/lang/Object -/
def k0 : Class := { plain "java/lang/Object" none with
  accessFlags := 33
  interfaces := #[]
  cf := some (fileOf pool0 8 #[] #[{ accessFlags := 1, nameIndex := 5, descriptorIndex := 6, attributes := #[] }] 33 0 #[] #[])
  fields := #[]
  methods := #[k0m0]
  instanceTypes := #[]
  staticTypes := #[]
  resolved := Array.replicate 124 none
  statics := none }

def pool1 : Array CpInfo := pool [(2, .class_ 4), (1, u "java/lang/Object"), (0, u "<init>"), (0, u "()V"), (0, .long 1152921504606846975), (1, .class_ 10), (0, u "com/example/prefixwood/prefixwood/huffman/TwoQueues"), (0, .methodref 9 12), (0, .nameAndType 5 13), (0, u "([J)V"), (0, .methodref 9 15), (0, .nameAndType 16 17), (0, u "poll"), (0, u "()I"), (0, .methodref 9 19), (0, .nameAndType 20 21), (0, u "add"), (0, u "(IJI)V"), (0, .class_ 23), (0, u "com/example/prefixwood/prefixwood/huffman/TwoQueuesPollPinLaw"), (2, u "law"), (0, u "(JJJ)Z")] 7

def k1m0 : Method := { name := "<init>", desc := "()V", sig := { parameters := [], returnType := none }, accessFlags := 1, code := none }
def k1c1 : Code := { maxStack := 5, maxLocals := 30, code := code, exceptionTable := #[], attributes := #[] }
def k1m1 : Method := { name := "law", desc := "(JJJ)Z", sig := { parameters := [.long, .long, .long], returnType := some .boolean }, accessFlags := 9, code := some k1c1 }
/-- com/example/prefixwood/prefixwood/huffman/TwoQueuesPollPinLaw -/
def k1 : Class := { plain "com/example/prefixwood/prefixwood/huffman/TwoQueuesPollPinLaw" (some 0) with
  accessFlags := 49
  interfaces := #[]
  cf := some (fileOf pool1 22 #[] #[{ accessFlags := 1, nameIndex := 5, descriptorIndex := 6, attributes := #[] }, { accessFlags := 9, nameIndex := 26, descriptorIndex := 27, attributes := #[] }] 49 2 #[] #[])
  fields := #[]
  methods := #[k1m0, k1m1]
  instanceTypes := #[]
  staticTypes := #[]
  resolved := Array.replicate 35 none
  statics := none }

def pool2 : Array CpInfo := pool [(1, .class_ 2), (0, u "com/example/prefixwood/prefixwood/huffman/NodeQueue"), (0, .class_ 4), (0, u "java/lang/Object")] 15

/-- com/example/prefixwood/prefixwood/huffman/NodeQueue -/
def k2 : Class := { plain "com/example/prefixwood/prefixwood/huffman/NodeQueue" (some 0) with
  accessFlags := 1536
  interfaces := #[]
  cf := some (fileOf pool2 1 #[] #[] 1536 3 #[] #[])
  fields := #[]
  methods := #[]
  instanceTypes := #[]
  staticTypes := #[]
  resolved := Array.replicate 20 none
  statics := none }

def pool3 : Array CpInfo := pool [(1, .methodref 2 3), (0, .class_ 4), (0, .nameAndType 5 6), (0, u "java/lang/Object"), (0, u "<init>"), (0, u "()V"), (0, .fieldref 8 9), (0, .class_ 10), (0, .nameAndType 11 12), (0, u "com/example/prefixwood/prefixwood/huffman/TwoQueues"), (0, u "weights"), (0, u "[J"), (0, .methodref 8 14), (0, .nameAndType 15 16), (0, u "byWeight"), (0, u "([J)[I"), (0, .fieldref 8 18), (0, .nameAndType 19 20), (0, u "symbols"), (0, u "[I"), (0, .methodref 22 23), (0, .class_ 24), (0, .nameAndType 25 26), (0, u "java/lang/Math"), (0, u "max"), (0, u "(II)I"), (0, .fieldref 8 28), (0, .nameAndType 29 12), (0, u "mergedWeights"), (0, .fieldref 8 31), (0, .nameAndType 32 33), (0, u "merged"), (0, u "I"), (0, .fieldref 8 35), (0, .nameAndType 36 33), (0, u "nextMerged"), (0, .fieldref 8 38), (0, .nameAndType 39 33), (0, u "nextSymbol"), (4, .methodref 8 45), (0, .nameAndType 46 47), (0, u "digit"), (0, u "(JI)I"), (0, .class_ 49), (0, u "com/example/prefixwood/prefixwood/huffman/NodeQueue"), (0, u "([J)V"), (2, u "add"), (0, u "(IJI)V"), (0, u "poll"), (0, u "()I")] 5

def k3c0 : Code := { maxStack := 3, maxLocals := 2, code := prog_51_method_1_code, exceptionTable := #[], attributes := #[] }
def k3m0 : Method := { name := "<init>", desc := "([J)V", sig := { parameters := [(.array .long)], returnType := none }, accessFlags := 0, code := some k3c0 }
def k3c1 : Code := { maxStack := 5, maxLocals := 5, code := prog_51_method_2_code, exceptionTable := #[], attributes := #[] }
def k3m1 : Method := { name := "add", desc := "(IJI)V", sig := { parameters := [.int, .long, .int], returnType := none }, accessFlags := 1, code := some k3c1 }
def k3c2 : Code := { maxStack := 5, maxLocals := 1, code := prog_51_method_3_code, exceptionTable := #[], attributes := #[] }
def k3m2 : Method := { name := "poll", desc := "()I", sig := { parameters := [], returnType := some .int }, accessFlags := 1, code := some k3c2 }
def k3c3 : Code := { maxStack := 6, maxLocals := 11, code := prog_51_method_4_code, exceptionTable := #[], attributes := #[] }
def k3m3 : Method := { name := "byWeight", desc := "([J)[I", sig := { parameters := [(.array .long)], returnType := some (.array .int) }, accessFlags := 10, code := some k3c3 }
def k3c4 : Code := { maxStack := 3, maxLocals := 3, code := prog_51_method_5_code, exceptionTable := #[], attributes := #[] }
def k3m4 : Method := { name := "digit", desc := "(JI)I", sig := { parameters := [.long, .int], returnType := some .int }, accessFlags := 10, code := some k3c4 }
/-- com/example/prefixwood/prefixwood/huffman/TwoQueues -/
def k3 : Class := { plain "com/example/prefixwood/prefixwood/huffman/TwoQueues" (some 0) with
  accessFlags := 48
  interfaces := #[2]
  cf := some (fileOf pool3 8 #[] #[{ accessFlags := 0, nameIndex := 5, descriptorIndex := 50, attributes := #[] }, { accessFlags := 1, nameIndex := 53, descriptorIndex := 54, attributes := #[] }, { accessFlags := 1, nameIndex := 55, descriptorIndex := 56, attributes := #[] }, { accessFlags := 10, nameIndex := 15, descriptorIndex := 16, attributes := #[] }, { accessFlags := 10, nameIndex := 46, descriptorIndex := 47, attributes := #[] }] 48 2 #[48] #[{ accessFlags := 18, nameIndex := 29, descriptorIndex := 12, attributes := #[] }, { accessFlags := 18, nameIndex := 11, descriptorIndex := 12, attributes := #[] }, { accessFlags := 18, nameIndex := 19, descriptorIndex := 20, attributes := #[] }, { accessFlags := 2, nameIndex := 39, descriptorIndex := 33, attributes := #[] }, { accessFlags := 2, nameIndex := 36, descriptorIndex := 33, attributes := #[] }, { accessFlags := 2, nameIndex := 32, descriptorIndex := 33, attributes := #[] }])
  fields := #[{ name := "mergedWeights", type := (.array .long), accessFlags := 18, slot := 0, constantValue := 0 }, { name := "weights", type := (.array .long), accessFlags := 18, slot := 1, constantValue := 0 }, { name := "symbols", type := (.array .int), accessFlags := 18, slot := 2, constantValue := 0 }, { name := "nextSymbol", type := .int, accessFlags := 2, slot := 3, constantValue := 0 }, { name := "nextMerged", type := .int, accessFlags := 2, slot := 4, constantValue := 0 }, { name := "merged", type := .int, accessFlags := 2, slot := 5, constantValue := 0 }]
  methods := #[k3m0, k3m1, k3m2, k3m3, k3m4]
  instanceTypes := #[(.array .long), (.array .long), (.array .int), .int, .int, .int]
  staticTypes := #[]
  resolved := Array.replicate 62 none
  statics := none }

def pool4 : Array CpInfo := pool [(1, .class_ 2), (0, u "java/lang/Math"), (1, .class_ 6), (1, u "java/lang/Object"), (0, u "<init>"), (0, u "()V"), (89, .class_ 100), (1, u "java/lang/Math$RandomNumberGeneratorHolder"), (71, u "negativeZeroFloatBits"), (0, u "J"), (2, u "negativeZeroDoubleBits"), (21, u "max"), (46, u "$assertionsDisabled"), (0, u "Z"), (88, u "(II)I"), (2, u "twoToTheDoubleScaleDown"), (0, u "D"), (4, u "twoToTheDoubleScaleUp"), (9, u "E"), (3, u "PI"), (2, u "TAU"), (2, u "DEGREES_TO_RADIANS"), (0, u "RADIANS_TO_DEGREES")] 94

def k4m0 : Method := { name := "<init>", desc := "()V", sig := { parameters := [], returnType := none }, accessFlags := 2, code := none }
def k4c1 : Code := { maxStack := 2, maxLocals := 2, code := jdk_29_method_65_code, exceptionTable := #[], attributes := #[] }
def k4m1 : Method := { name := "max", desc := "(II)I", sig := { parameters := [.int, .int], returnType := some .int }, accessFlags := 9, code := some k4c1 }
/-- java/lang/Math -/
def k4 : Class := { plain "java/lang/Math" (some 0) with
  accessFlags := 49
  interfaces := #[]
  cf := some (fileOf pool4 1 #[.nestMembers #[98]] #[{ accessFlags := 2, nameIndex := 7, descriptorIndex := 8, attributes := #[] }, { accessFlags := 9, nameIndex := 198, descriptorIndex := 335, attributes := #[] }] 49 4 #[] #[{ accessFlags := 25, nameIndex := 354, descriptorIndex := 339, attributes := #[] }, { accessFlags := 25, nameIndex := 358, descriptorIndex := 339, attributes := #[] }, { accessFlags := 25, nameIndex := 361, descriptorIndex := 339, attributes := #[] }, { accessFlags := 26, nameIndex := 364, descriptorIndex := 339, attributes := #[] }, { accessFlags := 26, nameIndex := 365, descriptorIndex := 339, attributes := #[] }, { accessFlags := 26, nameIndex := 172, descriptorIndex := 173, attributes := #[] }, { accessFlags := 26, nameIndex := 176, descriptorIndex := 173, attributes := #[] }, { accessFlags := 8, nameIndex := 344, descriptorIndex := 339, attributes := #[] }, { accessFlags := 8, nameIndex := 338, descriptorIndex := 339, attributes := #[] }, { accessFlags := 4120, nameIndex := 245, descriptorIndex := 246, attributes := #[] }])
  fields := #[{ name := "E", type := .double, accessFlags := 25, slot := 0, constantValue := 0 }, { name := "PI", type := .double, accessFlags := 25, slot := 1, constantValue := 0 }, { name := "TAU", type := .double, accessFlags := 25, slot := 2, constantValue := 0 }, { name := "DEGREES_TO_RADIANS", type := .double, accessFlags := 26, slot := 3, constantValue := 0 }, { name := "RADIANS_TO_DEGREES", type := .double, accessFlags := 26, slot := 4, constantValue := 0 }, { name := "negativeZeroFloatBits", type := .long, accessFlags := 26, slot := 5, constantValue := 0 }, { name := "negativeZeroDoubleBits", type := .long, accessFlags := 26, slot := 6, constantValue := 0 }, { name := "twoToTheDoubleScaleUp", type := .double, accessFlags := 8, slot := 7, constantValue := 0 }, { name := "twoToTheDoubleScaleDown", type := .double, accessFlags := 8, slot := 8, constantValue := 0 }, { name := "$assertionsDisabled", type := .boolean, accessFlags := 4120, slot := 9, constantValue := 0 }]
  methods := #[k4m0, k4m1]
  instanceTypes := #[]
  staticTypes := #[.double, .double, .double, .double, .double, .long, .long, .double, .double, .boolean]
  resolved := Array.replicate 460 none
  statics := none }

def pool5 : Array CpInfo := pool [(1, u "java/lang/Cloneable"), (0, .class_ 1), (0, u "java/lang/Object"), (0, .class_ 3)] 3

/-- java/lang/Cloneable -/
def k5 : Class := { plain "java/lang/Cloneable" (some 0) with
  accessFlags := 1537
  interfaces := #[]
  cf := some (fileOf pool5 2 #[] #[] 1537 4 #[] #[])
  fields := #[]
  methods := #[]
  instanceTypes := #[]
  staticTypes := #[]
  resolved := Array.replicate 8 none
  statics := none }

def pool6 : Array CpInfo := pool [(1, u "java/io/Serializable"), (0, .class_ 1), (0, u "java/lang/Object"), (0, .class_ 3)] 3

/-- java/io/Serializable -/
def k6 : Class := { plain "java/io/Serializable" (some 0) with
  accessFlags := 1537
  interfaces := #[]
  cf := some (fileOf pool6 2 #[] #[] 1537 4 #[] #[])
  fields := #[]
  methods := #[]
  instanceTypes := #[]
  staticTypes := #[]
  resolved := Array.replicate 8 none
  statics := none }

/-- the primitive byte -/
def k7 : Class := { plain "byte" none with kind := .primitive 'B', accessFlags := 0x411 }
/-- [B -/
def k8 : Class := { plain "[B" (some 0) with kind := .array 7 .byte, interfaces := #[5, 6], accessFlags := 1041 }

/-- the primitive int -/
def k9 : Class := { plain "int" none with kind := .primitive 'I', accessFlags := 0x411 }
/-- [I -/
def k10 : Class := { plain "[I" (some 0) with kind := .array 9 .int, interfaces := #[5, 6], accessFlags := 1041 }

/-- the primitive long -/
def k11 : Class := { plain "long" none with kind := .primitive 'J', accessFlags := 0x411 }
/-- [J -/
def k12 : Class := { plain "[J" (some 0) with kind := .array 11 .long, interfaces := #[5, 6], accessFlags := 1041 }

def heap : Heap := #[]
def classes : Array Class := #[k0, k1, k2, k3, k4, k5, k6, k7, k8, k9, k10, k11, k12]
def interned : List (Array UInt16 × Addr) := []
def slotsUsed : Nat := 0
def theMethod : MethodId := ⟨1, 1⟩
def args0 : Array Value := #[.long 5, .long 7, .long 9]
def aboutOver (below : List Frame) : State where
  vm := { classes := classes, interned := interned.toArray }
  heap := heap
  slotsUsed := slotsUsed
  threads := #[{ frames := .invoking theMethod args0 :: below }]
def below0 : List Frame := [.native { method := ⟨0, 0⟩, args := #[] }]
def about1 : State := aboutOver below0
def p0 : Program := .bare "" "" ""
def e0 : Env := launch0.env 0 0 0
theorem w_frames : about1.frames = Frame.invoking theMethod args0 :: below0 := rfl
set_option maxRecDepth 65536 in
theorem w_args : argsFit about1.vm theMethod args0 = true := by decide +kernel
set_option maxRecDepth 65536 in
theorem w_heap : heapFits about1 = true := by decide +kernel
set_option maxRecDepth 65536 in
theorem w_runnable : about1.curStatus? = some .runnable := by decide +kernel
set_option maxRecDepth 65536 in
theorem w_alone : about1.alone = true := by decide +kernel
set_option maxRecDepth 65536 in
theorem w_named : about1.methodNamed? x = some theMethod := by decide +kernel
set_option maxRecDepth 65536 in
theorem w_hears : about1.hears theMethod below0 = true := by decide +kernel
set_option maxRecDepth 65536 in
theorem w_ripe : about1.ripe theMethod args0 below0 = true := by decide +kernel
theorem w_running : about1.status = .running := rfl
set_option maxRecDepth 65536 in
theorem w_room : about1.hasRoom e0.platform room_1 = true :=
  launch0.hasRoom_least _ room_1 (by decide +kernel) (by decide +kernel) (by decide +kernel) (by decide +kernel) (by decide +kernel) (by decide +kernel)
theorem allAtoms_all (ts : List Jvm.Cond) (a : Array Jvm.Value) (st : Jvm.State) : (allAtoms ts).before a st = ts.all (fun c => c.before a st) := by
  induction ts with
  | nil => rfl
  | cons c t ih =>
    show (Jvm.Cond.and c (allAtoms t)).before a st = _
    rw [Jvm.Cond.before_and, ih, List.all_cons]
def words1 : List Jvm.Cond := Jvm.Cond.code x code maxLocals ret :: tables_1
/-- a 'code' word, met by the world's own term for the bytes: nothing is compared byte by byte -/
theorem code_word {y : MethodName} {bytes : ByteArray} {mx : Nat} {rt : Option FieldType} {a : Array Value} {s : State} {m : MethodId} {meth : Method} {c : Code} (h1 : s.methodNamed? y = some m) (h2 : s.vm.method? m = some meth) (h3 : meth.code = some c) (h4 : c.code = bytes)
    (h5 : (c.maxLocals == mx && c.exceptionTable.isEmpty && decide (c.maxStack ≤ mostOperands) && decide (meth.sig.returnType = rt) && !meth.locks && decide (parseMethodDescriptor y.desc = some meth.sig)) = true) : (Jvm.Cond.code y bytes mx rt).before a s = true := by
  simp only [Bool.and_eq_true, beq_iff_eq, Bool.not_eq_true', decide_eq_true_eq] at h5
  obtain ⟨⟨⟨⟨⟨g1, g2⟩, g3⟩, g4⟩, g5⟩, g6⟩ := h5
  simp [Cond.before, Cond.holds, Cond.value, h1, h2, h3, h4, g1, g2, g3, g4, g5, g6]
def isCode : Jvm.Cond → Bool
  | .code _ _ _ _ => true
  | _ => false
theorem all_split {L : List Jvm.Cond} {P : Jvm.Cond → Bool} (h1 : L.all (fun c => isCode c || P c) = true) (h2 : ∀ c ∈ L.filter isCode, P c = true) : L.all P = true := by
  refine List.all_eq_true.mpr fun c hc => ?_
  have h := List.all_eq_true.mp h1 c hc
  rcases Bool.eq_false_or_eq_true (isCode c) with hi | hi
  · exact h2 c (List.mem_filter.mpr ⟨hc, hi⟩)
  · simpa [hi] using h
set_option maxRecDepth 65536 in
theorem w_c0 : (Jvm.Cond.code x code maxLocals ret).before args0 about1 = true := code_word (m := ⟨1, 1⟩) (meth := k1m1) (c := k1c1) (by decide +kernel) rfl rfl rfl (by decide +kernel)
set_option maxRecDepth 65536 in
theorem w_c1 : (Jvm.Cond.code ({ cls := "com/example/prefixwood/prefixwood/huffman/TwoQueues", name := "<init>", desc := "([J)V" } : Jvm.MethodName) prog_51_method_1_code (2 : Nat) (Option.none : Option Jvm.ClassFile.FieldType)).before args0 about1 = true := code_word (m := ⟨3, 0⟩) (meth := k3m0) (c := k3c0) (by decide +kernel) rfl rfl rfl (by decide +kernel)
set_option maxRecDepth 65536 in
theorem w_c2 : (Jvm.Cond.code ({ cls := "java/lang/Object", name := "<init>", desc := "()V" } : Jvm.MethodName) object_method_1_code (1 : Nat) (Option.none : Option Jvm.ClassFile.FieldType)).before args0 about1 = true := code_word (m := ⟨0, 0⟩) (meth := k0m0) (c := k0c0) (by decide +kernel) rfl rfl rfl (by decide +kernel)
set_option maxRecDepth 65536 in
theorem w_c3 : (Jvm.Cond.code ({ cls := "com/example/prefixwood/prefixwood/huffman/TwoQueues", name := "byWeight", desc := "([J)[I" } : Jvm.MethodName) prog_51_method_4_code (11 : Nat) (Option.some (Jvm.ClassFile.FieldType.array Jvm.ClassFile.FieldType.int))).before args0 about1 = true := code_word (m := ⟨3, 3⟩) (meth := k3m3) (c := k3c3) (by decide +kernel) rfl rfl rfl (by decide +kernel)
set_option maxRecDepth 65536 in
theorem w_c4 : (Jvm.Cond.code ({ cls := "com/example/prefixwood/prefixwood/huffman/TwoQueues", name := "digit", desc := "(JI)I" } : Jvm.MethodName) prog_51_method_5_code (3 : Nat) (Option.some Jvm.ClassFile.FieldType.int)).before args0 about1 = true := code_word (m := ⟨3, 4⟩) (meth := k3m4) (c := k3c4) (by decide +kernel) rfl rfl rfl (by decide +kernel)
set_option maxRecDepth 65536 in
theorem w_c5 : (Jvm.Cond.code ({ cls := "java/lang/Math", name := "max", desc := "(II)I" } : Jvm.MethodName) jdk_29_method_65_code (2 : Nat) (Option.some Jvm.ClassFile.FieldType.int)).before args0 about1 = true := code_word (m := ⟨4, 1⟩) (meth := k4m1) (c := k4c1) (by decide +kernel) rfl rfl rfl (by decide +kernel)
set_option maxRecDepth 65536 in
theorem w_c6 : (Jvm.Cond.code ({ cls := "com/example/prefixwood/prefixwood/huffman/TwoQueues", name := "poll", desc := "()I" } : Jvm.MethodName) prog_51_method_3_code (1 : Nat) (Option.some Jvm.ClassFile.FieldType.int)).before args0 about1 = true := code_word (m := ⟨3, 2⟩) (meth := k3m2) (c := k3c2) (by decide +kernel) rfl rfl rfl (by decide +kernel)
set_option maxRecDepth 65536 in
theorem w_c7 : (Jvm.Cond.code ({ cls := "com/example/prefixwood/prefixwood/huffman/TwoQueues", name := "add", desc := "(IJI)V" } : Jvm.MethodName) prog_51_method_2_code (5 : Nat) (Option.none : Option Jvm.ClassFile.FieldType)).before args0 about1 = true := code_word (m := ⟨3, 1⟩) (meth := k3m1) (c := k3c1) (by decide +kernel) rfl rfl rfl (by decide +kernel)
def codes1 : List Jvm.Cond := [Jvm.Cond.code x code maxLocals ret, Jvm.Cond.code ({ cls := "com/example/prefixwood/prefixwood/huffman/TwoQueues", name := "<init>", desc := "([J)V" } : Jvm.MethodName) prog_51_method_1_code (2 : Nat) (Option.none : Option Jvm.ClassFile.FieldType), Jvm.Cond.code ({ cls := "java/lang/Object", name := "<init>", desc := "()V" } : Jvm.MethodName) object_method_1_code (1 : Nat) (Option.none : Option Jvm.ClassFile.FieldType), Jvm.Cond.code ({ cls := "com/example/prefixwood/prefixwood/huffman/TwoQueues", name := "byWeight", desc := "([J)[I" } : Jvm.MethodName) prog_51_method_4_code (11 : Nat) (Option.some (Jvm.ClassFile.FieldType.array Jvm.ClassFile.FieldType.int)), Jvm.Cond.code ({ cls := "com/example/prefixwood/prefixwood/huffman/TwoQueues", name := "digit", desc := "(JI)I" } : Jvm.MethodName) prog_51_method_5_code (3 : Nat) (Option.some Jvm.ClassFile.FieldType.int), Jvm.Cond.code ({ cls := "java/lang/Math", name := "max", desc := "(II)I" } : Jvm.MethodName) jdk_29_method_65_code (2 : Nat) (Option.some Jvm.ClassFile.FieldType.int), Jvm.Cond.code ({ cls := "com/example/prefixwood/prefixwood/huffman/TwoQueues", name := "poll", desc := "()I" } : Jvm.MethodName) prog_51_method_3_code (1 : Nat) (Option.some Jvm.ClassFile.FieldType.int), Jvm.Cond.code ({ cls := "com/example/prefixwood/prefixwood/huffman/TwoQueues", name := "add", desc := "(IJI)V" } : Jvm.MethodName) prog_51_method_2_code (5 : Nat) (Option.none : Option Jvm.ClassFile.FieldType)]
set_option maxRecDepth 65536 in
theorem codes_eq : words1.filter isCode = codes1 := rfl
theorem w_codes : ∀ c ∈ words1.filter isCode, c.before args0 about1 = true := by
  rw [codes_eq]
  intro c hc
  simp only [codes1, List.mem_cons, List.not_mem_nil, or_false] at hc
  rcases hc with rfl | rfl | rfl | rfl | rfl | rfl | rfl | rfl
  · exact w_c0
  · exact w_c1
  · exact w_c2
  · exact w_c3
  · exact w_c4
  · exact w_c5
  · exact w_c6
  · exact w_c7
set_option maxRecDepth 65536 in
theorem w_t1 : (words1.take 24).all (fun c => isCode c || c.before args0 about1) = true := by decide +kernel
set_option maxRecDepth 65536 in
theorem w_t2 : (words1.drop 24).all (fun c => isCode c || c.before args0 about1) = true := by decide +kernel
theorem w_tables : (allAtoms (Jvm.Cond.code x code maxLocals ret :: tables_1)).before args0 about1 = true := by
  rw [allAtoms_all]
  show words1.all (fun c => c.before args0 about1) = true
  refine all_split ?_ w_codes
  rw [← List.take_append_drop 24 words1, List.all_append, w_t1, w_t2]
  rfl
set_option maxRecDepth 65536 in
theorem w_case : (Jvm.Cond.and given_1 narrow_1).before args0 about1 = true := by decide +kernel
theorem w_applies : (headSpec (Jvm.Cond.code x code maxLocals ret :: tables_1) room_1).applies x e0.platform about1 = true :=
  (Spec.applies_iff w_frames).mpr ⟨w_running, w_runnable, w_alone, w_named, w_hears, w_ripe, w_room, w_tables⟩
theorem atStart : AtStart classFile x code maxLocals ret World_1 tables_1 room_1 Calls_1 rest_1 Pre_1 launch0 p0 e0 about1 theMethod args0 below0 :=
  ⟨lists_1, trivial, launch0.admits_env _ _ _, launch0.least_env, fairChoices_fair.cas, fairChoices_fair.clock, w_frames, w_args, w_heap, w_applies, trivial, trivial, w_case⟩
end start1
theorem witness_1 : WitnessClaimed_1 := ⟨start1.p0, start1.e0, start1.about1, start1.theMethod, start1.args0, start1.below0, start1.atStart⟩
end Jvm.Pilot.@@N@@
