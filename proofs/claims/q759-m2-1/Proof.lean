import JvmDerived
import JvmDerived.Pilot.@@N@@Statement
import JvmDerived.Pilot.@@N@@Code
set_option linter.unusedVariables false
set_option linter.unusedSimpArgs false
namespace Jvm.Pilot.@@N@@
open Jvm Jvm.ClassFile Sem Op Lib Jvm.Free Jvm.Stand Jvm.LawKit Jvm.RoadKit Bundle Jvm.Pilot.@@N@@.Jvm.D
section OwnKit
/-- the run goes on from here to the method's end; what it leaves is Q -/
def Go (p : Program) (e : Env) (below : List Frame) (s : State) (k n : Nat) (Q : Option Value → Heap → List Loc → Prop) (T : State) (g : JFrame) : Prop :=
  ∃ s₂ o, Steps p.tables e below (T.setTop g) s₂ ∧ s₂.status = .running ∧ Ended s₂ below o ∧ ∃ v L, o = .returned v ∧ Q v s₂.heap L ∧ FrameEnd s o s₂ L k n
variable {p : Program} {l : Launch} {e : Env} {R : Room} {s : State} {m : MethodId} {args : Array Value} {below : List Frame} {meth : Method} {c : Code} {T : State} {locs : List Loc} {cells slots : Nat} {k n : Nat} {Q : Option Value → Heap → List Loc → Prop} {pc : Nat} {Ls : Array Slot} {st : List Value} {Z : State} {a0 : Array Value} {h h' : Heap}
theorem Go.via {T' : State} {g g' : JFrame} (q : ∀ t, Steps p.tables e below (T'.setTop g') t → Steps p.tables e below (T.setTop g) t) (H : Go p e below s k n Q T' g') : Go p e below s k n Q T g := by
  obtain ⟨s₂, o, h1, r⟩ := H
  exact ⟨s₂, o, q _ h1, r⟩
theorem tltL {x y : Int64} (q : x < y) : ifCond.holds .lt (lcmpW x y) = true ∧ ifCond.holds .ge (lcmpW x y) = false ∧ ifCond.holds .gt (lcmpW y x) = true ∧ ifCond.holds .le (lcmpW y x) = false := by
  simp only [if0]
  exact ⟨(tlt ((lw_lt x y).mpr q)).1, (tlt ((lw_lt x y).mpr q)).2.1, (tlt ((lw_gt y x).mpr q)).2.2.1, (tlt ((lw_gt y x).mpr q)).2.2.2⟩
theorem fltL {x y : Int64} (q : ¬ x < y) : ifCond.holds .lt (lcmpW x y) = false ∧ ifCond.holds .ge (lcmpW x y) = true ∧ ifCond.holds .gt (lcmpW y x) = false ∧ ifCond.holds .le (lcmpW y x) = true := by
  simp only [if0]
  exact ⟨(flt (mt (lw_lt x y).mp q)).1, (flt (mt (lw_lt x y).mp q)).2.1, (flt (mt (lw_gt y x).mp q)).2.2.1, (flt (mt (lw_gt y x).mp q)).2.2.2⟩
theorem teqL {x y : Int64} (q : x = y) : ifCond.holds .eq (lcmpW x y) = true ∧ ifCond.holds .ne (lcmpW x y) = false := by
  simp only [if0]
  exact ⟨(teq ((lw_eq x y).mpr q)).1, (teq ((lw_eq x y).mpr q)).2⟩
theorem feqL {x y : Int64} (q : ¬ x = y) : ifCond.holds .eq (lcmpW x y) = false ∧ ifCond.holds .ne (lcmpW x y) = true := by
  simp only [if0]
  exact ⟨(feq (mt (lw_eq x y).mp q)).1, (feq (mt (lw_eq x y).mp q)).2⟩
theorem tlt0 {x y : Int32} (q : x < y) : (y = 0 → ifCond.holds .lt x = true ∧ ifCond.holds .ge x = false) ∧ (x = 0 → ifCond.holds .gt y = true ∧ ifCond.holds .le y = false) := by
  refine ⟨fun r => ?_, fun r => ?_⟩ <;> subst r <;> simp only [if0]
  · exact ⟨(tlt q).1, (tlt q).2.1⟩
  · exact ⟨(tlt q).2.2.1, (tlt q).2.2.2⟩
theorem g_iloadN (pc' : Nat) (X : Stand p l e R s m args below meth c T locs cells slots) (hx : p.tables.exec = Jvm.exec) {i : Fin 4} {v : Int32} (hd : decode c.code pc = .ok (.iload_n i, 1)) (hp : pc + 1 = pc') (hl : Ls[i.val]? = some (.val (.int v))) (H : Go p e below s k n Q T (mkF m pc' Ls (.int v :: st))) : Go p e below s k n Q T (mkF m pc Ls st) := by
  subst hp
  exact H.via fun t q => XS.iloadN X.here hx rfl hd hl q
theorem g_iload (pc' : Nat) (X : Stand p l e R s m args below meth c T locs cells slots) (hx : p.tables.exec = Jvm.exec) {i : Nat} {v : Int32} (hd : decode c.code pc = .ok (.iload i, 2)) (hp : pc + 2 = pc') (hl : Ls[i]? = some (.val (.int v))) (H : Go p e below s k n Q T (mkF m pc' Ls (.int v :: st))) : Go p e below s k n Q T (mkF m pc Ls st) := by
  subst hp
  exact H.via fun t q => XS.iload X.here hx rfl hd hl q
theorem g_istoreN (pc' : Nat) (X : Stand p l e R s m args below meth c T locs cells slots) (hx : p.tables.exec = Jvm.exec) {i : Fin 4} {v : Int32} {Ls' : Array Slot} (hd : decode c.code pc = .ok (.istore_n i, 1)) (hp : pc + 1 = pc') (hl : storeLocals Ls i.val (.int v) = some Ls') (H : Go p e below s k n Q T (mkF m pc' Ls' st)) : Go p e below s k n Q T (mkF m pc Ls (.int v :: st)) := by
  subst hp
  exact H.via fun t q => XS.istoreN X.here hx rfl hd rfl hl q
theorem g_istore (pc' : Nat) (X : Stand p l e R s m args below meth c T locs cells slots) (hx : p.tables.exec = Jvm.exec) {i : Nat} {v : Int32} {Ls' : Array Slot} (hd : decode c.code pc = .ok (.istore i, 2)) (hp : pc + 2 = pc') (hl : storeLocals Ls i (.int v) = some Ls') (H : Go p e below s k n Q T (mkF m pc' Ls' st)) : Go p e below s k n Q T (mkF m pc Ls (.int v :: st)) := by
  subst hp
  exact H.via fun t q => XS.istore X.here hx rfl hd rfl hl q
theorem g_lloadN (pc' : Nat) (X : Stand p l e R s m args below meth c T locs cells slots) (hx : p.tables.exec = Jvm.exec) {i : Fin 4} {v : Int64} (hd : decode c.code pc = .ok (.lload_n i, 1)) (hp : pc + 1 = pc') (hl : Ls[i.val]? = some (.val (.long v))) (H : Go p e below s k n Q T (mkF m pc' Ls (.long v :: st))) : Go p e below s k n Q T (mkF m pc Ls st) := by
  subst hp
  exact H.via fun t q => XS.lloadN X.here hx rfl hd hl q
theorem g_lload (pc' : Nat) (X : Stand p l e R s m args below meth c T locs cells slots) (hx : p.tables.exec = Jvm.exec) {i : Nat} {v : Int64} (hd : decode c.code pc = .ok (.lload i, 2)) (hp : pc + 2 = pc') (hl : Ls[i]? = some (.val (.long v))) (H : Go p e below s k n Q T (mkF m pc' Ls (.long v :: st))) : Go p e below s k n Q T (mkF m pc Ls st) := by
  subst hp
  exact H.via fun t q => XS.lload X.here hx rfl hd hl q
theorem g_lstoreN (pc' : Nat) (X : Stand p l e R s m args below meth c T locs cells slots) (hx : p.tables.exec = Jvm.exec) {i : Fin 4} {v : Int64} {Ls' : Array Slot} (hd : decode c.code pc = .ok (.lstore_n i, 1)) (hp : pc + 1 = pc') (hl : storeLocals Ls i.val (.long v) = some Ls') (H : Go p e below s k n Q T (mkF m pc' Ls' st)) : Go p e below s k n Q T (mkF m pc Ls (.long v :: st)) := by
  subst hp
  exact H.via fun t q => XS.lstoreN X.here hx rfl hd rfl hl q
theorem g_lstore (pc' : Nat) (X : Stand p l e R s m args below meth c T locs cells slots) (hx : p.tables.exec = Jvm.exec) {i : Nat} {v : Int64} {Ls' : Array Slot} (hd : decode c.code pc = .ok (.lstore i, 2)) (hp : pc + 2 = pc') (hl : storeLocals Ls i (.long v) = some Ls') (H : Go p e below s k n Q T (mkF m pc' Ls' st)) : Go p e below s k n Q T (mkF m pc Ls (.long v :: st)) := by
  subst hp
  exact H.via fun t q => XS.lstore X.here hx rfl hd rfl hl q
theorem g_aloadN (pc' : Nat) (X : Stand p l e R s m args below meth c T locs cells slots) (hx : p.tables.exec = Jvm.exec) {i : Fin 4} {v : Value} (hd : decode c.code pc = .ok (.aload_n i, 1)) (hp : pc + 1 = pc') (hl : Ls[i.val]? = some (.val v)) (hv : v.isRef = true) (H : Go p e below s k n Q T (mkF m pc' Ls (v :: st))) : Go p e below s k n Q T (mkF m pc Ls st) := by
  subst hp
  exact H.via fun t q => XS.aloadN X.here hx rfl hd hl hv q
theorem g_aload (pc' : Nat) (X : Stand p l e R s m args below meth c T locs cells slots) (hx : p.tables.exec = Jvm.exec) {i : Nat} {v : Value} (hd : decode c.code pc = .ok (.aload i, 2)) (hp : pc + 2 = pc') (hl : Ls[i]? = some (.val v)) (hv : v.isRef = true) (H : Go p e below s k n Q T (mkF m pc' Ls (v :: st))) : Go p e below s k n Q T (mkF m pc Ls st) := by
  subst hp
  exact H.via fun t q => XS.aload X.here hx rfl hd hl hv q
theorem g_astoreN (pc' : Nat) (X : Stand p l e R s m args below meth c T locs cells slots) (hx : p.tables.exec = Jvm.exec) {i : Fin 4} {v : Value} {Ls' : Array Slot} (hd : decode c.code pc = .ok (.astore_n i, 1)) (hp : pc + 1 = pc') (hv : v.isRef = true) (hl : storeLocals Ls i.val v = some Ls') (H : Go p e below s k n Q T (mkF m pc' Ls' st)) : Go p e below s k n Q T (mkF m pc Ls (v :: st)) := by
  subst hp
  exact H.via fun t q => XS.astoreN X.here hx rfl hd rfl hv hl q
theorem g_astore (pc' : Nat) (X : Stand p l e R s m args below meth c T locs cells slots) (hx : p.tables.exec = Jvm.exec) {i : Nat} {v : Value} {Ls' : Array Slot} (hd : decode c.code pc = .ok (.astore i, 2)) (hp : pc + 2 = pc') (hv : v.isRef = true) (hl : storeLocals Ls i v = some Ls') (H : Go p e below s k n Q T (mkF m pc' Ls' st)) : Go p e below s k n Q T (mkF m pc Ls (v :: st)) := by
  subst hp
  exact H.via fun t q => XS.astore X.here hx rfl hd rfl hv hl q
theorem g_iconst (pc' : Nat) (X : Stand p l e R s m args below meth c T locs cells slots) (hx : p.tables.exec = Jvm.exec) {i : Int} {z : Int32} (hd : decode c.code pc = .ok (.iconst i, 1)) (hp : pc + 1 = pc') (hz : Int32.ofInt i = z) (H : Go p e below s k n Q T (mkF m pc' Ls (.int z :: st))) : Go p e below s k n Q T (mkF m pc Ls st) := by
  subst hp hz
  exact H.via fun t q => XS.iconst X.here hx rfl hd q
theorem g_bipush (pc' : Nat) (X : Stand p l e R s m args below meth c T locs cells slots) (hx : p.tables.exec = Jvm.exec) {i : Int} {z : Int32} (hd : decode c.code pc = .ok (.bipush i, 2)) (hp : pc + 2 = pc') (hz : (Int8.ofInt i).toInt32 = z) (H : Go p e below s k n Q T (mkF m pc' Ls (.int z :: st))) : Go p e below s k n Q T (mkF m pc Ls st) := by
  subst hp hz
  exact H.via fun t q => XS.bipush X.here hx rfl hd q
theorem g_sipush (pc' : Nat) (X : Stand p l e R s m args below meth c T locs cells slots) (hx : p.tables.exec = Jvm.exec) {i : Int} {z : Int32} (hd : decode c.code pc = .ok (.sipush i, 3)) (hp : pc + 3 = pc') (hz : (Int16.ofInt i).toInt32 = z) (H : Go p e below s k n Q T (mkF m pc' Ls (.int z :: st))) : Go p e below s k n Q T (mkF m pc Ls st) := by
  subst hp hz
  exact H.via fun t q => XS.sipush X.here hx rfl hd q
theorem g_lconst (pc' : Nat) (X : Stand p l e R s m args below meth c T locs cells slots) (hx : p.tables.exec = Jvm.exec) {i : Fin 2} {z : Int64} (hd : decode c.code pc = .ok (.lconst i, 1)) (hp : pc + 1 = pc') (hz : Int64.ofNat i.val = z) (H : Go p e below s k n Q T (mkF m pc' Ls (.long z :: st))) : Go p e below s k n Q T (mkF m pc Ls st) := by
  subst hp hz
  exact H.via fun t q => XS.lconst X.here hx rfl hd q
theorem g_aconst_null (pc' : Nat) (X : Stand p l e R s m args below meth c T locs cells slots) (hx : p.tables.exec = Jvm.exec) (hd : decode c.code pc = .ok (.aconst_null, 1)) (hp : pc + 1 = pc')  (H : Go p e below s k n Q T (mkF m pc' Ls (.null :: st))) : Go p e below s k n Q T (mkF m pc Ls st) := by
  subst hp
  exact H.via fun t q => XS.aconstNull X.here hx rfl hd q
theorem g_iadd (pc' : Nat) (X : Stand p l e R s m args below meth c T locs cells slots) (hx : p.tables.exec = Jvm.exec) {x y z : Int32} (hd : decode c.code pc = .ok (.iadd, 1)) (hp : pc + 1 = pc') (hz : x + y = z) (H : Go p e below s k n Q T (mkF m pc' Ls (.int z :: st))) : Go p e below s k n Q T (mkF m pc Ls (.int y :: .int x :: st)) := by
  subst hp hz
  exact H.via fun t q => XS.iadd X.here hx rfl hd rfl q
theorem g_isub (pc' : Nat) (X : Stand p l e R s m args below meth c T locs cells slots) (hx : p.tables.exec = Jvm.exec) {x y z : Int32} (hd : decode c.code pc = .ok (.isub, 1)) (hp : pc + 1 = pc') (hz : x - y = z) (H : Go p e below s k n Q T (mkF m pc' Ls (.int z :: st))) : Go p e below s k n Q T (mkF m pc Ls (.int y :: .int x :: st)) := by
  subst hp hz
  exact H.via fun t q => XS.isub X.here hx rfl hd rfl q
theorem g_imul (pc' : Nat) (X : Stand p l e R s m args below meth c T locs cells slots) (hx : p.tables.exec = Jvm.exec) {x y z : Int32} (hd : decode c.code pc = .ok (.imul, 1)) (hp : pc + 1 = pc') (hz : x * y = z) (H : Go p e below s k n Q T (mkF m pc' Ls (.int z :: st))) : Go p e below s k n Q T (mkF m pc Ls (.int y :: .int x :: st)) := by
  subst hp hz
  exact H.via fun t q => XS.imul X.here hx rfl hd rfl q
theorem g_iand (pc' : Nat) (X : Stand p l e R s m args below meth c T locs cells slots) (hx : p.tables.exec = Jvm.exec) {x y z : Int32} (hd : decode c.code pc = .ok (.iand, 1)) (hp : pc + 1 = pc') (hz : x &&& y = z) (H : Go p e below s k n Q T (mkF m pc' Ls (.int z :: st))) : Go p e below s k n Q T (mkF m pc Ls (.int y :: .int x :: st)) := by
  subst hp hz
  exact H.via fun t q => XS.iand X.here hx rfl hd rfl q
theorem g_ior (pc' : Nat) (X : Stand p l e R s m args below meth c T locs cells slots) (hx : p.tables.exec = Jvm.exec) {x y z : Int32} (hd : decode c.code pc = .ok (.ior, 1)) (hp : pc + 1 = pc') (hz : x ||| y = z) (H : Go p e below s k n Q T (mkF m pc' Ls (.int z :: st))) : Go p e below s k n Q T (mkF m pc Ls (.int y :: .int x :: st)) := by
  subst hp hz
  exact H.via fun t q => XS.ior X.here hx rfl hd rfl q
theorem g_ixor (pc' : Nat) (X : Stand p l e R s m args below meth c T locs cells slots) (hx : p.tables.exec = Jvm.exec) {x y z : Int32} (hd : decode c.code pc = .ok (.ixor, 1)) (hp : pc + 1 = pc') (hz : x ^^^ y = z) (H : Go p e below s k n Q T (mkF m pc' Ls (.int z :: st))) : Go p e below s k n Q T (mkF m pc Ls (.int y :: .int x :: st)) := by
  subst hp hz
  exact H.via fun t q => XS.ixor X.here hx rfl hd rfl q
theorem g_ladd (pc' : Nat) (X : Stand p l e R s m args below meth c T locs cells slots) (hx : p.tables.exec = Jvm.exec) {x y z : Int64} (hd : decode c.code pc = .ok (.ladd, 1)) (hp : pc + 1 = pc') (hz : x + y = z) (H : Go p e below s k n Q T (mkF m pc' Ls (.long z :: st))) : Go p e below s k n Q T (mkF m pc Ls (.long y :: .long x :: st)) := by
  subst hp hz
  exact H.via fun t q => XS.ladd X.here hx rfl hd rfl q
theorem g_lsub (pc' : Nat) (X : Stand p l e R s m args below meth c T locs cells slots) (hx : p.tables.exec = Jvm.exec) {x y z : Int64} (hd : decode c.code pc = .ok (.lsub, 1)) (hp : pc + 1 = pc') (hz : x - y = z) (H : Go p e below s k n Q T (mkF m pc' Ls (.long z :: st))) : Go p e below s k n Q T (mkF m pc Ls (.long y :: .long x :: st)) := by
  subst hp hz
  exact H.via fun t q => XS.lsub X.here hx rfl hd rfl q
theorem g_lmul (pc' : Nat) (X : Stand p l e R s m args below meth c T locs cells slots) (hx : p.tables.exec = Jvm.exec) {x y z : Int64} (hd : decode c.code pc = .ok (.lmul, 1)) (hp : pc + 1 = pc') (hz : x * y = z) (H : Go p e below s k n Q T (mkF m pc' Ls (.long z :: st))) : Go p e below s k n Q T (mkF m pc Ls (.long y :: .long x :: st)) := by
  subst hp hz
  exact H.via fun t q => XS.lmul X.here hx rfl hd rfl q
theorem g_land (pc' : Nat) (X : Stand p l e R s m args below meth c T locs cells slots) (hx : p.tables.exec = Jvm.exec) {x y z : Int64} (hd : decode c.code pc = .ok (.land, 1)) (hp : pc + 1 = pc') (hz : x &&& y = z) (H : Go p e below s k n Q T (mkF m pc' Ls (.long z :: st))) : Go p e below s k n Q T (mkF m pc Ls (.long y :: .long x :: st)) := by
  subst hp hz
  exact H.via fun t q => XS.land X.here hx rfl hd rfl q
theorem g_lor (pc' : Nat) (X : Stand p l e R s m args below meth c T locs cells slots) (hx : p.tables.exec = Jvm.exec) {x y z : Int64} (hd : decode c.code pc = .ok (.lor, 1)) (hp : pc + 1 = pc') (hz : x ||| y = z) (H : Go p e below s k n Q T (mkF m pc' Ls (.long z :: st))) : Go p e below s k n Q T (mkF m pc Ls (.long y :: .long x :: st)) := by
  subst hp hz
  exact H.via fun t q => XS.lor X.here hx rfl hd rfl q
theorem g_lxor (pc' : Nat) (X : Stand p l e R s m args below meth c T locs cells slots) (hx : p.tables.exec = Jvm.exec) {x y z : Int64} (hd : decode c.code pc = .ok (.lxor, 1)) (hp : pc + 1 = pc') (hz : x ^^^ y = z) (H : Go p e below s k n Q T (mkF m pc' Ls (.long z :: st))) : Go p e below s k n Q T (mkF m pc Ls (.long y :: .long x :: st)) := by
  subst hp hz
  exact H.via fun t q => XS.lxor X.here hx rfl hd rfl q
theorem g_ishl (pc' : Nat) (X : Stand p l e R s m args below meth c T locs cells slots) (hx : p.tables.exec = Jvm.exec) {x y z : Int32} (hd : decode c.code pc = .ok (.ishl, 1)) (hp : pc + 1 = pc') (hz : x <<< (y &&& 31) = z) (H : Go p e below s k n Q T (mkF m pc' Ls (.int z :: st))) : Go p e below s k n Q T (mkF m pc Ls (.int y :: .int x :: st)) := by
  subst hp hz
  exact H.via fun t q => XS.ishl X.here hx rfl hd rfl q
theorem g_ishr (pc' : Nat) (X : Stand p l e R s m args below meth c T locs cells slots) (hx : p.tables.exec = Jvm.exec) {x y z : Int32} (hd : decode c.code pc = .ok (.ishr, 1)) (hp : pc + 1 = pc') (hz : x >>> (y &&& 31) = z) (H : Go p e below s k n Q T (mkF m pc' Ls (.int z :: st))) : Go p e below s k n Q T (mkF m pc Ls (.int y :: .int x :: st)) := by
  subst hp hz
  exact H.via fun t q => XS.ishr X.here hx rfl hd rfl q
theorem g_iushr (pc' : Nat) (X : Stand p l e R s m args below meth c T locs cells slots) (hx : p.tables.exec = Jvm.exec) {x y z : Int32} (hd : decode c.code pc = .ok (.iushr, 1)) (hp : pc + 1 = pc') (hz : (x.toUInt32 >>> (y &&& 31).toUInt32).toInt32 = z) (H : Go p e below s k n Q T (mkF m pc' Ls (.int z :: st))) : Go p e below s k n Q T (mkF m pc Ls (.int y :: .int x :: st)) := by
  subst hp hz
  exact H.via fun t q => XS.iushr X.here hx rfl hd rfl q
theorem g_lshl (pc' : Nat) (X : Stand p l e R s m args below meth c T locs cells slots) (hx : p.tables.exec = Jvm.exec) {x z : Int64} {y : Int32} (hd : decode c.code pc = .ok (.lshl, 1)) (hp : pc + 1 = pc') (hz : x <<< (y &&& 0x3f).toInt64 = z) (H : Go p e below s k n Q T (mkF m pc' Ls (.long z :: st))) : Go p e below s k n Q T (mkF m pc Ls (.int y :: .long x :: st)) := by
  subst hp hz
  exact H.via fun t q => XS.lshl X.here hx rfl hd rfl q
theorem g_lshr (pc' : Nat) (X : Stand p l e R s m args below meth c T locs cells slots) (hx : p.tables.exec = Jvm.exec) {x z : Int64} {y : Int32} (hd : decode c.code pc = .ok (.lshr, 1)) (hp : pc + 1 = pc') (hz : x >>> (y &&& 0x3f).toInt64 = z) (H : Go p e below s k n Q T (mkF m pc' Ls (.long z :: st))) : Go p e below s k n Q T (mkF m pc Ls (.int y :: .long x :: st)) := by
  subst hp hz
  exact H.via fun t q => XS.lshr X.here hx rfl hd rfl q
theorem g_lushr (pc' : Nat) (X : Stand p l e R s m args below meth c T locs cells slots) (hx : p.tables.exec = Jvm.exec) {x z : Int64} {y : Int32} (hd : decode c.code pc = .ok (.lushr, 1)) (hp : pc + 1 = pc') (hz : (x.toUInt64 >>> (y &&& 0x3f).toInt64.toUInt64).toInt64 = z) (H : Go p e below s k n Q T (mkF m pc' Ls (.long z :: st))) : Go p e below s k n Q T (mkF m pc Ls (.int y :: .long x :: st)) := by
  subst hp hz
  exact H.via fun t q => XS.lushr X.here hx rfl hd rfl q
theorem g_idiv (pc' : Nat) (X : Stand p l e R s m args below meth c T locs cells slots) (hx : p.tables.exec = Jvm.exec) {x y z : Int32} (hd : decode c.code pc = .ok (.idiv, 1)) (hp : pc + 1 = pc') (hy : y ≠ 0) (hz : x / y = z) (H : Go p e below s k n Q T (mkF m pc' Ls (.int z :: st))) : Go p e below s k n Q T (mkF m pc Ls (.int y :: .int x :: st)) := by
  subst hp hz
  exact H.via fun t q => XS.idiv X.here hx rfl hd rfl hy q
theorem g_irem (pc' : Nat) (X : Stand p l e R s m args below meth c T locs cells slots) (hx : p.tables.exec = Jvm.exec) {x y z : Int32} (hd : decode c.code pc = .ok (.irem, 1)) (hp : pc + 1 = pc') (hy : y ≠ 0) (hz : x % y = z) (H : Go p e below s k n Q T (mkF m pc' Ls (.int z :: st))) : Go p e below s k n Q T (mkF m pc Ls (.int y :: .int x :: st)) := by
  subst hp hz
  exact H.via fun t q => iremM X hx rfl hd rfl hy q
theorem g_ldiv (pc' : Nat) (X : Stand p l e R s m args below meth c T locs cells slots) (hx : p.tables.exec = Jvm.exec) {x y z : Int64} (hd : decode c.code pc = .ok (.ldiv, 1)) (hp : pc + 1 = pc') (hy : y ≠ 0) (hz : x / y = z) (H : Go p e below s k n Q T (mkF m pc' Ls (.long z :: st))) : Go p e below s k n Q T (mkF m pc Ls (.long y :: .long x :: st)) := by
  subst hp hz
  exact H.via fun t q => XS.ldiv X.here hx rfl hd rfl hy q
theorem g_lrem (pc' : Nat) (X : Stand p l e R s m args below meth c T locs cells slots) (hx : p.tables.exec = Jvm.exec) {x y z : Int64} (hd : decode c.code pc = .ok (.lrem, 1)) (hp : pc + 1 = pc') (hy : y ≠ 0) (hz : x % y = z) (H : Go p e below s k n Q T (mkF m pc' Ls (.long z :: st))) : Go p e below s k n Q T (mkF m pc Ls (.long y :: .long x :: st)) := by
  subst hp hz
  exact H.via fun t q => XS.lrem X.here hx rfl hd rfl hy (by rw [lrem_mod]; exact q)
theorem g_ineg (pc' : Nat) (X : Stand p l e R s m args below meth c T locs cells slots) (hx : p.tables.exec = Jvm.exec) {x : Int32} {z : Int32} (hd : decode c.code pc = .ok (.ineg, 1)) (hp : pc + 1 = pc') (hz : -x = z) (H : Go p e below s k n Q T (mkF m pc' Ls (.int z :: st))) : Go p e below s k n Q T (mkF m pc Ls (.int x :: st)) := by
  subst hp hz
  exact H.via fun t q => XS.ineg X.here hx rfl hd rfl q
theorem g_lneg (pc' : Nat) (X : Stand p l e R s m args below meth c T locs cells slots) (hx : p.tables.exec = Jvm.exec) {x : Int64} {z : Int64} (hd : decode c.code pc = .ok (.lneg, 1)) (hp : pc + 1 = pc') (hz : -x = z) (H : Go p e below s k n Q T (mkF m pc' Ls (.long z :: st))) : Go p e below s k n Q T (mkF m pc Ls (.long x :: st)) := by
  subst hp hz
  exact H.via fun t q => XS.lneg X.here hx rfl hd rfl q
theorem g_i2l (pc' : Nat) (X : Stand p l e R s m args below meth c T locs cells slots) (hx : p.tables.exec = Jvm.exec) {x : Int32} {z : Int64} (hd : decode c.code pc = .ok (.i2l, 1)) (hp : pc + 1 = pc') (hz : x.toInt64 = z) (H : Go p e below s k n Q T (mkF m pc' Ls (.long z :: st))) : Go p e below s k n Q T (mkF m pc Ls (.int x :: st)) := by
  subst hp hz
  exact H.via fun t q => XS.i2l X.here hx rfl hd rfl q
theorem g_l2i (pc' : Nat) (X : Stand p l e R s m args below meth c T locs cells slots) (hx : p.tables.exec = Jvm.exec) {x : Int64} {z : Int32} (hd : decode c.code pc = .ok (.l2i, 1)) (hp : pc + 1 = pc') (hz : x.toInt32 = z) (H : Go p e below s k n Q T (mkF m pc' Ls (.int z :: st))) : Go p e below s k n Q T (mkF m pc Ls (.long x :: st)) := by
  subst hp hz
  exact H.via fun t q => XS.l2i X.here hx rfl hd rfl q
theorem g_i2b (pc' : Nat) (X : Stand p l e R s m args below meth c T locs cells slots) (hx : p.tables.exec = Jvm.exec) {x : Int32} {z : Int32} (hd : decode c.code pc = .ok (.i2b, 1)) (hp : pc + 1 = pc') (hz : x.toInt8.toInt32 = z) (H : Go p e below s k n Q T (mkF m pc' Ls (.int z :: st))) : Go p e below s k n Q T (mkF m pc Ls (.int x :: st)) := by
  subst hp hz
  exact H.via fun t q => XS.i2b X.here hx rfl hd rfl q
theorem g_i2s (pc' : Nat) (X : Stand p l e R s m args below meth c T locs cells slots) (hx : p.tables.exec = Jvm.exec) {x : Int32} {z : Int32} (hd : decode c.code pc = .ok (.i2s, 1)) (hp : pc + 1 = pc') (hz : x.toInt16.toInt32 = z) (H : Go p e below s k n Q T (mkF m pc' Ls (.int z :: st))) : Go p e below s k n Q T (mkF m pc Ls (.int x :: st)) := by
  subst hp hz
  exact H.via fun t q => XS.i2s X.here hx rfl hd rfl q
theorem g_i2c (pc' : Nat) (X : Stand p l e R s m args below meth c T locs cells slots) (hx : p.tables.exec = Jvm.exec) {x : Int32} {z : Int32} (hd : decode c.code pc = .ok (.i2c, 1)) (hp : pc + 1 = pc') (hz : x.toUInt32.toUInt16.toUInt32.toInt32 = z) (H : Go p e below s k n Q T (mkF m pc' Ls (.int z :: st))) : Go p e below s k n Q T (mkF m pc Ls (.int x :: st)) := by
  subst hp hz
  exact H.via fun t q => XS.i2c X.here hx rfl hd rfl q
theorem g_dup (pc' : Nat) (X : Stand p l e R s m args below meth c T locs cells slots) (hx : p.tables.exec = Jvm.exec) {v : Value} (hd : decode c.code pc = .ok (.dup, 1)) (hp : pc + 1 = pc') (hv : v.category = 1) (H : Go p e below s k n Q T (mkF m pc' Ls (v :: v :: st))) : Go p e below s k n Q T (mkF m pc Ls (v :: st)) := by
  subst hp
  exact H.via fun t q => XS.dup X.here hx rfl hd rfl hv q
theorem g_pop (pc' : Nat) (X : Stand p l e R s m args below meth c T locs cells slots) (hx : p.tables.exec = Jvm.exec) {v : Value} (hd : decode c.code pc = .ok (.pop, 1)) (hp : pc + 1 = pc') (hv : v.category = 1) (H : Go p e below s k n Q T (mkF m pc' Ls st)) : Go p e below s k n Q T (mkF m pc Ls (v :: st)) := by
  subst hp
  exact H.via fun t q => XS.pop X.here hx rfl hd rfl hv q
theorem g_dup_x1 (pc' : Nat) (X : Stand p l e R s m args below meth c T locs cells slots) (hx : p.tables.exec = Jvm.exec) {v w : Value} (hd : decode c.code pc = .ok (.dup_x1, 1)) (hp : pc + 1 = pc') (hv : v.category = 1) (hw : w.category = 1) (H : Go p e below s k n Q T (mkF m pc' Ls (v :: w :: v :: st))) : Go p e below s k n Q T (mkF m pc Ls (v :: w :: st)) := by
  subst hp
  exact H.via fun t q => XS.dupX1 X.here hx rfl hd rfl hv hw q
theorem g_dup2 (pc' : Nat) (X : Stand p l e R s m args below meth c T locs cells slots) (hx : p.tables.exec = Jvm.exec) {v w : Value} (hd : decode c.code pc = .ok (.dup2, 1)) (hp : pc + 1 = pc') (hv : v.category = 1) (hw : w.category = 1) (H : Go p e below s k n Q T (mkF m pc' Ls (v :: w :: v :: w :: st))) : Go p e below s k n Q T (mkF m pc Ls (v :: w :: st)) := by
  subst hp
  exact H.via fun t q => XT.dup2 X.here hx rfl hd rfl hv hw q
theorem g_iinc (pc' : Nat) (X : Stand p l e R s m args below meth c T locs cells slots) (hx : p.tables.exec = Jvm.exec) {i : Nat} {cst : Int} {x z : Int32} {Ls' : Array Slot} (hd : decode c.code pc = .ok (.iinc i cst, 3)) (hp : pc + 3 = pc') (hl : Ls[i]? = some (.val (.int x))) (hz : x + Int32.ofInt cst = z) (hl' : storeLocals Ls i (.int z) = some Ls') (H : Go p e below s k n Q T (mkF m pc' Ls' st)) : Go p e below s k n Q T (mkF m pc Ls st) := by
  subst hp hz
  exact H.via fun t q => XS.iinc X.here hx rfl hd hl hl' q
theorem g_goto (pc' : Nat) (X : Stand p l e R s m args below meth c T locs cells slots) (hx : p.tables.exec = Jvm.exec) {o : Int} (hd : decode c.code pc = .ok (.goto o, 3)) (ho : 0 ≤ (pc : Int) + o) (hp : ((pc : Int) + o).toNat = pc') (H : Go p e below s k n Q T (mkF m pc' Ls st)) : Go p e below s k n Q T (mkF m pc Ls st) :=
  H.via fun t q => XS.goto X.here hx rfl rfl hd ho hp q
theorem g_ifYes (pc' : Nat) (X : Stand p l e R s m args below meth c T locs cells slots) (hx : p.tables.exec = Jvm.exec) {cd : ClassFile.Cond} {x : Int32} {o : Int} (hd : decode c.code pc = .ok (.ifCond cd o, 3)) (hc : ifCond.holds cd x = true) (ho : 0 ≤ (pc : Int) + o) (hp : ((pc : Int) + o).toNat = pc') (H : Go p e below s k n Q T (mkF m pc' Ls st)) : Go p e below s k n Q T (mkF m pc Ls (.int x :: st)) :=
  H.via fun t q => XS.ifYes X.here hx rfl rfl hd rfl hc ho hp q
theorem g_ifNo (pc' : Nat) (X : Stand p l e R s m args below meth c T locs cells slots) (hx : p.tables.exec = Jvm.exec) {cd : ClassFile.Cond} {x : Int32} {o : Int} (hd : decode c.code pc = .ok (.ifCond cd o, 3)) (hc : ifCond.holds cd x = false) (hp : pc + 3 = pc') (H : Go p e below s k n Q T (mkF m pc' Ls st)) : Go p e below s k n Q T (mkF m pc Ls (.int x :: st)) := by
  subst hp
  exact H.via fun t q => XS.ifNo X.here hx rfl hd rfl hc q
theorem g_icmpYes (pc' : Nat) (X : Stand p l e R s m args below meth c T locs cells slots) (hx : p.tables.exec = Jvm.exec) {cd : ClassFile.Cond} {x y : Int32} {o : Int} (hd : decode c.code pc = .ok (.if_icmp cd o, 3)) (hc : if_icmp.holds cd x y = true) (ho : 0 ≤ (pc : Int) + o) (hp : ((pc : Int) + o).toNat = pc') (H : Go p e below s k n Q T (mkF m pc' Ls st)) : Go p e below s k n Q T (mkF m pc Ls (.int y :: .int x :: st)) :=
  H.via fun t q => XS.icmpYes X.here hx rfl rfl hd rfl hc ho hp q
theorem g_icmpNo (pc' : Nat) (X : Stand p l e R s m args below meth c T locs cells slots) (hx : p.tables.exec = Jvm.exec) {cd : ClassFile.Cond} {x y : Int32} {o : Int} (hd : decode c.code pc = .ok (.if_icmp cd o, 3)) (hc : if_icmp.holds cd x y = false) (hp : pc + 3 = pc') (H : Go p e below s k n Q T (mkF m pc' Ls st)) : Go p e below s k n Q T (mkF m pc Ls (.int y :: .int x :: st)) := by
  subst hp
  exact H.via fun t q => XS.icmpNo X.here hx rfl hd rfl hc q
theorem g_lcmpYes (pc' : Nat) (X : Stand p l e R s m args below meth c T locs cells slots) (hx : p.tables.exec = Jvm.exec) {cd : ClassFile.Cond} {x y : Int64} {o : Int} {pc1 : Nat} (hd : decode c.code pc = .ok (.lcmp, 1)) (hp1 : pc + 1 = pc1) (hd' : decode c.code pc1 = .ok (.ifCond cd o, 3)) (hc : ifCond.holds cd (lcmpW x y) = true) (ho : 0 ≤ (pc1 : Int) + o) (hp : ((pc1 : Int) + o).toNat = pc') (H : Go p e below s k n Q T (mkF m pc' Ls st)) : Go p e below s k n Q T (mkF m pc Ls (.long y :: .long x :: st)) := by
  subst hp1
  exact H.via fun t q => XS.lcmp X.here hx rfl hd rfl (XS.ifYes X.here hx rfl rfl hd' rfl hc ho hp q)
theorem g_lcmpNo (pc' : Nat) (X : Stand p l e R s m args below meth c T locs cells slots) (hx : p.tables.exec = Jvm.exec) {cd : ClassFile.Cond} {x y : Int64} {o : Int} {pc1 : Nat} (hd : decode c.code pc = .ok (.lcmp, 1)) (hp1 : pc + 1 = pc1) (hd' : decode c.code pc1 = .ok (.ifCond cd o, 3)) (hc : ifCond.holds cd (lcmpW x y) = false) (hp : pc1 + 3 = pc') (H : Go p e below s k n Q T (mkF m pc' Ls st)) : Go p e below s k n Q T (mkF m pc Ls (.long y :: .long x :: st)) := by
  subst hp1; subst hp
  exact H.via fun t q => XS.lcmp X.here hx rfl hd rfl (XS.ifNo X.here hx rfl hd' rfl hc q)
theorem g_ifnullYes (pc' : Nat) (X : Stand p l e R s m args below meth c T locs cells slots) (hx : p.tables.exec = Jvm.exec) {b : Addr} {o : Int} (hd : decode c.code pc = .ok (.ifnull o, 3)) (ho : 0 ≤ (pc : Int) + o) (hp : ((pc : Int) + o).toNat = pc') (H : Go p e below s k n Q T (mkF m pc' Ls st)) : Go p e below s k n Q T (mkF m pc Ls (.null :: st)) :=
  H.via fun t q => XS.ifnullYes X.here hx rfl rfl hd rfl ho hp q
theorem g_ifnullNo (pc' : Nat) (X : Stand p l e R s m args below meth c T locs cells slots) (hx : p.tables.exec = Jvm.exec) {b : Addr} {o : Int} (hd : decode c.code pc = .ok (.ifnull o, 3)) (hp : pc + 3 = pc') (H : Go p e below s k n Q T (mkF m pc' Ls st)) : Go p e below s k n Q T (mkF m pc Ls (.ref b :: st)) := by
  subst hp
  exact H.via fun t q => XS.ifnullNo X.here hx rfl hd rfl q
theorem g_ifnonnullYes (pc' : Nat) (X : Stand p l e R s m args below meth c T locs cells slots) (hx : p.tables.exec = Jvm.exec) {b : Addr} {o : Int} (hd : decode c.code pc = .ok (.ifnonnull o, 3)) (ho : 0 ≤ (pc : Int) + o) (hp : ((pc : Int) + o).toNat = pc') (H : Go p e below s k n Q T (mkF m pc' Ls st)) : Go p e below s k n Q T (mkF m pc Ls (.ref b :: st)) :=
  H.via fun t q => XS.ifnonnullYes X.here hx rfl rfl hd rfl ho hp q
theorem g_ifnonnullNo (pc' : Nat) (X : Stand p l e R s m args below meth c T locs cells slots) (hx : p.tables.exec = Jvm.exec) {b : Addr} {o : Int} (hd : decode c.code pc = .ok (.ifnonnull o, 3)) (hp : pc + 3 = pc') (H : Go p e below s k n Q T (mkF m pc' Ls st)) : Go p e below s k n Q T (mkF m pc Ls (.null :: st)) := by
  subst hp
  exact H.via fun t q => XS.ifnonnullNo X.here hx rfl hd rfl q
theorem g_ldc (pc' : Nat) (X : Stand p l e R s m args below meth c T locs cells slots) (hx : p.tables.exec = Jvm.exec) (hZ : Z.Warmed39 s.vm) {own : String} {index : Nat} {z : Int32} (hown : s.vm.findClass own = some m.cls) (w : (Cond.constant own index z).before a0 Z = true) (hd : decode c.code pc = .ok (.ldc index, 2)) (hp : pc + 2 = pc') (H : Go p e below s k n Q T (mkF m pc' Ls (.int z :: st))) : Go p e below s k n Q T (mkF m pc Ls st) := by
  subst hp
  exact H.via fun t q => X.ldcInt hx hown (mvT hZ w) (g := mkF m pc Ls st) rfl hd t q
theorem g_ldc2 (pc' : Nat) (X : Stand p l e R s m args below meth c T locs cells slots) (hx : p.tables.exec = Jvm.exec) (hZ : Z.Warmed39 s.vm) {own : String} {index : Nat} {z : Int64} (hown : s.vm.findClass own = some m.cls) (w : (Cond.constantLong own index z).before a0 Z = true) (hd : decode c.code pc = .ok (.ldc2_w index, 3)) (hp : pc + 3 = pc') (H : Go p e below s k n Q T (mkF m pc' Ls (.long z :: st))) : Go p e below s k n Q T (mkF m pc Ls st) := by
  subst hp
  exact H.via fun t q => X.ldc2Long hx hown (mvT hZ w) (g := mkF m pc Ls st) rfl hd t q
theorem g_retI (X : Stand p l e R s m args below meth c T locs cells slots) (hx : p.tables.exec = Jvm.exec) (hret : meth.sig.returnType = some .int) (hlk : meth.locks = false) {z : Int32} (hd : decode c.code pc = .ok (.ireturn, 1)) (hk : cells ≤ k) (hn : slots ≤ n) (hQ : Q (some (.int z)) T.heap locs) : Go p e below s k n Q T (mkF m pc Ls (.int z :: st)) := by
  obtain ⟨fs, hr, hrun, hended, hW, hsame⟩ := X.leave (v := some (.int z)) (fun q => by rw [hret] at q; cases q) hlk
  exact ⟨_, _, retOut X hx hret rfl (Or.inl ⟨rfl, Or.inl rfl, z, rfl⟩) hd hr, hrun, hended, _, _, rfl, hQ, ⟨_, rfl⟩, hW, hsame.mono hk hn⟩
theorem g_retJ (X : Stand p l e R s m args below meth c T locs cells slots) (hx : p.tables.exec = Jvm.exec) (hret : meth.sig.returnType = some .long) (hlk : meth.locks = false) {z : Int64} (hd : decode c.code pc = .ok (.lreturn, 1)) (hk : cells ≤ k) (hn : slots ≤ n) (hQ : Q (some (.long z)) T.heap locs) : Go p e below s k n Q T (mkF m pc Ls (.long z :: st)) := by
  obtain ⟨fs, hr, hrun, hended, hW, hsame⟩ := X.leave (v := some (.long z)) (fun q => by rw [hret] at q; cases q) hlk
  exact ⟨_, _, retOut X hx hret rfl (Or.inr (Or.inl ⟨rfl, rfl, z, rfl⟩)) hd hr, hrun, hended, _, _, rfl, hQ, ⟨_, rfl⟩, hW, hsame.mono hk hn⟩
theorem g_retA {ty : FieldType} (X : Stand p l e R s m args below meth c T locs cells slots) (hx : p.tables.exec = Jvm.exec) (hret : meth.sig.returnType = some ty) (hlk : meth.locks = false) {v : Value} (hty : ty.isReference = true) (hv : v.isRef = true) (hnv : narrow ty v = v) (hd : decode c.code pc = .ok (.areturn, 1)) (hk : cells ≤ k) (hn : slots ≤ n) (hQ : Q (some v) T.heap locs) : Go p e below s k n Q T (mkF m pc Ls (v :: st)) := by
  obtain ⟨fs, hr, hrun, hended, hW, hsame⟩ := X.leave (v := some v) (fun q => by rw [hret] at q; cases q) hlk
  exact ⟨_, _, retOut X hx hret hnv (Or.inr (Or.inr (Or.inr (Or.inr ⟨rfl, hty, hv⟩)))) hd hr, hrun, hended, _, _, rfl, hQ, ⟨_, rfl⟩, hW, hsame.mono hk hn⟩
theorem g_ret0 (X : Stand p l e R s m args below meth c T locs cells slots) (hx : p.tables.exec = Jvm.exec) (hret : meth.sig.returnType = none) (hlk : meth.locks = false) (hd : decode c.code pc = .ok (.return_, 1)) (hk : cells ≤ k) (hn : slots ≤ n) (hQ : Q (none) T.heap locs) : Go p e below s k n Q T (mkF m pc Ls []) := by
  obtain ⟨fs, hr, hrun, hended, hW, hsame⟩ := X.leave (v := none) (fun _ => rfl) hlk
  exact ⟨_, _, X.returnOut hx hret hd hr, hrun, hended, _, _, rfl, hQ, ⟨_, rfl⟩, hW, hsame.mono hk hn⟩
theorem g_retN (X : Stand p l e R s m args below meth c T locs cells slots) (hx : p.tables.exec = Jvm.exec) {t : FieldType} (hret : meth.sig.returnType = some t) (hlk : meth.locks = false) {z z' : Int32} (ht : t = .boolean ∨ t = .byte ∨ t = .char ∨ t = .short) (hz : nar t z = z') (hd : decode c.code pc = .ok (.ireturn, 1)) (hk : cells ≤ k) (hn : slots ≤ n) (hQ : Q (some (.int z')) T.heap locs) : Go p e below s k n Q T (mkF m pc Ls (.int z :: st)) := by
  subst hz
  obtain ⟨fs, hr, hrun, hended, hW, hsame⟩ := X.leave (v := some (.int (nar t z))) (fun q => by rw [hret] at q; cases q) hlk
  exact ⟨_, _, retN X hx hret ht hd hr, hrun, hended, _, _, rfl, hQ, ⟨_, rfl⟩, hW, hsame.mono hk hn⟩
theorem g_getF (pc' : Nat) (X : Stand p l e R s m args below meth c T locs cells slots) (hx : p.tables.exec = Jvm.exec) (hZ : Z.Warmed39 s.vm) {own R0 O nm d : String} {index : Nat} (hown : s.vm.findClass own = some m.cls) (w : (Cond.fieldLink own index R0 nm d).before a0 Z = true) (via : Via Z R0 O nm d) (eT : T.heap = h) {a : Addr} {v : Value} (F : Fld Z h a O nm d v) (hd : decode c.code pc = .ok (.getfield index, 3)) (hp : pc + 3 = pc') (H : ∀ T', Stand p l e R s m args below meth c T' locs cells slots → T'.heap = h → Go p e below s k n Q T' (mkF m pc' Ls (v :: st))) : Go p e below s k n Q T (mkF m pc Ls (.ref a :: st)) := by
  subst hp
  obtain ⟨T', X', e', q⟩ := getF X hx hZ hown (host := "") (Or.inl w) via eT F (g := mkF m pc Ls (.ref a :: st)) rfl rfl hd
  exact (H T' X' e').via q
theorem g_putF (pc' : Nat) (X : Stand p l e R s m args below meth c T locs cells slots) (hx : p.tables.exec = Jvm.exec) (hZ : Z.Warmed39 s.vm) {own R0 O nm d C : String} {index kk : Nat} {ty : FieldType} (hown : s.vm.findClass own = some m.cls) (w : (Cond.fieldLink own index R0 nm d).before a0 Z = true) (via : Via Z R0 O nm d) (eT : T.heap = h) {a : Addr} {v old : Value} (F : Fld Z h a O nm d old) (E : Exa Z h a C) (L : (Cond.lays C O nm d).before a0 Z = true ∨ ((Cond.laysFinal C O nm d).before a0 Z = true ∧ own = O ∧ meth.name = "<init>")) (wi : (Cond.instantiable C kk).before a0 Z = true) (hty : parseFieldDescriptor d = some ty) (hn : narrow ty v = v) (hf : fits ty v = true) (hd : decode c.code pc = .ok (.putfield index, 3)) (hp : pc + 3 = pc') (H : ∀ T' h', Stand p l e R s m args below meth c T' (locs ++ [⟨a, Jvm.RoadKit.slotOf Z O nm d⟩]) cells slots → T'.heap = h' → Wr h h' a (Jvm.RoadKit.slotOf Z O nm d) v → Go p e below s k n Q T' (mkF m pc' Ls st)) : Go p e below s k n Q T (mkF m pc Ls (v :: .ref a :: st)) := by
  subst hp
  obtain ⟨T', h', X', e', W, q⟩ := putF X hx hZ hown (host := "") (Or.inl w) via eT F E L wi hty hn hf (g := mkF m pc Ls (v :: .ref a :: st)) rfl rfl hd
  exact (H T' h' X' e' W).via q
theorem g_newO (pc' : Nat) (X : Stand p l e R s m args below meth c T locs cells slots) (hx : p.tables.exec = Jvm.exec) (hZ : Z.Warmed39 s.vm) {own C : String} {index nn : Nat} (hown : s.vm.findClass own = some m.cls) (w : (Cond.classLink own index C).before a0 Z = true) (wi : (Cond.instantiable C nn).before a0 Z = true) (wz : (Cond.initialized C).before a0 Z = true) (eT : T.heap = h) (hd : decode c.code pc = .ok (.new index, 3)) (hc : cells + 1 ≤ R.cells) (hl : slots + nn ≤ R.slots) (hp : pc + 3 = pc') (H : ∀ T' h' b, Stand p l e R s m args below meth c T' locs (cells + 1) (slots + nn) → T'.heap = h' → Ext h h' → b = h.size → Exa Z h' b C → (∀ {O nm d : String} {ty : FieldType}, Laid Z a0 C O nm d → parseFieldDescriptor d = some ty → Fld Z h' b O nm d (defaultValue ty)) → Go p e below s k n Q T' (mkF m pc' Ls (.ref b :: st))) : Go p e below s k n Q T (mkF m pc Ls st) := by
  subst hp
  obtain ⟨T', h', X', e', E, A, D, -, q⟩ := newO X hx hZ hown w wi wz eT (g := mkF m pc Ls st) rfl hd hc hl
  exact (H T' h' _ X' e' E rfl A D).via q
theorem g_initO (pc' : Nat) (X : Stand p l e R s m args below meth c T locs cells slots) (hx : p.tables.exec = Jvm.exec) (hZ : Z.Warmed39 s.vm) {own : String} {idx : Nat} (hown : s.vm.findClass own = some m.cls) (w1 : (Cond.methodLink own idx Lib.objectInit).before a0 Z = true) (w2 : (Cond.instanceMethod Lib.objectInit).before a0 Z = true) (w3 : (Cond.code Lib.objectInit ⟨#[0xb1]⟩ 1 none).before a0 Z = true) (eT : T.heap = h) (hsize : Ls.size = c.maxLocals) {a : Addr} (hd : decode c.code pc = .ok (.invokespecial idx, 3)) (hf : 1 ≤ R.frames) (W : Nat) (hW : (st.map fun v => v.category).sum ≤ W) (hl : W + 12 ≤ R.locals) (hp : pc + 3 = pc') (H : ∀ T', Stand p l e R s m args below meth c T' locs cells slots → T'.heap = h → Go p e below s k n Q T' (mkF m pc' Ls st)) : Go p e below s k n Q T (mkF m pc Ls (.ref a :: st)) := by
  subst hp
  obtain ⟨T', X', e', q⟩ := initO X hx hZ hown w1 w2 w3 eT (g := mkF m pc Ls (.ref a :: st)) rfl hsize rfl hd hf (W := W) (by show 2 * 0 + _ ≤ _; omega) hl
  exact (H T' X' e').via q
theorem g_callS (pc' : Nat) (X : Stand p l e R s m args below meth c T locs cells slots) (hx : p.tables.exec = Jvm.exec) (hZ : Z.Warmed39 s.vm) {own : String} {index : Nat} {y : MethodName} {bytes : ByteArray} {maxL : Nat} {ret : Option FieldType} {rm : Room} {as' : Array Value} {Qc : Option Value → Heap → List Loc → Prop} (hown : s.vm.findClass own = some m.cls) (w1 : (Cond.methodLink own index y).before a0 Z = true) (w2 : (Cond.static y).before a0 Z = true) (w3 : (Cond.initialized y.cls).before a0 Z = true) (w4 : (Cond.code y bytes maxL ret).before a0 Z = true) (hy : y.cls ≠ "java/lang/invoke/MethodHandle" ∧ y.cls ≠ "java/lang/invoke/VarHandle") (eT : T.heap = h) (hM : MetFree l y (head1 [Cond.code y bytes maxL ret] rm) (fun a U => a = as' ∧ Z.Warmed39 U.vm ∧ U.heap = h) (fun _ _ _ _ _ => True) (fun _ U o U' => ∃ v L, o = .returned v ∧ Qc v U'.heap L ∧ FrameEnd U o U' L rm.cells rm.slots)) (hsize : Ls.size = c.maxLocals) (argsL rest : List Value) (ha : argsL.toArray = as') (hst : st = argsL.reverse ++ rest) (hlen : ∀ sig, parseMethodDescriptor y.desc = some sig → argsL.length = sig.parameters.length) (W : Nat) (hW : (rest.map fun v => v.category).sum ≤ W) (hd : decode c.code pc = .ok (.invokestatic index, 3)) (hfr : rm.frames + 1 ≤ R.frames) (hlo : W + (maxL + 11) + rm.locals ≤ R.locals) (hce : cells + rm.cells ≤ R.cells) (hsl : slots + rm.slots ≤ R.slots) (hp : pc + 3 = pc') (H : ∀ v T' L, Stand p l e R s m args below meth c T' (locs ++ L) (cells + rm.cells) (slots + rm.slots) → Qc v T'.heap L → Go p e below s k n Q T' (mkF m pc' Ls (v.toList ++ rest))) : Go p e below s k n Q T (mkF m pc Ls st) := by
  subst hp hst
  obtain ⟨v, _, ⟨T', L, k', n'⟩, -, X', ⟨Lc, hQ, l1, l2, l3⟩, q⟩ := Jvm.LawKit.callS X hx (y := y) hown (mvT hZ w1) (mvT hZ w2) (mvT hZ w3) (mvT hZ w4) hy (backOf (W := W) hM hZ w4 w3 hfr hlo) (g := mkF m pc Ls (argsL.reverse ++ rest)) rfl hsize (argsL := argsL) (rest := rest) hlen rfl (by show 2 * 0 + _ ≤ _; omega) hd (fun _ _ => ⟨ha, eT, hce, hsl⟩)
  dsimp only [Pt.U, Pt.locs, Pt.cells, Pt.slots] at X' l1 l2 l3 q hQ
  subst l1 l2 l3
  exact (H v T' Lc X' hQ).via q
theorem g_callI (pc' : Nat) (X : Stand p l e R s m args below meth c T locs cells slots) (hx : p.tables.exec = Jvm.exec) (hZ : Z.Warmed39 s.vm) {own : String} {index : Nat} {y : MethodName} {bytes : ByteArray} {maxL : Nat} {rm : Room} {as' : Array Value} {Qc : Option Value → Heap → List Loc → Prop} (hy1 : y.name = "<init>") (hown : s.vm.findClass own = some m.cls) (w1 : (Cond.methodLink own index y).before a0 Z = true) (w2 : (Cond.instanceMethod y).before a0 Z = true) (w3 : (Cond.initialized y.cls).before a0 Z = true) (w4 : (Cond.code y bytes maxL none).before a0 Z = true) (hy : y.cls ≠ "java/lang/invoke/MethodHandle" ∧ y.cls ≠ "java/lang/invoke/VarHandle") (eT : T.heap = h) (hM : MetFree l y (head1 [Cond.code y bytes maxL none] rm) (fun a U => a = as' ∧ Z.Warmed39 U.vm ∧ U.heap = h) (fun _ _ _ _ _ => True) (fun _ U o U' => ∃ v L, o = .returned v ∧ Qc v U'.heap L ∧ FrameEnd U o U' L rm.cells rm.slots)) (hsize : Ls.size = c.maxLocals) (a : Addr) (argsL rest : List Value) (ha : (.ref a :: argsL).toArray = as') (hst : st = argsL.reverse ++ .ref a :: rest) (hlen : ∀ sig, parseMethodDescriptor y.desc = some sig → argsL.length = sig.parameters.length) (W : Nat) (hW : (rest.map fun v => v.category).sum ≤ W) (hd : decode c.code pc = .ok (.invokespecial index, 3)) (hfr : rm.frames + 1 ≤ R.frames) (hlo : W + (maxL + 11) + rm.locals ≤ R.locals) (hce : cells + rm.cells ≤ R.cells) (hsl : slots + rm.slots ≤ R.slots) (hp : pc + 3 = pc') (H : ∀ v T' L, Stand p l e R s m args below meth c T' (locs ++ L) (cells + rm.cells) (slots + rm.slots) → Qc v T'.heap L → Go p e below s k n Q T' (mkF m pc' Ls (v.toList ++ rest))) : Go p e below s k n Q T (mkF m pc Ls st) := by
  subst hp hst
  obtain ⟨v, _, ⟨T', L, k', n'⟩, -, X', ⟨Lc, hQ, l1, l2, l3⟩, q⟩ := X.specialBack hx (y := y) hy1 hown (mvT hZ w1) (mvT hZ w2) (mvT hZ w4) hy (backOf (W := W) hM hZ w4 w3 hfr hlo) (g := mkF m pc Ls (argsL.reverse ++ .ref a :: rest)) rfl hsize (Steps.refl _) (a := a) (argsL := argsL) (rest := rest) hlen rfl (by show 2 * 0 + _ ≤ _; omega) hd (fun _ _ => ⟨ha, eT, hce, hsl⟩)
  dsimp only [Pt.U, Pt.locs, Pt.cells, Pt.slots] at X' l1 l2 l3 q hQ
  subst l1 l2 l3
  exact (H v T' Lc X' hQ).via fun t r => q.trans r
theorem g_callV (pc' : Nat) (X : Stand p l e R s m args below meth c T locs cells slots) (hx : p.tables.exec = Jvm.exec) (hZ : Z.Warmed39 s.vm) {own : String} {index : Nat} {y : MethodName} {bytes : ByteArray} {maxL : Nat} {ret : Option FieldType} {rm : Room} {as' : Array Value} {Qc : Option Value → Heap → List Loc → Prop} (hown : s.vm.findClass own = some m.cls) (w1 : (Cond.methodLink own index y).before a0 Z = true) (w2 : (Cond.declares y).before a0 Z = true) (w5 : (Cond.selects y.cls y y).before a0 Z = true) (w6 : (Cond.instanceMethod y).before a0 Z = true) (w3 : (Cond.initialized y.cls).before a0 Z = true) (w4 : (Cond.code y bytes maxL ret).before a0 Z = true) (hy : y.cls ≠ "java/lang/invoke/MethodHandle" ∧ y.cls ≠ "java/lang/invoke/VarHandle") (eT : T.heap = h) {a : Addr} (E : Exa Z h a y.cls) (hM : MetFree l y (head1 [Cond.code y bytes maxL ret] rm) (fun a U => a = as' ∧ Z.Warmed39 U.vm ∧ U.heap = h) (fun _ _ _ _ _ => True) (fun _ U o U' => ∃ v L, o = .returned v ∧ Qc v U'.heap L ∧ FrameEnd U o U' L rm.cells rm.slots)) (hsize : Ls.size = c.maxLocals) (argsL rest : List Value) (ha : (.ref a :: argsL).toArray = as') (hst : st = argsL.reverse ++ .ref a :: rest) (hlen : ∀ sig, parseMethodDescriptor y.desc = some sig → argsL.length = sig.parameters.length) (W : Nat) (hW : (rest.map fun v => v.category).sum ≤ W) (hd : decode c.code pc = .ok (.invokevirtual index, 3)) (hfr : rm.frames + 1 ≤ R.frames) (hlo : W + (maxL + 11) + rm.locals ≤ R.locals) (hce : cells + rm.cells ≤ R.cells) (hsl : slots + rm.slots ≤ R.slots) (hp : pc + 3 = pc') (H : ∀ v T' L, Stand p l e R s m args below meth c T' (locs ++ L) (cells + rm.cells) (slots + rm.slots) → Qc v T'.heap L → Go p e below s k n Q T' (mkF m pc' Ls (v.toList ++ rest))) : Go p e below s k n Q T (mkF m pc Ls st) := by
  subst hp hst
  obtain ⟨cq, kq, qa, qb, qc⟩ := isOf hZ eT E
  obtain ⟨v, _, ⟨T', L, k', n'⟩, -, X', ⟨Lc, hQ, l1, l2, l3⟩, q⟩ := X.virtualBack hx (y := y) (z := y) hown (mvT hZ w1) (mvT hZ w2) (notFace_of_selects (args := #[]) (mvT hZ w5)) (mvT hZ w5) (mvT hZ w6) hy (backOf (W := W) hM hZ w4 w3 hfr hlo) qa qc (g := mkF m pc Ls (argsL.reverse ++ .ref a :: rest)) rfl hsize (Steps.refl _) (argsL := argsL) (rest := rest) hlen rfl (by show 2 * 0 + _ ≤ _; omega) hd (fun _ _ => ⟨ha, eT, hce, hsl⟩)
  dsimp only [Pt.U, Pt.locs, Pt.cells, Pt.slots] at X' l1 l2 l3 q hQ
  subst l1 l2 l3
  exact (H v T' Lc X' hQ).via fun t r => q.trans r
/-- an array of ints (bytes, chars, shorts, booleans) at a, whole -/
def AI (Z : State) (h : Heap) (a : Addr) (ty : FieldType) (bs : List Int32) : Prop := ∃ c : Cell, Arr Z h a c ty ∧ c.slots = (bs.map Value.int).toArray ∧ bs.length < 2 ^ 31
/-- an array of longs at a, whole -/
def AJ (Z : State) (h : Heap) (a : Addr) (bs : List Int64) : Prop := ∃ c : Cell, Arr Z h a c .long ∧ c.slots = (bs.map Value.long).toArray ∧ bs.length < 2 ^ 31
theorem AI.lt {a : Addr} {ty : FieldType} {bs : List Int32} (A : AI Z h a ty bs) : a < h.size := by obtain ⟨c, A, -⟩ := A; exact A.lt
theorem AI.ext {a : Addr} {ty : FieldType} {bs : List Int32} (A : AI Z h a ty bs) (E : Ext h h') : AI Z h' a ty bs := by obtain ⟨c, A, r⟩ := A; exact ⟨c, A.ext E, r⟩
theorem AI.other {a b : Addr} {ty : FieldType} {bs : List Int32} {sl : Nat} {v : Value} (A : AI Z h b ty bs) (W : Wr h h' a sl v) (q : b ≠ a) : AI Z h' b ty bs := by obtain ⟨c, A, r⟩ := A; exact ⟨c, A.other W q, r⟩
theorem AI.keep {a : Addr} {ty : FieldType} {bs : List Int32} {ws : List Addr} (A : AI Z h a ty bs) (K : Keep h h' ws) (q : a ∉ ws) : AI Z h' a ty bs := by obtain ⟨c, A, r⟩ := A; exact ⟨c, ⟨K.2.1 a c A.1 q, A.2⟩, r⟩
theorem AJ.lt {a : Addr} {bs : List Int64} (A : AJ Z h a bs) : a < h.size := by obtain ⟨c, A, -⟩ := A; exact A.lt
theorem AJ.ext {a : Addr} {bs : List Int64} (A : AJ Z h a bs) (E : Ext h h') : AJ Z h' a bs := by obtain ⟨c, A, r⟩ := A; exact ⟨c, A.ext E, r⟩
theorem AJ.other {a b : Addr} {bs : List Int64} {sl : Nat} {v : Value} (A : AJ Z h b bs) (W : Wr h h' a sl v) (q : b ≠ a) : AJ Z h' b bs := by obtain ⟨c, A, r⟩ := A; exact ⟨c, A.other W q, r⟩
theorem AJ.keep {a : Addr} {bs : List Int64} {ws : List Addr} (A : AJ Z h a bs) (K : Keep h h' ws) (q : a ∉ ws) : AJ Z h' a bs := by obtain ⟨c, A, r⟩ := A; exact ⟨c, ⟨K.2.1 a c A.1 q, A.2⟩, r⟩
theorem own_inI {a : Addr} {c : Cell} {bs : List Int32} {j : Int32} {i : Nat} (S : c.slots = (bs.map Value.int).toArray) (h0 : ¬ j < 0) (hj : j.toNatClampNeg = i) (hi : i < bs.length) : ¬ (j < 0 ∨ c.slots.size ≤ j.toNatClampNeg) := by
  rw [S]; simp [h0, hj]; omega
theorem own_inJ {a : Addr} {c : Cell} {bs : List Int64} {j : Int32} {i : Nat} (S : c.slots = (bs.map Value.long).toArray) (h0 : ¬ j < 0) (hj : j.toNatClampNeg = i) (hi : i < bs.length) : ¬ (j < 0 ∨ c.slots.size ≤ j.toNatClampNeg) := by
  rw [S]; simp [h0, hj]; omega
theorem own_setI {c : Cell} {bs : List Int32} {i : Nat} {x : Int32} (S : c.slots = (bs.map Value.int).toArray) : (c.setSlot i (.int x)).slots = ((bs.set i x).map Value.int).toArray := by
  simp [Cell.setSlot, S, List.map_set]
theorem own_setJ {c : Cell} {bs : List Int64} {i : Nat} {x : Int64} (S : c.slots = (bs.map Value.long).toArray) : (c.setSlot i (.long x)).slots = ((bs.set i x).map Value.long).toArray := by
  simp [Cell.setSlot, S, List.map_set]
theorem g_bastore (pc' : Nat) (X : Stand p l e R s m args below meth c T locs cells slots) (hx : p.tables.exec = Jvm.exec) (hZ : Z.Warmed39 s.vm) (eT : T.heap = h) {a : Addr} {bs : List Int32} (A : AI Z h a .byte bs) {j x : Int32} (i : Nat) (h0 : ¬ j < 0) (hj : j.toNatClampNeg = i) (hi : i < bs.length) {z : Int32} (hz : x.toInt8.toInt32 = z) (hd : decode c.code pc = .ok (.bastore, 1)) (hp : pc + 1 = pc') (H : ∀ T' h', Stand p l e R s m args below meth c T' (locs ++ [⟨a, i⟩]) cells slots → T'.heap = h' → Wr h h' a i (.int z) → AI Z h' a .byte (bs.set i z) → Go p e below s k n Q T' (mkF m pc' Ls st)) : Go p e below s k n Q T (mkF m pc Ls (.int x :: .int j :: .ref a :: st)) := by
  subst hp hz hj
  obtain ⟨cl, A, S, hl⟩ := A
  obtain ⟨T', h', X', e', W, q⟩ := stB X hx hZ eT A (own_inI (a := a) S h0 rfl hi) (g := mkF m pc Ls (.int x :: .int j :: .ref a :: st)) rfl rfl hd
  exact (H T' h' X' e' W ⟨_, A.same W, own_setI S, by simpa using hl⟩).via q
theorem g_iastore (pc' : Nat) (X : Stand p l e R s m args below meth c T locs cells slots) (hx : p.tables.exec = Jvm.exec) (hZ : Z.Warmed39 s.vm) (eT : T.heap = h) {a : Addr} {bs : List Int32} (A : AI Z h a .int bs) {j x : Int32} (i : Nat) (h0 : ¬ j < 0) (hj : j.toNatClampNeg = i) (hi : i < bs.length) {z : Int32} (hz : x = z) (hd : decode c.code pc = .ok (.iastore, 1)) (hp : pc + 1 = pc') (H : ∀ T' h', Stand p l e R s m args below meth c T' (locs ++ [⟨a, i⟩]) cells slots → T'.heap = h' → Wr h h' a i (.int z) → AI Z h' a .int (bs.set i z) → Go p e below s k n Q T' (mkF m pc' Ls st)) : Go p e below s k n Q T (mkF m pc Ls (.int x :: .int j :: .ref a :: st)) := by
  subst hp hz hj
  obtain ⟨cl, A, S, hl⟩ := A
  obtain ⟨T', h', X', e', W, q⟩ := stI X hx hZ eT A (own_inI (a := a) S h0 rfl hi) (g := mkF m pc Ls (.int x :: .int j :: .ref a :: st)) rfl rfl hd
  exact (H T' h' X' e' W ⟨_, A.same W, own_setI S, by simpa using hl⟩).via q
theorem g_castore (pc' : Nat) (X : Stand p l e R s m args below meth c T locs cells slots) (hx : p.tables.exec = Jvm.exec) (hZ : Z.Warmed39 s.vm) (eT : T.heap = h) {a : Addr} {bs : List Int32} (A : AI Z h a .char bs) {j x : Int32} (i : Nat) (h0 : ¬ j < 0) (hj : j.toNatClampNeg = i) (hi : i < bs.length) {z : Int32} (hz : x.toUInt32.toUInt16.toUInt32.toInt32 = z) (hd : decode c.code pc = .ok (.castore, 1)) (hp : pc + 1 = pc') (H : ∀ T' h', Stand p l e R s m args below meth c T' (locs ++ [⟨a, i⟩]) cells slots → T'.heap = h' → Wr h h' a i (.int z) → AI Z h' a .char (bs.set i z) → Go p e below s k n Q T' (mkF m pc' Ls st)) : Go p e below s k n Q T (mkF m pc Ls (.int x :: .int j :: .ref a :: st)) := by
  subst hp hz hj
  obtain ⟨cl, A, S, hl⟩ := A
  obtain ⟨T', h', X', e', W, q⟩ := stC X hx hZ eT A (own_inI (a := a) S h0 rfl hi) (g := mkF m pc Ls (.int x :: .int j :: .ref a :: st)) rfl rfl hd
  exact (H T' h' X' e' W ⟨_, A.same W, own_setI S, by simpa using hl⟩).via q
theorem g_sastore (pc' : Nat) (X : Stand p l e R s m args below meth c T locs cells slots) (hx : p.tables.exec = Jvm.exec) (hZ : Z.Warmed39 s.vm) (eT : T.heap = h) {a : Addr} {bs : List Int32} (A : AI Z h a .short bs) {j x : Int32} (i : Nat) (h0 : ¬ j < 0) (hj : j.toNatClampNeg = i) (hi : i < bs.length) {z : Int32} (hz : x.toInt16.toInt32 = z) (hd : decode c.code pc = .ok (.sastore, 1)) (hp : pc + 1 = pc') (H : ∀ T' h', Stand p l e R s m args below meth c T' (locs ++ [⟨a, i⟩]) cells slots → T'.heap = h' → Wr h h' a i (.int z) → AI Z h' a .short (bs.set i z) → Go p e below s k n Q T' (mkF m pc' Ls st)) : Go p e below s k n Q T (mkF m pc Ls (.int x :: .int j :: .ref a :: st)) := by
  subst hp hz hj
  obtain ⟨cl, A, S, hl⟩ := A
  obtain ⟨T', h', X', e', W, q⟩ := stS X hx hZ eT A (own_inI (a := a) S h0 rfl hi) (g := mkF m pc Ls (.int x :: .int j :: .ref a :: st)) rfl rfl hd
  exact (H T' h' X' e' W ⟨_, A.same W, own_setI S, by simpa using hl⟩).via q
theorem g_lastore (pc' : Nat) (X : Stand p l e R s m args below meth c T locs cells slots) (hx : p.tables.exec = Jvm.exec) (hZ : Z.Warmed39 s.vm) (eT : T.heap = h) {a : Addr} {bs : List Int64} (A : AJ Z h a bs) {j : Int32} {x : Int64} (i : Nat) (h0 : ¬ j < 0) (hj : j.toNatClampNeg = i) (hi : i < bs.length) (hd : decode c.code pc = .ok (.lastore, 1)) (hp : pc + 1 = pc') (H : ∀ T' h', Stand p l e R s m args below meth c T' (locs ++ [⟨a, i⟩]) cells slots → T'.heap = h' → Wr h h' a i (.long x) → AJ Z h' a (bs.set i x) → Go p e below s k n Q T' (mkF m pc' Ls st)) : Go p e below s k n Q T (mkF m pc Ls (.long x :: .int j :: .ref a :: st)) := by
  subst hp hj
  obtain ⟨cl, A, S, hl⟩ := A
  obtain ⟨T', h', X', e', W, q⟩ := stJ X hx hZ eT A (own_inJ (a := a) S h0 rfl hi) (g := mkF m pc Ls (.long x :: .int j :: .ref a :: st)) rfl rfl hd
  exact (H T' h' X' e' W ⟨_, A.same W, own_setJ S, by simpa using hl⟩).via q
theorem g_baload (pc' : Nat) (X : Stand p l e R s m args below meth c T locs cells slots) (hx : p.tables.exec = Jvm.exec) (hZ : Z.Warmed39 s.vm) (eT : T.heap = h) {a : Addr} {bs : List Int32} (A : AI Z h a .byte bs) {j z : Int32} (i : Nat) (h0 : ¬ j < 0) (hj : j.toNatClampNeg = i) (hv : bs[i]? = some z) (hd : decode c.code pc = .ok (.baload, 1)) (hp : pc + 1 = pc') (H : Go p e below s k n Q T (mkF m pc' Ls (.int z :: st))) : Go p e below s k n Q T (mkF m pc Ls (.int j :: .ref a :: st)) := by
  subst hp hj
  obtain ⟨cl, A, S, hl⟩ := A
  exact H.via fun t q => X.baloadBytes hx (by rw [eT]; exact A.1) (State.isArrayOf_alike hZ.alike A.2.1) A.2.2 (own_inI (a := a) S h0 rfl (List.getElem?_eq_some_iff.mp hv).1) (v := .int z) (by rw [S]; simp [hv]) (g := mkF m pc Ls (.int j :: .ref a :: st)) rfl rfl hd t q
theorem g_iaload (pc' : Nat) (X : Stand p l e R s m args below meth c T locs cells slots) (hx : p.tables.exec = Jvm.exec) (hZ : Z.Warmed39 s.vm) (eT : T.heap = h) {a : Addr} {bs : List Int32} (A : AI Z h a .int bs) {j z : Int32} (i : Nat) (h0 : ¬ j < 0) (hj : j.toNatClampNeg = i) (hv : bs[i]? = some z) (hd : decode c.code pc = .ok (.iaload, 1)) (hp : pc + 1 = pc') (H : Go p e below s k n Q T (mkF m pc' Ls (.int z :: st))) : Go p e below s k n Q T (mkF m pc Ls (.int j :: .ref a :: st)) := by
  subst hp hj
  obtain ⟨cl, A, S, hl⟩ := A
  exact H.via fun t q => X.iaload hx (by rw [eT]; exact A.1) (State.isArrayOf_alike hZ.alike A.2.1) A.2.2 (own_inI (a := a) S h0 rfl (List.getElem?_eq_some_iff.mp hv).1) (v := .int z) (by rw [S]; simp [hv]) (g := mkF m pc Ls (.int j :: .ref a :: st)) rfl rfl hd t q
theorem g_caload (pc' : Nat) (X : Stand p l e R s m args below meth c T locs cells slots) (hx : p.tables.exec = Jvm.exec) (hZ : Z.Warmed39 s.vm) (eT : T.heap = h) {a : Addr} {bs : List Int32} (A : AI Z h a .char bs) {j z : Int32} (i : Nat) (h0 : ¬ j < 0) (hj : j.toNatClampNeg = i) (hv : bs[i]? = some z) (hd : decode c.code pc = .ok (.caload, 1)) (hp : pc + 1 = pc') (H : Go p e below s k n Q T (mkF m pc' Ls (.int z :: st))) : Go p e below s k n Q T (mkF m pc Ls (.int j :: .ref a :: st)) := by
  subst hp hj
  obtain ⟨cl, A, S, hl⟩ := A
  exact H.via fun t q => X.caload hx (by rw [eT]; exact A.1) (State.isArrayOf_alike hZ.alike A.2.1) A.2.2 (own_inI (a := a) S h0 rfl (List.getElem?_eq_some_iff.mp hv).1) (v := .int z) (by rw [S]; simp [hv]) (g := mkF m pc Ls (.int j :: .ref a :: st)) rfl rfl hd t q
theorem g_saload (pc' : Nat) (X : Stand p l e R s m args below meth c T locs cells slots) (hx : p.tables.exec = Jvm.exec) (hZ : Z.Warmed39 s.vm) (eT : T.heap = h) {a : Addr} {bs : List Int32} (A : AI Z h a .short bs) {j z : Int32} (i : Nat) (h0 : ¬ j < 0) (hj : j.toNatClampNeg = i) (hv : bs[i]? = some z) (hd : decode c.code pc = .ok (.saload, 1)) (hp : pc + 1 = pc') (H : Go p e below s k n Q T (mkF m pc' Ls (.int z :: st))) : Go p e below s k n Q T (mkF m pc Ls (.int j :: .ref a :: st)) := by
  subst hp hj
  obtain ⟨cl, A, S, hl⟩ := A
  exact H.via fun t q => X.saload hx (by rw [eT]; exact A.1) (State.isArrayOf_alike hZ.alike A.2.1) A.2.2 (own_inI (a := a) S h0 rfl (List.getElem?_eq_some_iff.mp hv).1) (v := .int z) (by rw [S]; simp [hv]) (g := mkF m pc Ls (.int j :: .ref a :: st)) rfl rfl hd t q
theorem g_laload (pc' : Nat) (X : Stand p l e R s m args below meth c T locs cells slots) (hx : p.tables.exec = Jvm.exec) (hZ : Z.Warmed39 s.vm) (eT : T.heap = h) {a : Addr} {bs : List Int64} (A : AJ Z h a bs) {j : Int32} {z : Int64} (i : Nat) (h0 : ¬ j < 0) (hj : j.toNatClampNeg = i) (hv : bs[i]? = some z) (hd : decode c.code pc = .ok (.laload, 1)) (hp : pc + 1 = pc') (H : Go p e below s k n Q T (mkF m pc' Ls (.long z :: st))) : Go p e below s k n Q T (mkF m pc Ls (.int j :: .ref a :: st)) := by
  subst hp hj
  obtain ⟨cl, A, S, hl⟩ := A
  exact H.via fun t q => X.laload hx (by rw [eT]; exact A.1) (State.isArrayOf_alike hZ.alike A.2.1) A.2.2 (own_inJ (a := a) S h0 rfl (List.getElem?_eq_some_iff.mp hv).1) (v := .long z) (by rw [S]; simp [hv]) (g := mkF m pc Ls (.int j :: .ref a :: st)) rfl rfl hd t q
theorem g_arraylengthI (pc' : Nat) (X : Stand p l e R s m args below meth c T locs cells slots) (hx : p.tables.exec = Jvm.exec) (hZ : Z.Warmed39 s.vm) (eT : T.heap = h) {a : Addr} {ty : FieldType} {bs : List Int32} (A : AI Z h a ty bs) {z : Int32} (hz : Int32.ofNat bs.length = z) (hd : decode c.code pc = .ok (.arraylength, 1)) (hp : pc + 1 = pc') (H : Go p e below s k n Q T (mkF m pc' Ls (.int z :: st))) : Go p e below s k n Q T (mkF m pc Ls (.ref a :: st)) := by
  subst hp hz
  obtain ⟨cl, A, S, hl⟩ := A
  have q0 : cl.slots.size.toInt32 = Int32.ofNat bs.length := by rw [S]; simp
  exact H.via fun t q => X.arraylength hx (by rw [eT]; exact A.1) (State.isArrayOf_alike hZ.alike A.2.1) (g := mkF m pc Ls (.ref a :: st)) rfl rfl hd t (by rw [q0]; exact q)
theorem g_arraylengthJ (pc' : Nat) (X : Stand p l e R s m args below meth c T locs cells slots) (hx : p.tables.exec = Jvm.exec) (hZ : Z.Warmed39 s.vm) (eT : T.heap = h) {a : Addr} {bs : List Int64} (A : AJ Z h a bs) {z : Int32} (hz : Int32.ofNat bs.length = z) (hd : decode c.code pc = .ok (.arraylength, 1)) (hp : pc + 1 = pc') (H : Go p e below s k n Q T (mkF m pc' Ls (.int z :: st))) : Go p e below s k n Q T (mkF m pc Ls (.ref a :: st)) := by
  subst hp hz
  obtain ⟨cl, A, S, hl⟩ := A
  have q0 : cl.slots.size.toInt32 = Int32.ofNat bs.length := by rw [S]; simp
  exact H.via fun t q => X.arraylength hx (by rw [eT]; exact A.1) (State.isArrayOf_alike hZ.alike A.2.1) (g := mkF m pc Ls (.ref a :: st)) rfl rfl hd t (by rw [q0]; exact q)
theorem g_new_byte (pc' : Nat) (X : Stand p l e R s m args below meth c T locs cells slots) (hx : p.tables.exec = Jvm.exec) (hZ : Z.Warmed39 s.vm) (w : (Cond.arrayClass .byte).before a0 Z = true) (eT : T.heap = h) {nn : Int32} (len cap : Nat) (hn0 : ¬ nn < 0) (hlen : nn.toNatClampNeg = len) (hcap : len ≤ cap) (hb : cap * 8 ≤ 536870912) (hc : cells + 1 ≤ R.cells) (hl : slots + cap ≤ R.slots) (hd : decode c.code pc = .ok (.newarray .byte, 2)) (hp : pc + 2 = pc') (H : ∀ T' h' b, Stand p l e R s m args below meth c T' locs (cells + 1) (slots + cap) → T'.heap = h' → Ext h h' → b = h.size → AI Z h' b .byte (List.replicate len (0 : Int32)) → Go p e below s k n Q T' (mkF m pc' Ls (.ref b :: st))) : Go p e below s k n Q T (mkF m pc Ls (.int nn :: st)) := by
  subst hp hlen
  obtain ⟨T', h', cA, X', e', E, A, q⟩ := newP X hx hZ (aty := .byte) w eT (g := mkF m pc Ls (.int nn :: st)) rfl hd rfl hn0 hcap hb hc hl
  exact (H T' h' _ X' e' E rfl ⟨_, A, by simp [newA, defaultValue, newarray.typeOf], by simpa using (back32 hn0).2⟩).via q
theorem g_new_int (pc' : Nat) (X : Stand p l e R s m args below meth c T locs cells slots) (hx : p.tables.exec = Jvm.exec) (hZ : Z.Warmed39 s.vm) (w : (Cond.arrayClass .int).before a0 Z = true) (eT : T.heap = h) {nn : Int32} (len cap : Nat) (hn0 : ¬ nn < 0) (hlen : nn.toNatClampNeg = len) (hcap : len ≤ cap) (hb : cap * 8 ≤ 536870912) (hc : cells + 1 ≤ R.cells) (hl : slots + cap ≤ R.slots) (hd : decode c.code pc = .ok (.newarray .int, 2)) (hp : pc + 2 = pc') (H : ∀ T' h' b, Stand p l e R s m args below meth c T' locs (cells + 1) (slots + cap) → T'.heap = h' → Ext h h' → b = h.size → AI Z h' b .int (List.replicate len (0 : Int32)) → Go p e below s k n Q T' (mkF m pc' Ls (.ref b :: st))) : Go p e below s k n Q T (mkF m pc Ls (.int nn :: st)) := by
  subst hp hlen
  obtain ⟨T', h', cA, X', e', E, A, q⟩ := newP X hx hZ (aty := .int) w eT (g := mkF m pc Ls (.int nn :: st)) rfl hd rfl hn0 hcap hb hc hl
  exact (H T' h' _ X' e' E rfl ⟨_, A, by simp [newA, defaultValue, newarray.typeOf], by simpa using (back32 hn0).2⟩).via q
theorem g_new_long (pc' : Nat) (X : Stand p l e R s m args below meth c T locs cells slots) (hx : p.tables.exec = Jvm.exec) (hZ : Z.Warmed39 s.vm) (w : (Cond.arrayClass .long).before a0 Z = true) (eT : T.heap = h) {nn : Int32} (len cap : Nat) (hn0 : ¬ nn < 0) (hlen : nn.toNatClampNeg = len) (hcap : len ≤ cap) (hb : cap * 8 ≤ 536870912) (hc : cells + 1 ≤ R.cells) (hl : slots + cap ≤ R.slots) (hd : decode c.code pc = .ok (.newarray .long, 2)) (hp : pc + 2 = pc') (H : ∀ T' h' b, Stand p l e R s m args below meth c T' locs (cells + 1) (slots + cap) → T'.heap = h' → Ext h h' → b = h.size → AJ Z h' b (List.replicate len (0 : Int64)) → Go p e below s k n Q T' (mkF m pc' Ls (.ref b :: st))) : Go p e below s k n Q T (mkF m pc Ls (.int nn :: st)) := by
  subst hp hlen
  obtain ⟨T', h', cA, X', e', E, A, q⟩ := newP X hx hZ (aty := .long) w eT (g := mkF m pc Ls (.int nn :: st)) rfl hd rfl hn0 hcap hb hc hl
  exact (H T' h' _ X' e' E rfl ⟨_, A, by simp [newA, defaultValue, newarray.typeOf], by simpa using (back32 hn0).2⟩).via q
end OwnKit
theorem own_lrem (x y : Int64) (d : Int) (hy : y.toInt = d) : (0 ≤ x.toInt → (x % y).toInt = x.toInt % d) ∧ (x.toInt < 0 → (x % y).toInt = -((-x.toInt) % d)) := by
  rw [Int64.toInt_mod, hy]; exact tr _ _
theorem own_lremV (x y : Int64) : 0 ≤ x.toInt → 0 < y.toInt → 0 ≤ (x % y).toInt ∧ (x % y).toInt < y.toInt ∧ (x % y).toInt ≤ x.toInt := by
  intro h1 h2
  rw [Int64.toInt_mod, Int.tmod_eq_emod_of_nonneg h1]
  have a := Int.emod_nonneg x.toInt (by omega : y.toInt ≠ 0)
  have b := Int.emod_lt_of_pos x.toInt h2
  refine ⟨a, b, ?_⟩
  by_cases c : x.toInt < y.toInt
  · rw [Int.emod_eq_of_lt h1 c]; exact Int.le_refl _
  · omega
theorem own_prod {a b A B : Int} (h1 : 0 ≤ a) (h2 : a ≤ A) (h3 : 0 ≤ b) (h4 : b ≤ B) : 0 ≤ a * b ∧ a * b ≤ A * B :=
  ⟨Int.mul_nonneg h1 h3, Int.mul_le_mul h2 h4 h3 (Int.le_trans h1 h2)⟩
theorem own_get {bs : List Int32} {i : Nat} (h : i < bs.length) : bs[i]? = some (bs.getD i 0) := by
  rw [List.getD_eq_getElem?_getD, List.getElem?_eq_getElem h]; rfl
def own_hash (bs : List Int32) : Nat → Nat → Int32 → Int32
  | _, 0, h => h
  | i, k + 1, h => own_hash bs (i + 1) k ((31 : Int32) * h + bs.getD i 0)
theorem own_add {a b : Int32} (h : -1000 ≤ a.toInt ∧ a.toInt ≤ 1000) (q : -1000 ≤ b.toInt ∧ b.toInt ≤ 1000) : (a + b).toInt = a.toInt + b.toInt := by
  have x := c_iadd a b
  have y := rng32 (a + b)
  omega
theorem own_sub {a b : Int32} (h : -1000 ≤ a.toInt ∧ a.toInt ≤ 1000) (q : -1000 ≤ b.toInt ∧ b.toInt ≤ 1000) : (a - b).toInt = a.toInt - b.toInt := by
  have x := c_isub a b
  have y := rng32 (a - b)
  omega
theorem own_nat0 {i : Int32} (h : 0 ≤ i.toInt) : ¬ i < 0 := by
  rw [Int32.lt_iff_toInt_lt]; simp only [Int32.reduceToInt]; omega
theorem own_inc {i : Int32} (h : 0 ≤ i.toInt ∧ i.toInt ≤ 500) : (i + (1 : Int32)).toInt = i.toInt + 1 := by
  rw [own_add (by omega) (by decide)]; rfl
theorem own_hstep (bs : List Int32) (i e h : Int32) (h0 : 0 ≤ i.toInt ∧ i.toInt ≤ 500) (q : i < e) : own_hash bs (i + (1 : Int32)).toInt.toNat (e.toInt - (i + (1 : Int32)).toInt).toNat ((31 : Int32) * h + bs.getD i.toInt.toNat 0) = own_hash bs i.toInt.toNat (e.toInt - i.toInt).toNat h := by
  rw [Int32.lt_iff_toInt_lt] at q
  obtain ⟨k, ek⟩ : ∃ k, (e.toInt - i.toInt).toNat = k + 1 := ⟨(e.toInt - i.toInt).toNat - 1, by omega⟩
  rw [ek, own_inc h0, show (e.toInt - (i.toInt + 1)).toNat = k by omega, show (i.toInt + 1).toNat = i.toInt.toNat + 1 by omega]
  rfl

theorem pn_0 : plainName "com/example/prefixwood/prefixwood/huffman/LineTablePlainHashPinLaw" = true := by first | (simp [plainName, overriddenIn]; done) | decide +kernel
theorem d1_0 : decode method_3_code 0 = .ok (.iload_n 3, 1) := by decide +kernel
theorem d1_1 : decode method_3_code 1 = .ok (.iload_n 2, 1) := by decide +kernel
theorem d1_2 : decode method_3_code 2 = .ok (.if_icmp .ge 18, 3) := by decide +kernel
theorem d1_5 : decode method_3_code 5 = .ok (.aload_n 0, 1) := by decide +kernel
theorem d1_6 : decode method_3_code 6 = .ok (.iload_n 1, 1) := by decide +kernel
theorem d1_7 : decode method_3_code 7 = .ok (.iload_n 3, 1) := by decide +kernel
theorem d1_8 : decode method_3_code 8 = .ok (.iadd, 1) := by decide +kernel
theorem d1_9 : decode method_3_code 9 = .ok (.baload, 1) := by decide +kernel
theorem d1_10 : decode method_3_code 10 = .ok (.aload 4, 2) := by decide +kernel
theorem d1_12 : decode method_3_code 12 = .ok (.iload_n 2, 1) := by decide +kernel
theorem d1_13 : decode method_3_code 13 = .ok (.iconst 1, 1) := by decide +kernel
theorem d1_14 : decode method_3_code 14 = .ok (.isub, 1) := by decide +kernel
theorem d1_15 : decode method_3_code 15 = .ok (.iload_n 3, 1) := by decide +kernel
theorem d1_16 : decode method_3_code 16 = .ok (.isub, 1) := by decide +kernel
theorem d1_17 : decode method_3_code 17 = .ok (.iaload, 1) := by decide +kernel
theorem d1_18 : decode method_3_code 18 = .ok (.imul, 1) := by decide +kernel
theorem d1_19 : decode method_3_code 19 = .ok (.ireturn, 1) := by decide +kernel
theorem d1_20 : decode method_3_code 20 = .ok (.iconst 0, 1) := by decide +kernel
theorem d1_21 : decode method_3_code 21 = .ok (.ireturn, 1) := by decide +kernel
def Rel1 (p2 : Int32) (p3 : Int32) (p4 : Int32) (bs1 : List Int32) (bs5 : List Int32) (r : Int32) : Prop := (p4 < p3 ∧ r = ((bs1.getD (p2.toInt.toNat + p4.toInt.toNat) 0) * (bs5.getD (p3.toInt.toNat - 1 - p4.toInt.toNat) 0))) ∨ (¬ (p4 < p3) ∧ r = (0 : Int32))
def Q1 (Z : State) (a1 : Addr) (p2 : Int32) (p3 : Int32) (p4 : Int32) (a5 : Addr) (bs1 : List Int32) (bs5 : List Int32) (h0 : Heap) (n0 : Nat) (v : Option Value) (h : Heap) (L : List Loc) : Prop := ∃ r : Int32, v = some (.int r) ∧ Rel1 p2 p3 p4 bs1 bs5 r ∧ Fr n0 L ∧ h = h0
theorem ef_rm1 (m : MethodId) (a1 : Addr) (p2 : Int32) (p3 : Int32) (p4 : Int32) (a5 : Addr) : entryFrame m #[(.ref a1), (.int p2), (.int p3), (.int p4), (.ref a5)] 5 = mkF m 0 #[.val (.ref a1), .val (.int p2), .val (.int p3), .val (.int p4), .val (.ref a5)] [] := by first | (simp [entryFrame, mkF, argsToLocals, Value.category]; done) | rfl
set_option maxRecDepth 65536 in
set_option maxHeartbeats 40000000 in
theorem rm1 (l : Launch) (Z : State) (a0 : Array Value) (hw : ∀ d ∈ tables_1, d.before a0 Z = true) (ws : List Jvm.Cond) (a1 : Addr) (p2 : Int32) (p3 : Int32) (p4 : Int32) (a5 : Addr) (bs1 : List Int32) (bs5 : List Int32) (h0 : Heap) (n0 : Nat) (Z0 : n0 ≤ h0.size) (A_a1 : AI Z h0 a1 .byte bs1) (A_a5 : AI Z h0 a5 .int bs5) (hs : 0 ≤ p2.toInt) (hn : 0 ≤ p3.toInt) (hsl : p2.toInt + p3.toInt ≤ 8) (hi : 0 ≤ p4.toInt ∧ p4.toInt ≤ 8) (hl : bs1.length = 8) (hl5 : bs5.length = 9) :
    MetFree l (⟨"com/example/prefixwood/prefixwood/huffman/LineTablePlainHashPinLaw", "term", "([BIII[I)I"⟩ : MethodName) (head1 (Jvm.Cond.code (⟨"com/example/prefixwood/prefixwood/huffman/LineTablePlainHashPinLaw", "term", "([BIII[I)I"⟩ : MethodName) method_3_code 5 (some .int) :: ws) ({ frames := 0, cells := 0, slots := 0, locals := 0 } : Room)) (fun a U => a = #[(.ref a1), (.int p2), (.int p3), (.int p4), (.ref a5)] ∧ Z.Warmed39 U.vm ∧ U.heap = h0) (fun _ _ _ _ _ => True) (fun _ U o U' => ∃ v L, o = .returned v ∧ (Q1 Z a1 p2 p3 p4 a5 bs1 bs5 h0 n0) v U'.heap L ∧ FrameEnd U o U' L ({ frames := 0, cells := 0, slots := 0, locals := 0 } : Room).cells ({ frames := 0, cells := 0, slots := 0, locals := 0 } : Room).slots) := by
  refine MetFree.of_bodySF (plainFor_of_name pn_0) hisR ?_
  intro p e s m args below meth c s₁ Bd hml0 hP hK
  obtain ⟨rfl, hZ, hh⟩ := hP
  have hx := Bd.exec
  have hby := Bd.bytes
  have hml : c.maxLocals = 5 := hml0
  have hown : s.vm.findClass "com/example/prefixwood/prefixwood/huffman/LineTablePlainHashPinLaw" = some m.cls := findClass_of_methodNamed Bd.named
  have hnm := (name_of_methodNamed Bd.named Bd.method).1
  have hlk : meth.locks = false := BodyLoose.notSynchronized Bd
  have X0 : Stand p l e ({ frames := 0, cells := 0, slots := 0, locals := 0 } : Room) s m #[(.ref a1), (.int p2), (.int p3), (.int p4), (.ref a5)] below meth c s₁ [] 0 0 := Stand.of_body Bd
  have e0 : s₁.heap = h0 := by rw [← hh, Bd.state]; rfl
  have N0 := Fr.nil n0
  show Go p e below s ({ frames := 0, cells := 0, slots := 0, locals := 0 } : Room).cells ({ frames := 0, cells := 0, slots := 0, locals := 0 } : Room).slots (Q1 Z a1 p2 p3 p4 a5 bs1 bs5 h0 n0) s₁ (entryFrame m #[(.ref a1), (.int p2), (.int p3), (.int p4), (.ref a5)] 5)
  rw [ef_rm1 m a1 p2 p3 p4 a5]
  refine g_iloadN 1 X0 hx (hb hby d1_0) rfl (v := p4) rfl ?_
  refine g_iloadN 2 X0 hx (hb hby d1_1) rfl (v := p3) rfl ?_
  by_cases hc2_0 : p4 < p3
  ·
    refine g_icmpNo 5 X0 hx (hb hby d1_2)  (tlt hc2_0).2.1 rfl ?_
    refine g_aloadN 6 X0 hx (hb hby d1_5) rfl (v := (.ref a1)) rfl rfl ?_
    refine g_iloadN 7 X0 hx (hb hby d1_6) rfl (v := p2) rfl ?_
    refine g_iloadN 8 X0 hx (hb hby d1_7) rfl (v := p4) rfl ?_
    refine g_iadd 9 X0 hx (hb hby d1_8) rfl (z := (p2 + p4)) rfl ?_
    refine g_baload 10 X0 hx hZ e0 A_a1 (p2.toInt.toNat + p4.toInt.toNat) (own_nat0 (by rw [own_add (by omega) (by omega)]; omega)) (by simp only [Int32.toNatClampNeg]; rw [own_add (by omega) (by omega)]; omega) (z := (bs1.getD (p2.toInt.toNat + p4.toInt.toNat) 0)) (own_get (by have q := Int32.lt_iff_toInt_lt.mp hc2_0; omega)) (hb hby d1_9) rfl ?_
    refine g_aload 12 X0 hx (hb hby d1_10) rfl (v := (.ref a5)) rfl rfl ?_
    refine g_iloadN 13 X0 hx (hb hby d1_12) rfl (v := p3) rfl ?_
    refine g_iconst 14 X0 hx (hb hby d1_13) rfl (z := (1 : Int32)) rfl ?_
    refine g_isub 15 X0 hx (hb hby d1_14) rfl (z := (p3 - (1 : Int32))) rfl ?_
    refine g_iloadN 16 X0 hx (hb hby d1_15) rfl (v := p4) rfl ?_
    refine g_isub 17 X0 hx (hb hby d1_16) rfl (z := ((p3 - (1 : Int32)) - p4)) rfl ?_
    refine g_iaload 18 X0 hx hZ e0 A_a5 (p3.toInt.toNat - 1 - p4.toInt.toNat) (own_nat0 (by have q := Int32.lt_iff_toInt_lt.mp hc2_0; have r : (p3 - (1 : Int32)).toInt = p3.toInt - 1 := own_sub (by omega) (by decide); rw [own_sub (by omega) (by omega), r]; omega)) (by have q := Int32.lt_iff_toInt_lt.mp hc2_0; have r : (p3 - (1 : Int32)).toInt = p3.toInt - 1 := own_sub (by omega) (by decide); simp only [Int32.toNatClampNeg]; rw [own_sub (by omega) (by omega), r]; omega) (z := (bs5.getD (p3.toInt.toNat - 1 - p4.toInt.toNat) 0)) (own_get (by have q := Int32.lt_iff_toInt_lt.mp hc2_0; omega)) (hb hby d1_17) rfl ?_
    refine g_imul 19 X0 hx (hb hby d1_18) rfl (z := ((bs1.getD (p2.toInt.toNat + p4.toInt.toNat) 0) * (bs5.getD (p3.toInt.toNat - 1 - p4.toInt.toNat) 0))) rfl ?_
    exact g_retI X0 hx Bd.returns hlk (hb hby d1_19) (by decide) (by decide) ⟨((bs1.getD (p2.toInt.toNat + p4.toInt.toNat) 0) * (bs5.getD (p3.toInt.toNat - 1 - p4.toInt.toNat) 0)), rfl, (Or.inl ⟨hc2_0, rfl⟩), N0, e0⟩
  ·
    refine g_icmpYes 20 X0 hx (hb hby d1_2)  (flt hc2_0).2.1 (by decide) (by decide) ?_
    refine g_iconst 21 X0 hx (hb hby d1_20) rfl (z := (0 : Int32)) rfl ?_
    exact g_retI X0 hx Bd.returns hlk (hb hby d1_21) (by decide) (by decide) ⟨(0 : Int32), rfl, (Or.inr ⟨hc2_0, rfl⟩), N0, e0⟩
def own_mix (p1 : Int32) : Int32 := (((p1 ^^^ ((p1.toUInt32 >>> ((16 : Int32) &&& 31).toUInt32).toInt32)) * (-2048144789 : Int32)) ^^^ ((((p1 ^^^ ((p1.toUInt32 >>> ((16 : Int32) &&& 31).toUInt32).toInt32)) * (-2048144789 : Int32)).toUInt32 >>> ((13 : Int32) &&& 31).toUInt32).toInt32))
theorem d2_0 : decode method_4_code 0 = .ok (.iload_n 0, 1) := by decide +kernel
theorem d2_1 : decode method_4_code 1 = .ok (.iload_n 0, 1) := by decide +kernel
theorem d2_2 : decode method_4_code 2 = .ok (.bipush 16, 2) := by decide +kernel
theorem d2_4 : decode method_4_code 4 = .ok (.iushr, 1) := by decide +kernel
theorem d2_5 : decode method_4_code 5 = .ok (.ixor, 1) := by decide +kernel
theorem d2_6 : decode method_4_code 6 = .ok (.istore_n 1, 1) := by decide +kernel
theorem d2_7 : decode method_4_code 7 = .ok (.iload_n 1, 1) := by decide +kernel
theorem d2_8 : decode method_4_code 8 = .ok (.ldc 23, 2) := by decide +kernel
theorem d2_10 : decode method_4_code 10 = .ok (.imul, 1) := by decide +kernel
theorem d2_11 : decode method_4_code 11 = .ok (.istore_n 1, 1) := by decide +kernel
theorem d2_12 : decode method_4_code 12 = .ok (.iload_n 1, 1) := by decide +kernel
theorem d2_13 : decode method_4_code 13 = .ok (.iload_n 1, 1) := by decide +kernel
theorem d2_14 : decode method_4_code 14 = .ok (.bipush 13, 2) := by decide +kernel
theorem d2_16 : decode method_4_code 16 = .ok (.iushr, 1) := by decide +kernel
theorem d2_17 : decode method_4_code 17 = .ok (.ixor, 1) := by decide +kernel
theorem d2_18 : decode method_4_code 18 = .ok (.istore_n 1, 1) := by decide +kernel
theorem d2_19 : decode method_4_code 19 = .ok (.iload_n 1, 1) := by decide +kernel
theorem d2_20 : decode method_4_code 20 = .ok (.ireturn, 1) := by decide +kernel
def Rel2 (p1 : Int32) (r : Int32) : Prop := r = own_mix p1
def Q2 (Z : State) (p1 : Int32) (h0 : Heap) (n0 : Nat) (v : Option Value) (h : Heap) (L : List Loc) : Prop := ∃ r : Int32, v = some (.int r) ∧ Rel2 p1 r ∧ Fr n0 L ∧ h = h0
theorem ef_rm2 (m : MethodId) (p1 : Int32) : entryFrame m #[(.int p1)] 2 = mkF m 0 #[.val (.int p1), .unset] [] := by first | (simp [entryFrame, mkF, argsToLocals, Value.category]; done) | rfl
set_option maxRecDepth 65536 in
set_option maxHeartbeats 40000000 in
theorem rm2 (l : Launch) (Z : State) (a0 : Array Value) (hw : ∀ d ∈ tables_1, d.before a0 Z = true) (ws : List Jvm.Cond) (p1 : Int32) (h0 : Heap) (n0 : Nat) (Z0 : n0 ≤ h0.size)  :
    MetFree l (⟨"com/example/prefixwood/prefixwood/huffman/LineTablePlainHashPinLaw", "mix", "(I)I"⟩ : MethodName) (head1 (Jvm.Cond.code (⟨"com/example/prefixwood/prefixwood/huffman/LineTablePlainHashPinLaw", "mix", "(I)I"⟩ : MethodName) method_4_code 2 (some .int) :: ws) ({ frames := 0, cells := 0, slots := 0, locals := 0 } : Room)) (fun a U => a = #[(.int p1)] ∧ Z.Warmed39 U.vm ∧ U.heap = h0) (fun _ _ _ _ _ => True) (fun _ U o U' => ∃ v L, o = .returned v ∧ (Q2 Z p1 h0 n0) v U'.heap L ∧ FrameEnd U o U' L ({ frames := 0, cells := 0, slots := 0, locals := 0 } : Room).cells ({ frames := 0, cells := 0, slots := 0, locals := 0 } : Room).slots) := by
  refine MetFree.of_bodySF (plainFor_of_name pn_0) hisR ?_
  intro p e s m args below meth c s₁ Bd hml0 hP hK
  obtain ⟨rfl, hZ, hh⟩ := hP
  have hx := Bd.exec
  have hby := Bd.bytes
  have hml : c.maxLocals = 2 := hml0
  have hown : s.vm.findClass "com/example/prefixwood/prefixwood/huffman/LineTablePlainHashPinLaw" = some m.cls := findClass_of_methodNamed Bd.named
  have hnm := (name_of_methodNamed Bd.named Bd.method).1
  have hlk : meth.locks = false := BodyLoose.notSynchronized Bd
  have X0 : Stand p l e ({ frames := 0, cells := 0, slots := 0, locals := 0 } : Room) s m #[(.int p1)] below meth c s₁ [] 0 0 := Stand.of_body Bd
  have e0 : s₁.heap = h0 := by rw [← hh, Bd.state]; rfl
  have N0 := Fr.nil n0
  show Go p e below s ({ frames := 0, cells := 0, slots := 0, locals := 0 } : Room).cells ({ frames := 0, cells := 0, slots := 0, locals := 0 } : Room).slots (Q2 Z p1 h0 n0) s₁ (entryFrame m #[(.int p1)] 2)
  rw [ef_rm2 m p1]
  refine g_iloadN 1 X0 hx (hb hby d2_0) rfl (v := p1) rfl ?_
  refine g_iloadN 2 X0 hx (hb hby d2_1) rfl (v := p1) rfl ?_
  refine g_bipush 4 X0 hx (hb hby d2_2) rfl (z := (16 : Int32)) rfl ?_
  refine g_iushr 5 X0 hx (hb hby d2_4) rfl (z := ((p1.toUInt32 >>> ((16 : Int32) &&& 31).toUInt32).toInt32)) rfl ?_
  refine g_ixor 6 X0 hx (hb hby d2_5) rfl (z := (p1 ^^^ ((p1.toUInt32 >>> ((16 : Int32) &&& 31).toUInt32).toInt32))) rfl ?_
  refine g_istoreN 7 X0 hx (hb hby d2_6) rfl (Ls' := #[.val (.int p1), .val (.int (p1 ^^^ ((p1.toUInt32 >>> ((16 : Int32) &&& 31).toUInt32).toInt32)))]) rfl ?_
  refine g_iloadN 8 X0 hx (hb hby d2_7) rfl (v := (p1 ^^^ ((p1.toUInt32 >>> ((16 : Int32) &&& 31).toUInt32).toInt32))) rfl ?_
  refine g_ldc 10 X0 hx hZ hown (hw _ (List.mem_of_getElem? (i := 9) rfl)) (hb hby d2_8) rfl ?_
  refine g_imul 11 X0 hx (hb hby d2_10) rfl (z := ((p1 ^^^ ((p1.toUInt32 >>> ((16 : Int32) &&& 31).toUInt32).toInt32)) * (-2048144789 : Int32))) rfl ?_
  refine g_istoreN 12 X0 hx (hb hby d2_11) rfl (Ls' := #[.val (.int p1), .val (.int ((p1 ^^^ ((p1.toUInt32 >>> ((16 : Int32) &&& 31).toUInt32).toInt32)) * (-2048144789 : Int32)))]) rfl ?_
  refine g_iloadN 13 X0 hx (hb hby d2_12) rfl (v := ((p1 ^^^ ((p1.toUInt32 >>> ((16 : Int32) &&& 31).toUInt32).toInt32)) * (-2048144789 : Int32))) rfl ?_
  refine g_iloadN 14 X0 hx (hb hby d2_13) rfl (v := ((p1 ^^^ ((p1.toUInt32 >>> ((16 : Int32) &&& 31).toUInt32).toInt32)) * (-2048144789 : Int32))) rfl ?_
  refine g_bipush 16 X0 hx (hb hby d2_14) rfl (z := (13 : Int32)) rfl ?_
  refine g_iushr 17 X0 hx (hb hby d2_16) rfl (z := ((((p1 ^^^ ((p1.toUInt32 >>> ((16 : Int32) &&& 31).toUInt32).toInt32)) * (-2048144789 : Int32)).toUInt32 >>> ((13 : Int32) &&& 31).toUInt32).toInt32)) rfl ?_
  refine g_ixor 18 X0 hx (hb hby d2_17) rfl (z := (((p1 ^^^ ((p1.toUInt32 >>> ((16 : Int32) &&& 31).toUInt32).toInt32)) * (-2048144789 : Int32)) ^^^ ((((p1 ^^^ ((p1.toUInt32 >>> ((16 : Int32) &&& 31).toUInt32).toInt32)) * (-2048144789 : Int32)).toUInt32 >>> ((13 : Int32) &&& 31).toUInt32).toInt32))) rfl ?_
  refine g_istoreN 19 X0 hx (hb hby d2_18) rfl (Ls' := #[.val (.int p1), .val (.int (((p1 ^^^ ((p1.toUInt32 >>> ((16 : Int32) &&& 31).toUInt32).toInt32)) * (-2048144789 : Int32)) ^^^ ((((p1 ^^^ ((p1.toUInt32 >>> ((16 : Int32) &&& 31).toUInt32).toInt32)) * (-2048144789 : Int32)).toUInt32 >>> ((13 : Int32) &&& 31).toUInt32).toInt32)))]) rfl ?_
  refine g_iloadN 20 X0 hx (hb hby d2_19) rfl (v := (((p1 ^^^ ((p1.toUInt32 >>> ((16 : Int32) &&& 31).toUInt32).toInt32)) * (-2048144789 : Int32)) ^^^ ((((p1 ^^^ ((p1.toUInt32 >>> ((16 : Int32) &&& 31).toUInt32).toInt32)) * (-2048144789 : Int32)).toUInt32 >>> ((13 : Int32) &&& 31).toUInt32).toInt32))) rfl ?_
  exact g_retI X0 hx Bd.returns hlk (hb hby d2_20) (by decide) (by decide) ⟨(((p1 ^^^ ((p1.toUInt32 >>> ((16 : Int32) &&& 31).toUInt32).toInt32)) * (-2048144789 : Int32)) ^^^ ((((p1 ^^^ ((p1.toUInt32 >>> ((16 : Int32) &&& 31).toUInt32).toInt32)) * (-2048144789 : Int32)).toUInt32 >>> ((13 : Int32) &&& 31).toUInt32).toInt32)), rfl, (rfl), N0, e0⟩
theorem pn_1 : plainName "com/example/prefixwood/prefixwood/huffman/LineTable" = true := by first | (simp [plainName, overriddenIn]; done) | decide +kernel
theorem d3_0 : decode prog_45_method_25_code 0 = .ok (.iconst 1, 1) := by decide +kernel
theorem d3_1 : decode prog_45_method_25_code 1 = .ok (.istore_n 3, 1) := by decide +kernel
theorem d3_2 : decode prog_45_method_25_code 2 = .ok (.iload_n 1, 1) := by decide +kernel
theorem d3_3 : decode prog_45_method_25_code 3 = .ok (.istore 4, 2) := by decide +kernel
theorem d3_5 : decode prog_45_method_25_code 5 = .ok (.iload 4, 2) := by decide +kernel
theorem d3_7 : decode prog_45_method_25_code 7 = .ok (.iload_n 1, 1) := by decide +kernel
theorem d3_8 : decode prog_45_method_25_code 8 = .ok (.iload_n 2, 1) := by decide +kernel
theorem d3_9 : decode prog_45_method_25_code 9 = .ok (.iadd, 1) := by decide +kernel
theorem d3_10 : decode prog_45_method_25_code 10 = .ok (.if_icmp .ge 19, 3) := by decide +kernel
theorem d3_13 : decode prog_45_method_25_code 13 = .ok (.bipush 31, 2) := by decide +kernel
theorem d3_15 : decode prog_45_method_25_code 15 = .ok (.iload_n 3, 1) := by decide +kernel
theorem d3_16 : decode prog_45_method_25_code 16 = .ok (.imul, 1) := by decide +kernel
theorem d3_17 : decode prog_45_method_25_code 17 = .ok (.aload_n 0, 1) := by decide +kernel
theorem d3_18 : decode prog_45_method_25_code 18 = .ok (.iload 4, 2) := by decide +kernel
theorem d3_20 : decode prog_45_method_25_code 20 = .ok (.baload, 1) := by decide +kernel
theorem d3_21 : decode prog_45_method_25_code 21 = .ok (.iadd, 1) := by decide +kernel
theorem d3_22 : decode prog_45_method_25_code 22 = .ok (.istore_n 3, 1) := by decide +kernel
theorem d3_23 : decode prog_45_method_25_code 23 = .ok (.iinc 4 1, 3) := by decide +kernel
theorem d3_26 : decode prog_45_method_25_code 26 = .ok (.goto (-21), 3) := by decide +kernel
theorem d3_29 : decode prog_45_method_25_code 29 = .ok (.iload_n 3, 1) := by decide +kernel
theorem d3_30 : decode prog_45_method_25_code 30 = .ok (.iload_n 3, 1) := by decide +kernel
theorem d3_31 : decode prog_45_method_25_code 31 = .ok (.bipush 16, 2) := by decide +kernel
theorem d3_33 : decode prog_45_method_25_code 33 = .ok (.iushr, 1) := by decide +kernel
theorem d3_34 : decode prog_45_method_25_code 34 = .ok (.ixor, 1) := by decide +kernel
theorem d3_35 : decode prog_45_method_25_code 35 = .ok (.istore_n 3, 1) := by decide +kernel
theorem d3_36 : decode prog_45_method_25_code 36 = .ok (.iload_n 3, 1) := by decide +kernel
theorem d3_37 : decode prog_45_method_25_code 37 = .ok (.ldc 178, 2) := by decide +kernel
theorem d3_39 : decode prog_45_method_25_code 39 = .ok (.imul, 1) := by decide +kernel
theorem d3_40 : decode prog_45_method_25_code 40 = .ok (.istore_n 3, 1) := by decide +kernel
theorem d3_41 : decode prog_45_method_25_code 41 = .ok (.iload_n 3, 1) := by decide +kernel
theorem d3_42 : decode prog_45_method_25_code 42 = .ok (.iload_n 3, 1) := by decide +kernel
theorem d3_43 : decode prog_45_method_25_code 43 = .ok (.bipush 13, 2) := by decide +kernel
theorem d3_45 : decode prog_45_method_25_code 45 = .ok (.iushr, 1) := by decide +kernel
theorem d3_46 : decode prog_45_method_25_code 46 = .ok (.ixor, 1) := by decide +kernel
theorem d3_47 : decode prog_45_method_25_code 47 = .ok (.istore_n 3, 1) := by decide +kernel
theorem d3_48 : decode prog_45_method_25_code 48 = .ok (.iload_n 3, 1) := by decide +kernel
theorem d3_49 : decode prog_45_method_25_code 49 = .ok (.ireturn, 1) := by decide +kernel
def Rel3 (p2 : Int32) (p3 : Int32) (bs1 : List Int32) (r : Int32) : Prop := r = own_mix (own_hash bs1 p2.toInt.toNat p3.toInt.toNat 1)
def Q3 (Z : State) (a1 : Addr) (p2 : Int32) (p3 : Int32) (bs1 : List Int32) (h0 : Heap) (n0 : Nat) (v : Option Value) (h : Heap) (L : List Loc) : Prop := ∃ r : Int32, v = some (.int r) ∧ Rel3 p2 p3 bs1 r ∧ Fr n0 L ∧ h = h0
theorem ef_rm3 (m : MethodId) (a1 : Addr) (p2 : Int32) (p3 : Int32) : entryFrame m #[(.ref a1), (.int p2), (.int p3)] 5 = mkF m 0 #[.val (.ref a1), .val (.int p2), .val (.int p3), .unset, .unset] [] := by first | (simp [entryFrame, mkF, argsToLocals, Value.category]; done) | rfl
set_option maxRecDepth 65536 in
set_option maxHeartbeats 40000000 in
theorem rm3 (l : Launch) (Z : State) (a0 : Array Value) (hw : ∀ d ∈ tables_1, d.before a0 Z = true) (ws : List Jvm.Cond) (a1 : Addr) (p2 : Int32) (p3 : Int32) (bs1 : List Int32) (h0 : Heap) (n0 : Nat) (Z0 : n0 ≤ h0.size) (A_a1 : AI Z h0 a1 .byte bs1) (hs : 0 ≤ p2.toInt) (hn : 0 ≤ p3.toInt) (hsl : p2.toInt + p3.toInt ≤ 8) (hl : bs1.length = 8) :
    MetFree l (⟨"com/example/prefixwood/prefixwood/huffman/LineTable", "plainHash", "([BII)I"⟩ : MethodName) (head1 (Jvm.Cond.code (⟨"com/example/prefixwood/prefixwood/huffman/LineTable", "plainHash", "([BII)I"⟩ : MethodName) prog_45_method_25_code 5 (some .int) :: ws) ({ frames := 0, cells := 0, slots := 0, locals := 0 } : Room)) (fun a U => a = #[(.ref a1), (.int p2), (.int p3)] ∧ Z.Warmed39 U.vm ∧ U.heap = h0) (fun _ _ _ _ _ => True) (fun _ U o U' => ∃ v L, o = .returned v ∧ (Q3 Z a1 p2 p3 bs1 h0 n0) v U'.heap L ∧ FrameEnd U o U' L ({ frames := 0, cells := 0, slots := 0, locals := 0 } : Room).cells ({ frames := 0, cells := 0, slots := 0, locals := 0 } : Room).slots) := by
  refine MetFree.of_bodySF (plainFor_of_name pn_1) hisR ?_
  intro p e s m args below meth c s₁ Bd hml0 hP hK
  obtain ⟨rfl, hZ, hh⟩ := hP
  have hx := Bd.exec
  have hby := Bd.bytes
  have hml : c.maxLocals = 5 := hml0
  have hown : s.vm.findClass "com/example/prefixwood/prefixwood/huffman/LineTable" = some m.cls := findClass_of_methodNamed Bd.named
  have hnm := (name_of_methodNamed Bd.named Bd.method).1
  have hlk : meth.locks = false := BodyLoose.notSynchronized Bd
  have X0 : Stand p l e ({ frames := 0, cells := 0, slots := 0, locals := 0 } : Room) s m #[(.ref a1), (.int p2), (.int p3)] below meth c s₁ [] 0 0 := Stand.of_body Bd
  have e0 : s₁.heap = h0 := by rw [← hh, Bd.state]; rfl
  have N0 := Fr.nil n0
  show Go p e below s ({ frames := 0, cells := 0, slots := 0, locals := 0 } : Room).cells ({ frames := 0, cells := 0, slots := 0, locals := 0 } : Room).slots (Q3 Z a1 p2 p3 bs1 h0 n0) s₁ (entryFrame m #[(.ref a1), (.int p2), (.int p3)] 5)
  rw [ef_rm3 m a1 p2 p3]
  refine g_iconst 1 X0 hx (hb hby d3_0) rfl (z := (1 : Int32)) rfl ?_
  refine g_istoreN 2 X0 hx (hb hby d3_1) rfl (Ls' := #[.val (.ref a1), .val (.int p2), .val (.int p3), .val (.int (1 : Int32)), .unset]) rfl ?_
  refine g_iloadN 3 X0 hx (hb hby d3_2) rfl (v := p2) rfl ?_
  refine g_istore 5 X0 hx (hb hby d3_3) rfl (Ls' := #[.val (.ref a1), .val (.int p2), .val (.int p3), .val (.int (1 : Int32)), .val (.int p2)]) rfl ?_
  have hend : (p2 + p3).toInt = p2.toInt + p3.toInt := own_add (by omega) (by omega)
  have LOOP5 : ∀ (fuel : Nat) (lh : Int32) (li : Int32), (p2.toInt + p3.toInt - li.toInt).toNat < fuel → (0 ≤ li.toInt) → (own_hash bs1 li.toInt.toNat ((p2.toInt + p3.toInt) - li.toInt).toNat lh = own_hash bs1 p2.toInt.toNat p3.toInt.toNat 1) → Go p e below s ({ frames := 0, cells := 0, slots := 0, locals := 0 } : Room).cells ({ frames := 0, cells := 0, slots := 0, locals := 0 } : Room).slots (Q3 Z a1 p2 p3 bs1 h0 n0) s₁ (mkF m 5 #[.val (.ref a1), .val (.int p2), .val (.int p3), .val (.int lh), .val (.int li)] []) := by
    intro fuel
    induction fuel with
    | zero => intro lh li hm; exact absurd hm (Nat.not_lt_zero _)
    | succ fuel ih =>
      intro lh li hm hi0 hq
      refine g_iload 7 X0 hx (hb hby d3_5) rfl (v := li) rfl ?_
      refine g_iloadN 8 X0 hx (hb hby d3_7) rfl (v := p2) rfl ?_
      refine g_iloadN 9 X0 hx (hb hby d3_8) rfl (v := p3) rfl ?_
      refine g_iadd 10 X0 hx (hb hby d3_9) rfl (z := (p2 + p3)) rfl ?_
      by_cases hc10_0 : li < (p2 + p3)
      ·
        refine g_icmpNo 13 X0 hx (hb hby d3_10)  (tlt hc10_0).2.1 rfl ?_
        refine g_bipush 15 X0 hx (hb hby d3_13) rfl (z := (31 : Int32)) rfl ?_
        refine g_iloadN 16 X0 hx (hb hby d3_15) rfl (v := lh) rfl ?_
        refine g_imul 17 X0 hx (hb hby d3_16) rfl (z := ((31 : Int32) * lh)) rfl ?_
        refine g_aloadN 18 X0 hx (hb hby d3_17) rfl (v := (.ref a1)) rfl rfl ?_
        refine g_iload 20 X0 hx (hb hby d3_18) rfl (v := li) rfl ?_
        refine g_baload 21 X0 hx hZ e0 A_a1 (li.toInt.toNat) (own_nat0 hi0) rfl (z := (bs1.getD li.toInt.toNat 0)) (own_get (by have q := Int32.lt_iff_toInt_lt.mp hc10_0; rw [hend] at q; omega)) (hb hby d3_20) rfl ?_
        refine g_iadd 22 X0 hx (hb hby d3_21) rfl (z := (((31 : Int32) * lh) + (bs1.getD li.toInt.toNat 0))) rfl ?_
        refine g_istoreN 23 X0 hx (hb hby d3_22) rfl (Ls' := #[.val (.ref a1), .val (.int p2), .val (.int p3), .val (.int (((31 : Int32) * lh) + (bs1.getD li.toInt.toNat 0))), .val (.int li)]) rfl ?_
        refine g_iinc 26 X0 hx (hb hby d3_23) rfl (x := li) rfl (z := (li + (1 : Int32))) rfl (Ls' := #[.val (.ref a1), .val (.int p2), .val (.int p3), .val (.int (((31 : Int32) * lh) + (bs1.getD li.toInt.toNat 0))), .val (.int (li + (1 : Int32)))]) rfl ?_
        refine g_goto 5 X0 hx (hb hby d3_26) (by decide) (by decide) ?_
        exact ih (((31 : Int32) * lh) + (bs1.getD li.toInt.toNat 0)) (li + (1 : Int32)) (by have q := Int32.lt_iff_toInt_lt.mp hc10_0; rw [hend] at q; rw [own_inc (by omega)]; omega) (by rw [own_inc (by have q := Int32.lt_iff_toInt_lt.mp hc10_0; rw [hend] at q; omega)]; omega) (by rw [← hend]; rw [← hend] at hq; exact (own_hstep bs1 li (p2 + p3) lh (by have q := Int32.lt_iff_toInt_lt.mp hc10_0; rw [hend] at q; omega) hc10_0).trans hq)
      ·
        refine g_icmpYes 29 X0 hx (hb hby d3_10)  (flt hc10_0).2.1 (by decide) (by decide) ?_
        refine g_iloadN 30 X0 hx (hb hby d3_29) rfl (v := lh) rfl ?_
        refine g_iloadN 31 X0 hx (hb hby d3_30) rfl (v := lh) rfl ?_
        refine g_bipush 33 X0 hx (hb hby d3_31) rfl (z := (16 : Int32)) rfl ?_
        refine g_iushr 34 X0 hx (hb hby d3_33) rfl (z := ((lh.toUInt32 >>> ((16 : Int32) &&& 31).toUInt32).toInt32)) rfl ?_
        refine g_ixor 35 X0 hx (hb hby d3_34) rfl (z := (lh ^^^ ((lh.toUInt32 >>> ((16 : Int32) &&& 31).toUInt32).toInt32))) rfl ?_
        refine g_istoreN 36 X0 hx (hb hby d3_35) rfl (Ls' := #[.val (.ref a1), .val (.int p2), .val (.int p3), .val (.int (lh ^^^ ((lh.toUInt32 >>> ((16 : Int32) &&& 31).toUInt32).toInt32))), .val (.int li)]) rfl ?_
        refine g_iloadN 37 X0 hx (hb hby d3_36) rfl (v := (lh ^^^ ((lh.toUInt32 >>> ((16 : Int32) &&& 31).toUInt32).toInt32))) rfl ?_
        refine g_ldc 39 X0 hx hZ hown (hw _ (List.mem_of_getElem? (i := 14) rfl)) (hb hby d3_37) rfl ?_
        refine g_imul 40 X0 hx (hb hby d3_39) rfl (z := ((lh ^^^ ((lh.toUInt32 >>> ((16 : Int32) &&& 31).toUInt32).toInt32)) * (-2048144789 : Int32))) rfl ?_
        refine g_istoreN 41 X0 hx (hb hby d3_40) rfl (Ls' := #[.val (.ref a1), .val (.int p2), .val (.int p3), .val (.int ((lh ^^^ ((lh.toUInt32 >>> ((16 : Int32) &&& 31).toUInt32).toInt32)) * (-2048144789 : Int32))), .val (.int li)]) rfl ?_
        refine g_iloadN 42 X0 hx (hb hby d3_41) rfl (v := ((lh ^^^ ((lh.toUInt32 >>> ((16 : Int32) &&& 31).toUInt32).toInt32)) * (-2048144789 : Int32))) rfl ?_
        refine g_iloadN 43 X0 hx (hb hby d3_42) rfl (v := ((lh ^^^ ((lh.toUInt32 >>> ((16 : Int32) &&& 31).toUInt32).toInt32)) * (-2048144789 : Int32))) rfl ?_
        refine g_bipush 45 X0 hx (hb hby d3_43) rfl (z := (13 : Int32)) rfl ?_
        refine g_iushr 46 X0 hx (hb hby d3_45) rfl (z := ((((lh ^^^ ((lh.toUInt32 >>> ((16 : Int32) &&& 31).toUInt32).toInt32)) * (-2048144789 : Int32)).toUInt32 >>> ((13 : Int32) &&& 31).toUInt32).toInt32)) rfl ?_
        refine g_ixor 47 X0 hx (hb hby d3_46) rfl (z := (((lh ^^^ ((lh.toUInt32 >>> ((16 : Int32) &&& 31).toUInt32).toInt32)) * (-2048144789 : Int32)) ^^^ ((((lh ^^^ ((lh.toUInt32 >>> ((16 : Int32) &&& 31).toUInt32).toInt32)) * (-2048144789 : Int32)).toUInt32 >>> ((13 : Int32) &&& 31).toUInt32).toInt32))) rfl ?_
        refine g_istoreN 48 X0 hx (hb hby d3_47) rfl (Ls' := #[.val (.ref a1), .val (.int p2), .val (.int p3), .val (.int (((lh ^^^ ((lh.toUInt32 >>> ((16 : Int32) &&& 31).toUInt32).toInt32)) * (-2048144789 : Int32)) ^^^ ((((lh ^^^ ((lh.toUInt32 >>> ((16 : Int32) &&& 31).toUInt32).toInt32)) * (-2048144789 : Int32)).toUInt32 >>> ((13 : Int32) &&& 31).toUInt32).toInt32))), .val (.int li)]) rfl ?_
        refine g_iloadN 49 X0 hx (hb hby d3_48) rfl (v := (((lh ^^^ ((lh.toUInt32 >>> ((16 : Int32) &&& 31).toUInt32).toInt32)) * (-2048144789 : Int32)) ^^^ ((((lh ^^^ ((lh.toUInt32 >>> ((16 : Int32) &&& 31).toUInt32).toInt32)) * (-2048144789 : Int32)).toUInt32 >>> ((13 : Int32) &&& 31).toUInt32).toInt32))) rfl ?_
        exact g_retI X0 hx Bd.returns hlk (hb hby d3_49) (by decide) (by decide) ⟨(((lh ^^^ ((lh.toUInt32 >>> ((16 : Int32) &&& 31).toUInt32).toInt32)) * (-2048144789 : Int32)) ^^^ ((((lh ^^^ ((lh.toUInt32 >>> ((16 : Int32) &&& 31).toUInt32).toInt32)) * (-2048144789 : Int32)).toUInt32 >>> ((13 : Int32) &&& 31).toUInt32).toInt32)), rfl, (by have q : ¬ li.toInt < p2.toInt + p3.toInt := fun a => hc10_0 (Int32.lt_iff_toInt_lt.mpr (by rw [hend]; exact a)); rw [show (p2.toInt + p3.toInt - li.toInt).toNat = 0 by omega] at hq; show _ = own_mix _; rw [← hq]; rfl), N0, e0⟩
  exact LOOP5 _ (1 : Int32) p2 (Nat.lt_succ_self _) hs (by rw [show (p2.toInt + p3.toInt - p2.toInt).toNat = p3.toInt.toNat by omega])
theorem own_poly (bs : List Int32) (s l : Nat) (hl : l ≤ 8) (t0 t1 t2 t3 t4 t5 t6 t7 : Int32) (h0 : (0 < l ∧ t0 = bs.getD (s + 0) 0 * [(1 : Int32), (31 : Int32), (961 : Int32), (29791 : Int32), (923521 : Int32), (28629151 : Int32), (887503681 : Int32), (1742810335 : Int32), (-1807454463 : Int32)].getD (l - 1 - 0) 0) ∨ (¬ 0 < l ∧ t0 = 0)) (h1 : (1 < l ∧ t1 = bs.getD (s + 1) 0 * [(1 : Int32), (31 : Int32), (961 : Int32), (29791 : Int32), (923521 : Int32), (28629151 : Int32), (887503681 : Int32), (1742810335 : Int32), (-1807454463 : Int32)].getD (l - 1 - 1) 0) ∨ (¬ 1 < l ∧ t1 = 0)) (h2 : (2 < l ∧ t2 = bs.getD (s + 2) 0 * [(1 : Int32), (31 : Int32), (961 : Int32), (29791 : Int32), (923521 : Int32), (28629151 : Int32), (887503681 : Int32), (1742810335 : Int32), (-1807454463 : Int32)].getD (l - 1 - 2) 0) ∨ (¬ 2 < l ∧ t2 = 0)) (h3 : (3 < l ∧ t3 = bs.getD (s + 3) 0 * [(1 : Int32), (31 : Int32), (961 : Int32), (29791 : Int32), (923521 : Int32), (28629151 : Int32), (887503681 : Int32), (1742810335 : Int32), (-1807454463 : Int32)].getD (l - 1 - 3) 0) ∨ (¬ 3 < l ∧ t3 = 0)) (h4 : (4 < l ∧ t4 = bs.getD (s + 4) 0 * [(1 : Int32), (31 : Int32), (961 : Int32), (29791 : Int32), (923521 : Int32), (28629151 : Int32), (887503681 : Int32), (1742810335 : Int32), (-1807454463 : Int32)].getD (l - 1 - 4) 0) ∨ (¬ 4 < l ∧ t4 = 0)) (h5 : (5 < l ∧ t5 = bs.getD (s + 5) 0 * [(1 : Int32), (31 : Int32), (961 : Int32), (29791 : Int32), (923521 : Int32), (28629151 : Int32), (887503681 : Int32), (1742810335 : Int32), (-1807454463 : Int32)].getD (l - 1 - 5) 0) ∨ (¬ 5 < l ∧ t5 = 0)) (h6 : (6 < l ∧ t6 = bs.getD (s + 6) 0 * [(1 : Int32), (31 : Int32), (961 : Int32), (29791 : Int32), (923521 : Int32), (28629151 : Int32), (887503681 : Int32), (1742810335 : Int32), (-1807454463 : Int32)].getD (l - 1 - 6) 0) ∨ (¬ 6 < l ∧ t6 = 0)) (h7 : (7 < l ∧ t7 = bs.getD (s + 7) 0 * [(1 : Int32), (31 : Int32), (961 : Int32), (29791 : Int32), (923521 : Int32), (28629151 : Int32), (887503681 : Int32), (1742810335 : Int32), (-1807454463 : Int32)].getD (l - 1 - 7) 0) ∨ (¬ 7 < l ∧ t7 = 0)) : own_hash bs s l 1 = (((((((([(1 : Int32), (31 : Int32), (961 : Int32), (29791 : Int32), (923521 : Int32), (28629151 : Int32), (887503681 : Int32), (1742810335 : Int32), (-1807454463 : Int32)].getD l 0 + t0) + t1) + t2) + t3) + t4) + t5) + t6) + t7) := by
  obtain rfl | rfl | rfl | rfl | rfl | rfl | rfl | rfl | rfl : l = 0 ∨ l = 1 ∨ l = 2 ∨ l = 3 ∨ l = 4 ∨ l = 5 ∨ l = 6 ∨ l = 7 ∨ l = 8 := by omega
  ·
    have k0 : t0 = 0 := by
      rcases h0 with ⟨a, _⟩ | ⟨_, b⟩
      · exact absurd a (by decide)
      · exact b
    have k1 : t1 = 0 := by
      rcases h1 with ⟨a, _⟩ | ⟨_, b⟩
      · exact absurd a (by decide)
      · exact b
    have k2 : t2 = 0 := by
      rcases h2 with ⟨a, _⟩ | ⟨_, b⟩
      · exact absurd a (by decide)
      · exact b
    have k3 : t3 = 0 := by
      rcases h3 with ⟨a, _⟩ | ⟨_, b⟩
      · exact absurd a (by decide)
      · exact b
    have k4 : t4 = 0 := by
      rcases h4 with ⟨a, _⟩ | ⟨_, b⟩
      · exact absurd a (by decide)
      · exact b
    have k5 : t5 = 0 := by
      rcases h5 with ⟨a, _⟩ | ⟨_, b⟩
      · exact absurd a (by decide)
      · exact b
    have k6 : t6 = 0 := by
      rcases h6 with ⟨a, _⟩ | ⟨_, b⟩
      · exact absurd a (by decide)
      · exact b
    have k7 : t7 = 0 := by
      rcases h7 with ⟨a, _⟩ | ⟨_, b⟩
      · exact absurd a (by decide)
      · exact b
    clear h0 h1 h2 h3 h4 h5 h6 h7 hl
    subst k0 k1 k2 k3 k4 k5 k6 k7
    show _ = (((((((((1 : Int32) + 0) + 0) + 0) + 0) + 0) + 0) + 0) + 0)
    show (1 : Int32) = _
    clear bs s
    grind
  ·
    have k0 : t0 = bs.getD (s + 0) 0 * (1 : Int32) := by
      rcases h0 with ⟨_, b⟩ | ⟨a, _⟩
      · exact b
      · exact absurd (by decide) a
    have k1 : t1 = 0 := by
      rcases h1 with ⟨a, _⟩ | ⟨_, b⟩
      · exact absurd a (by decide)
      · exact b
    have k2 : t2 = 0 := by
      rcases h2 with ⟨a, _⟩ | ⟨_, b⟩
      · exact absurd a (by decide)
      · exact b
    have k3 : t3 = 0 := by
      rcases h3 with ⟨a, _⟩ | ⟨_, b⟩
      · exact absurd a (by decide)
      · exact b
    have k4 : t4 = 0 := by
      rcases h4 with ⟨a, _⟩ | ⟨_, b⟩
      · exact absurd a (by decide)
      · exact b
    have k5 : t5 = 0 := by
      rcases h5 with ⟨a, _⟩ | ⟨_, b⟩
      · exact absurd a (by decide)
      · exact b
    have k6 : t6 = 0 := by
      rcases h6 with ⟨a, _⟩ | ⟨_, b⟩
      · exact absurd a (by decide)
      · exact b
    have k7 : t7 = 0 := by
      rcases h7 with ⟨a, _⟩ | ⟨_, b⟩
      · exact absurd a (by decide)
      · exact b
    clear h0 h1 h2 h3 h4 h5 h6 h7 hl
    subst k0 k1 k2 k3 k4 k5 k6 k7
    show _ = (((((((((31 : Int32) + bs.getD (s + 0) 0 * (1 : Int32)) + 0) + 0) + 0) + 0) + 0) + 0) + 0)
    show ((31 : Int32) * (1 : Int32) + bs.getD (s + 0) 0) = _
    generalize bs.getD (s + 0) 0 = x0
    clear bs s
    grind
  ·
    have k0 : t0 = bs.getD (s + 0) 0 * (31 : Int32) := by
      rcases h0 with ⟨_, b⟩ | ⟨a, _⟩
      · exact b
      · exact absurd (by decide) a
    have k1 : t1 = bs.getD (s + 1) 0 * (1 : Int32) := by
      rcases h1 with ⟨_, b⟩ | ⟨a, _⟩
      · exact b
      · exact absurd (by decide) a
    have k2 : t2 = 0 := by
      rcases h2 with ⟨a, _⟩ | ⟨_, b⟩
      · exact absurd a (by decide)
      · exact b
    have k3 : t3 = 0 := by
      rcases h3 with ⟨a, _⟩ | ⟨_, b⟩
      · exact absurd a (by decide)
      · exact b
    have k4 : t4 = 0 := by
      rcases h4 with ⟨a, _⟩ | ⟨_, b⟩
      · exact absurd a (by decide)
      · exact b
    have k5 : t5 = 0 := by
      rcases h5 with ⟨a, _⟩ | ⟨_, b⟩
      · exact absurd a (by decide)
      · exact b
    have k6 : t6 = 0 := by
      rcases h6 with ⟨a, _⟩ | ⟨_, b⟩
      · exact absurd a (by decide)
      · exact b
    have k7 : t7 = 0 := by
      rcases h7 with ⟨a, _⟩ | ⟨_, b⟩
      · exact absurd a (by decide)
      · exact b
    clear h0 h1 h2 h3 h4 h5 h6 h7 hl
    subst k0 k1 k2 k3 k4 k5 k6 k7
    show _ = (((((((((961 : Int32) + bs.getD (s + 0) 0 * (31 : Int32)) + bs.getD (s + 1) 0 * (1 : Int32)) + 0) + 0) + 0) + 0) + 0) + 0)
    show ((31 : Int32) * ((31 : Int32) * (1 : Int32) + bs.getD (s + 0) 0) + bs.getD (s + 1) 0) = _
    generalize bs.getD (s + 0) 0 = x0
    generalize bs.getD (s + 1) 0 = x1
    clear bs s
    grind
  ·
    have k0 : t0 = bs.getD (s + 0) 0 * (961 : Int32) := by
      rcases h0 with ⟨_, b⟩ | ⟨a, _⟩
      · exact b
      · exact absurd (by decide) a
    have k1 : t1 = bs.getD (s + 1) 0 * (31 : Int32) := by
      rcases h1 with ⟨_, b⟩ | ⟨a, _⟩
      · exact b
      · exact absurd (by decide) a
    have k2 : t2 = bs.getD (s + 2) 0 * (1 : Int32) := by
      rcases h2 with ⟨_, b⟩ | ⟨a, _⟩
      · exact b
      · exact absurd (by decide) a
    have k3 : t3 = 0 := by
      rcases h3 with ⟨a, _⟩ | ⟨_, b⟩
      · exact absurd a (by decide)
      · exact b
    have k4 : t4 = 0 := by
      rcases h4 with ⟨a, _⟩ | ⟨_, b⟩
      · exact absurd a (by decide)
      · exact b
    have k5 : t5 = 0 := by
      rcases h5 with ⟨a, _⟩ | ⟨_, b⟩
      · exact absurd a (by decide)
      · exact b
    have k6 : t6 = 0 := by
      rcases h6 with ⟨a, _⟩ | ⟨_, b⟩
      · exact absurd a (by decide)
      · exact b
    have k7 : t7 = 0 := by
      rcases h7 with ⟨a, _⟩ | ⟨_, b⟩
      · exact absurd a (by decide)
      · exact b
    clear h0 h1 h2 h3 h4 h5 h6 h7 hl
    subst k0 k1 k2 k3 k4 k5 k6 k7
    show _ = (((((((((29791 : Int32) + bs.getD (s + 0) 0 * (961 : Int32)) + bs.getD (s + 1) 0 * (31 : Int32)) + bs.getD (s + 2) 0 * (1 : Int32)) + 0) + 0) + 0) + 0) + 0)
    show ((31 : Int32) * ((31 : Int32) * ((31 : Int32) * (1 : Int32) + bs.getD (s + 0) 0) + bs.getD (s + 1) 0) + bs.getD (s + 2) 0) = _
    generalize bs.getD (s + 0) 0 = x0
    generalize bs.getD (s + 1) 0 = x1
    generalize bs.getD (s + 2) 0 = x2
    clear bs s
    grind
  ·
    have k0 : t0 = bs.getD (s + 0) 0 * (29791 : Int32) := by
      rcases h0 with ⟨_, b⟩ | ⟨a, _⟩
      · exact b
      · exact absurd (by decide) a
    have k1 : t1 = bs.getD (s + 1) 0 * (961 : Int32) := by
      rcases h1 with ⟨_, b⟩ | ⟨a, _⟩
      · exact b
      · exact absurd (by decide) a
    have k2 : t2 = bs.getD (s + 2) 0 * (31 : Int32) := by
      rcases h2 with ⟨_, b⟩ | ⟨a, _⟩
      · exact b
      · exact absurd (by decide) a
    have k3 : t3 = bs.getD (s + 3) 0 * (1 : Int32) := by
      rcases h3 with ⟨_, b⟩ | ⟨a, _⟩
      · exact b
      · exact absurd (by decide) a
    have k4 : t4 = 0 := by
      rcases h4 with ⟨a, _⟩ | ⟨_, b⟩
      · exact absurd a (by decide)
      · exact b
    have k5 : t5 = 0 := by
      rcases h5 with ⟨a, _⟩ | ⟨_, b⟩
      · exact absurd a (by decide)
      · exact b
    have k6 : t6 = 0 := by
      rcases h6 with ⟨a, _⟩ | ⟨_, b⟩
      · exact absurd a (by decide)
      · exact b
    have k7 : t7 = 0 := by
      rcases h7 with ⟨a, _⟩ | ⟨_, b⟩
      · exact absurd a (by decide)
      · exact b
    clear h0 h1 h2 h3 h4 h5 h6 h7 hl
    subst k0 k1 k2 k3 k4 k5 k6 k7
    show _ = (((((((((923521 : Int32) + bs.getD (s + 0) 0 * (29791 : Int32)) + bs.getD (s + 1) 0 * (961 : Int32)) + bs.getD (s + 2) 0 * (31 : Int32)) + bs.getD (s + 3) 0 * (1 : Int32)) + 0) + 0) + 0) + 0)
    show ((31 : Int32) * ((31 : Int32) * ((31 : Int32) * ((31 : Int32) * (1 : Int32) + bs.getD (s + 0) 0) + bs.getD (s + 1) 0) + bs.getD (s + 2) 0) + bs.getD (s + 3) 0) = _
    generalize bs.getD (s + 0) 0 = x0
    generalize bs.getD (s + 1) 0 = x1
    generalize bs.getD (s + 2) 0 = x2
    generalize bs.getD (s + 3) 0 = x3
    clear bs s
    grind
  ·
    have k0 : t0 = bs.getD (s + 0) 0 * (923521 : Int32) := by
      rcases h0 with ⟨_, b⟩ | ⟨a, _⟩
      · exact b
      · exact absurd (by decide) a
    have k1 : t1 = bs.getD (s + 1) 0 * (29791 : Int32) := by
      rcases h1 with ⟨_, b⟩ | ⟨a, _⟩
      · exact b
      · exact absurd (by decide) a
    have k2 : t2 = bs.getD (s + 2) 0 * (961 : Int32) := by
      rcases h2 with ⟨_, b⟩ | ⟨a, _⟩
      · exact b
      · exact absurd (by decide) a
    have k3 : t3 = bs.getD (s + 3) 0 * (31 : Int32) := by
      rcases h3 with ⟨_, b⟩ | ⟨a, _⟩
      · exact b
      · exact absurd (by decide) a
    have k4 : t4 = bs.getD (s + 4) 0 * (1 : Int32) := by
      rcases h4 with ⟨_, b⟩ | ⟨a, _⟩
      · exact b
      · exact absurd (by decide) a
    have k5 : t5 = 0 := by
      rcases h5 with ⟨a, _⟩ | ⟨_, b⟩
      · exact absurd a (by decide)
      · exact b
    have k6 : t6 = 0 := by
      rcases h6 with ⟨a, _⟩ | ⟨_, b⟩
      · exact absurd a (by decide)
      · exact b
    have k7 : t7 = 0 := by
      rcases h7 with ⟨a, _⟩ | ⟨_, b⟩
      · exact absurd a (by decide)
      · exact b
    clear h0 h1 h2 h3 h4 h5 h6 h7 hl
    subst k0 k1 k2 k3 k4 k5 k6 k7
    show _ = (((((((((28629151 : Int32) + bs.getD (s + 0) 0 * (923521 : Int32)) + bs.getD (s + 1) 0 * (29791 : Int32)) + bs.getD (s + 2) 0 * (961 : Int32)) + bs.getD (s + 3) 0 * (31 : Int32)) + bs.getD (s + 4) 0 * (1 : Int32)) + 0) + 0) + 0)
    show ((31 : Int32) * ((31 : Int32) * ((31 : Int32) * ((31 : Int32) * ((31 : Int32) * (1 : Int32) + bs.getD (s + 0) 0) + bs.getD (s + 1) 0) + bs.getD (s + 2) 0) + bs.getD (s + 3) 0) + bs.getD (s + 4) 0) = _
    generalize bs.getD (s + 0) 0 = x0
    generalize bs.getD (s + 1) 0 = x1
    generalize bs.getD (s + 2) 0 = x2
    generalize bs.getD (s + 3) 0 = x3
    generalize bs.getD (s + 4) 0 = x4
    clear bs s
    grind
  ·
    have k0 : t0 = bs.getD (s + 0) 0 * (28629151 : Int32) := by
      rcases h0 with ⟨_, b⟩ | ⟨a, _⟩
      · exact b
      · exact absurd (by decide) a
    have k1 : t1 = bs.getD (s + 1) 0 * (923521 : Int32) := by
      rcases h1 with ⟨_, b⟩ | ⟨a, _⟩
      · exact b
      · exact absurd (by decide) a
    have k2 : t2 = bs.getD (s + 2) 0 * (29791 : Int32) := by
      rcases h2 with ⟨_, b⟩ | ⟨a, _⟩
      · exact b
      · exact absurd (by decide) a
    have k3 : t3 = bs.getD (s + 3) 0 * (961 : Int32) := by
      rcases h3 with ⟨_, b⟩ | ⟨a, _⟩
      · exact b
      · exact absurd (by decide) a
    have k4 : t4 = bs.getD (s + 4) 0 * (31 : Int32) := by
      rcases h4 with ⟨_, b⟩ | ⟨a, _⟩
      · exact b
      · exact absurd (by decide) a
    have k5 : t5 = bs.getD (s + 5) 0 * (1 : Int32) := by
      rcases h5 with ⟨_, b⟩ | ⟨a, _⟩
      · exact b
      · exact absurd (by decide) a
    have k6 : t6 = 0 := by
      rcases h6 with ⟨a, _⟩ | ⟨_, b⟩
      · exact absurd a (by decide)
      · exact b
    have k7 : t7 = 0 := by
      rcases h7 with ⟨a, _⟩ | ⟨_, b⟩
      · exact absurd a (by decide)
      · exact b
    clear h0 h1 h2 h3 h4 h5 h6 h7 hl
    subst k0 k1 k2 k3 k4 k5 k6 k7
    show _ = (((((((((887503681 : Int32) + bs.getD (s + 0) 0 * (28629151 : Int32)) + bs.getD (s + 1) 0 * (923521 : Int32)) + bs.getD (s + 2) 0 * (29791 : Int32)) + bs.getD (s + 3) 0 * (961 : Int32)) + bs.getD (s + 4) 0 * (31 : Int32)) + bs.getD (s + 5) 0 * (1 : Int32)) + 0) + 0)
    show ((31 : Int32) * ((31 : Int32) * ((31 : Int32) * ((31 : Int32) * ((31 : Int32) * ((31 : Int32) * (1 : Int32) + bs.getD (s + 0) 0) + bs.getD (s + 1) 0) + bs.getD (s + 2) 0) + bs.getD (s + 3) 0) + bs.getD (s + 4) 0) + bs.getD (s + 5) 0) = _
    generalize bs.getD (s + 0) 0 = x0
    generalize bs.getD (s + 1) 0 = x1
    generalize bs.getD (s + 2) 0 = x2
    generalize bs.getD (s + 3) 0 = x3
    generalize bs.getD (s + 4) 0 = x4
    generalize bs.getD (s + 5) 0 = x5
    clear bs s
    grind
  ·
    have k0 : t0 = bs.getD (s + 0) 0 * (887503681 : Int32) := by
      rcases h0 with ⟨_, b⟩ | ⟨a, _⟩
      · exact b
      · exact absurd (by decide) a
    have k1 : t1 = bs.getD (s + 1) 0 * (28629151 : Int32) := by
      rcases h1 with ⟨_, b⟩ | ⟨a, _⟩
      · exact b
      · exact absurd (by decide) a
    have k2 : t2 = bs.getD (s + 2) 0 * (923521 : Int32) := by
      rcases h2 with ⟨_, b⟩ | ⟨a, _⟩
      · exact b
      · exact absurd (by decide) a
    have k3 : t3 = bs.getD (s + 3) 0 * (29791 : Int32) := by
      rcases h3 with ⟨_, b⟩ | ⟨a, _⟩
      · exact b
      · exact absurd (by decide) a
    have k4 : t4 = bs.getD (s + 4) 0 * (961 : Int32) := by
      rcases h4 with ⟨_, b⟩ | ⟨a, _⟩
      · exact b
      · exact absurd (by decide) a
    have k5 : t5 = bs.getD (s + 5) 0 * (31 : Int32) := by
      rcases h5 with ⟨_, b⟩ | ⟨a, _⟩
      · exact b
      · exact absurd (by decide) a
    have k6 : t6 = bs.getD (s + 6) 0 * (1 : Int32) := by
      rcases h6 with ⟨_, b⟩ | ⟨a, _⟩
      · exact b
      · exact absurd (by decide) a
    have k7 : t7 = 0 := by
      rcases h7 with ⟨a, _⟩ | ⟨_, b⟩
      · exact absurd a (by decide)
      · exact b
    clear h0 h1 h2 h3 h4 h5 h6 h7 hl
    subst k0 k1 k2 k3 k4 k5 k6 k7
    show _ = (((((((((1742810335 : Int32) + bs.getD (s + 0) 0 * (887503681 : Int32)) + bs.getD (s + 1) 0 * (28629151 : Int32)) + bs.getD (s + 2) 0 * (923521 : Int32)) + bs.getD (s + 3) 0 * (29791 : Int32)) + bs.getD (s + 4) 0 * (961 : Int32)) + bs.getD (s + 5) 0 * (31 : Int32)) + bs.getD (s + 6) 0 * (1 : Int32)) + 0)
    show ((31 : Int32) * ((31 : Int32) * ((31 : Int32) * ((31 : Int32) * ((31 : Int32) * ((31 : Int32) * ((31 : Int32) * (1 : Int32) + bs.getD (s + 0) 0) + bs.getD (s + 1) 0) + bs.getD (s + 2) 0) + bs.getD (s + 3) 0) + bs.getD (s + 4) 0) + bs.getD (s + 5) 0) + bs.getD (s + 6) 0) = _
    generalize bs.getD (s + 0) 0 = x0
    generalize bs.getD (s + 1) 0 = x1
    generalize bs.getD (s + 2) 0 = x2
    generalize bs.getD (s + 3) 0 = x3
    generalize bs.getD (s + 4) 0 = x4
    generalize bs.getD (s + 5) 0 = x5
    generalize bs.getD (s + 6) 0 = x6
    clear bs s
    grind
  ·
    have k0 : t0 = bs.getD (s + 0) 0 * (1742810335 : Int32) := by
      rcases h0 with ⟨_, b⟩ | ⟨a, _⟩
      · exact b
      · exact absurd (by decide) a
    have k1 : t1 = bs.getD (s + 1) 0 * (887503681 : Int32) := by
      rcases h1 with ⟨_, b⟩ | ⟨a, _⟩
      · exact b
      · exact absurd (by decide) a
    have k2 : t2 = bs.getD (s + 2) 0 * (28629151 : Int32) := by
      rcases h2 with ⟨_, b⟩ | ⟨a, _⟩
      · exact b
      · exact absurd (by decide) a
    have k3 : t3 = bs.getD (s + 3) 0 * (923521 : Int32) := by
      rcases h3 with ⟨_, b⟩ | ⟨a, _⟩
      · exact b
      · exact absurd (by decide) a
    have k4 : t4 = bs.getD (s + 4) 0 * (29791 : Int32) := by
      rcases h4 with ⟨_, b⟩ | ⟨a, _⟩
      · exact b
      · exact absurd (by decide) a
    have k5 : t5 = bs.getD (s + 5) 0 * (961 : Int32) := by
      rcases h5 with ⟨_, b⟩ | ⟨a, _⟩
      · exact b
      · exact absurd (by decide) a
    have k6 : t6 = bs.getD (s + 6) 0 * (31 : Int32) := by
      rcases h6 with ⟨_, b⟩ | ⟨a, _⟩
      · exact b
      · exact absurd (by decide) a
    have k7 : t7 = bs.getD (s + 7) 0 * (1 : Int32) := by
      rcases h7 with ⟨_, b⟩ | ⟨a, _⟩
      · exact b
      · exact absurd (by decide) a
    clear h0 h1 h2 h3 h4 h5 h6 h7 hl
    subst k0 k1 k2 k3 k4 k5 k6 k7
    show _ = (((((((((-1807454463 : Int32) + bs.getD (s + 0) 0 * (1742810335 : Int32)) + bs.getD (s + 1) 0 * (887503681 : Int32)) + bs.getD (s + 2) 0 * (28629151 : Int32)) + bs.getD (s + 3) 0 * (923521 : Int32)) + bs.getD (s + 4) 0 * (29791 : Int32)) + bs.getD (s + 5) 0 * (961 : Int32)) + bs.getD (s + 6) 0 * (31 : Int32)) + bs.getD (s + 7) 0 * (1 : Int32))
    show ((31 : Int32) * ((31 : Int32) * ((31 : Int32) * ((31 : Int32) * ((31 : Int32) * ((31 : Int32) * ((31 : Int32) * ((31 : Int32) * (1 : Int32) + bs.getD (s + 0) 0) + bs.getD (s + 1) 0) + bs.getD (s + 2) 0) + bs.getD (s + 3) 0) + bs.getD (s + 4) 0) + bs.getD (s + 5) 0) + bs.getD (s + 6) 0) + bs.getD (s + 7) 0) = _
    generalize bs.getD (s + 0) 0 = x0
    generalize bs.getD (s + 1) 0 = x1
    generalize bs.getD (s + 2) 0 = x2
    generalize bs.getD (s + 3) 0 = x3
    generalize bs.getD (s + 4) 0 = x4
    generalize bs.getD (s + 5) 0 = x5
    generalize bs.getD (s + 6) 0 = x6
    generalize bs.getD (s + 7) 0 = x7
    clear bs s
    grind
theorem own_trel (bs : List Int32) (s l i t : Int32) (k : Nat) (hi : i.toInt = k) (hl : 0 ≤ l.toInt) (h : Rel1 s l i bs [(1 : Int32), (31 : Int32), (961 : Int32), (29791 : Int32), (923521 : Int32), (28629151 : Int32), (887503681 : Int32), (1742810335 : Int32), (-1807454463 : Int32)] t) : (k < l.toInt.toNat ∧ t = bs.getD (s.toInt.toNat + k) 0 * [(1 : Int32), (31 : Int32), (961 : Int32), (29791 : Int32), (923521 : Int32), (28629151 : Int32), (887503681 : Int32), (1742810335 : Int32), (-1807454463 : Int32)].getD (l.toInt.toNat - 1 - k) 0) ∨ (¬ k < l.toInt.toNat ∧ t = 0) := by
  unfold Rel1 at h
  rw [Int32.lt_iff_toInt_lt] at h
  rw [show i.toInt.toNat = k by omega] at h
  rcases h with ⟨a, b⟩ | ⟨a, b⟩
  · exact Or.inl ⟨by omega, b⟩
  · exact Or.inr ⟨by omega, b⟩
theorem pd_0 : parseMethodDescriptor "([BIII[I)I" = some ⟨[(.array .byte), .int, .int, .int, (.array .int)], some .int⟩ := by decide +kernel
theorem pd_1 : parseMethodDescriptor "(I)I" = some ⟨[.int], some .int⟩ := by decide +kernel
theorem pd_2 : parseMethodDescriptor "([BII)I" = some ⟨[(.array .byte), .int, .int], some .int⟩ := by decide +kernel
theorem ask0_0 (p1 : Int32) (p2 : Int32) (p3 : Int32) (z3 : Int32) (z7 : Int32) (z8 : Int32) (z12 : Int32) (z13 : Int32) (z17 : Int32) (z18 : Int32) (z22 : Int32) (z26 : Int32) (z27 : Int32) (z31 : Int32) (z32 : Int32) (z36 : Int32) (z37 : Int32) (z41 : Int32) (z42 : Int32) (z43 : Int32) (z44 : Int32) (hz3 : p1.toInt8.toInt32 = z3) (hz7 : (p1.toUInt32 >>> ((8 : Int32) &&& 31).toUInt32).toInt32 = z7) (hz8 : z7.toInt8.toInt32 = z8) (hz12 : (p1.toUInt32 >>> ((16 : Int32) &&& 31).toUInt32).toInt32 = z12) (hz13 : z12.toInt8.toInt32 = z13) (hz17 : (p1.toUInt32 >>> ((24 : Int32) &&& 31).toUInt32).toInt32 = z17) (hz18 : z17.toInt8.toInt32 = z18) (hz22 : p2.toInt8.toInt32 = z22) (hz26 : (p2.toUInt32 >>> ((8 : Int32) &&& 31).toUInt32).toInt32 = z26) (hz27 : z26.toInt8.toInt32 = z27) (hz31 : (p2.toUInt32 >>> ((16 : Int32) &&& 31).toUInt32).toInt32 = z31) (hz32 : z31.toInt8.toInt32 = z32) (hz36 : (p2.toUInt32 >>> ((24 : Int32) &&& 31).toUInt32).toInt32 = z36) (hz37 : z36.toInt8.toInt32 = z37) (hz41 : (p3.toUInt32 >>> ((3 : Int32) &&& 31).toUInt32).toInt32 = z41) (hz42 : z41 &&& (7 : Int32) = z42) (hz43 : (p3.toUInt32 >>> ((6 : Int32) &&& 31).toUInt32).toInt32 = z43) (hz44 : (9 : Int32) - z42 = z44) : z44 ≠ 0 := by
  have o0 := rng32 p1
  have o1 := c_i2b p1
  have o2 := rng32 p1.toInt8.toInt32
  have o3 := rng32 z3
  have o4 := rng32 (p1.toUInt32 >>> ((8 : Int32) &&& 31).toUInt32).toInt32
  have o5 := c_iushr p1 (8 : Int32) 8 (by decide) (by decide)
  have o6 := rng32 z7
  have o7 := c_i2b z7
  have o8 := rng32 z7.toInt8.toInt32
  have o9 := rng32 z8
  have o10 := rng32 (p1.toUInt32 >>> ((16 : Int32) &&& 31).toUInt32).toInt32
  have o11 := c_iushr p1 (16 : Int32) 16 (by decide) (by decide)
  have o12 := rng32 z12
  have o13 := c_i2b z12
  have o14 := rng32 z12.toInt8.toInt32
  have o15 := rng32 z13
  have o16 := rng32 (p1.toUInt32 >>> ((24 : Int32) &&& 31).toUInt32).toInt32
  have o17 := c_iushr p1 (24 : Int32) 24 (by decide) (by decide)
  have o18 := rng32 z17
  have o19 := c_i2b z17
  have o20 := rng32 z17.toInt8.toInt32
  have o21 := rng32 z18
  have o22 := rng32 p2
  have o23 := c_i2b p2
  have o24 := rng32 p2.toInt8.toInt32
  have o25 := rng32 z22
  have o26 := rng32 (p2.toUInt32 >>> ((8 : Int32) &&& 31).toUInt32).toInt32
  have o27 := c_iushr p2 (8 : Int32) 8 (by decide) (by decide)
  have o28 := rng32 z26
  have o29 := c_i2b z26
  have o30 := rng32 z26.toInt8.toInt32
  have o31 := rng32 z27
  have o32 := rng32 (p2.toUInt32 >>> ((16 : Int32) &&& 31).toUInt32).toInt32
  have o33 := c_iushr p2 (16 : Int32) 16 (by decide) (by decide)
  have o34 := rng32 z31
  have o35 := c_i2b z31
  have o36 := rng32 z31.toInt8.toInt32
  have o37 := rng32 z32
  have o38 := rng32 (p2.toUInt32 >>> ((24 : Int32) &&& 31).toUInt32).toInt32
  have o39 := c_iushr p2 (24 : Int32) 24 (by decide) (by decide)
  have o40 := rng32 z36
  have o41 := c_i2b z36
  have o42 := rng32 z36.toInt8.toInt32
  have o43 := rng32 z37
  have o44 := rng32 p3
  have o45 := rng32 (p3.toUInt32 >>> ((3 : Int32) &&& 31).toUInt32).toInt32
  have o46 := c_iushr p3 (3 : Int32) 3 (by decide) (by decide)
  have o47 := rng32 z41
  have o48 := rng32 (z41 &&& (7 : Int32))
  have o49 := c_mask z41 (7 : Int32) 3 (by decide) (by decide)
  have o50 := rng32 z42
  have o51 := rng32 (p3.toUInt32 >>> ((6 : Int32) &&& 31).toUInt32).toInt32
  have o52 := c_iushr p3 (6 : Int32) 6 (by decide) (by decide)
  have o53 := rng32 z43
  have o54 := rng32 ((9 : Int32) - z42)
  have o55 := c_isub (9 : Int32) z42
  have o56 := rng32 z44
  simp only [Int32.lt_iff_toInt_lt, Int64.lt_iff_toInt_lt, Int32.le_iff_toInt_le, Int64.le_iff_toInt_le, ← Int32.toInt_inj, ← Int64.toInt_inj, Int32.reduceToInt, Int64.reduceToInt, Int32.toInt_toInt64, ne_eq] at * <;> omega
theorem sub0_1 (z41 : Int32) (z42 : Int32) (hz42 : z41 &&& (7 : Int32) = z42) : 0 ≤ z42.toInt ∧ z42.toInt ≤ 7 := by
  have o0 := rng32 z41
  have o1 := rng32 (z41 &&& (7 : Int32))
  have o2 := c_mask z41 (7 : Int32) 3 (by decide) (by decide)
  have o3 := rng32 z42
  simp only [Int32.lt_iff_toInt_lt, Int64.lt_iff_toInt_lt, Int32.le_iff_toInt_le, Int64.le_iff_toInt_le, ← Int32.toInt_inj, ← Int64.toInt_inj, Int32.reduceToInt, Int64.reduceToInt, Int32.toInt_toInt64, ne_eq] at * <;> omega
theorem sub0_2 (p3 : Int32) (z41 : Int32) (z42 : Int32) (z43 : Int32) (z44 : Int32) (z46 : Int32) (hz42 : z41 &&& (7 : Int32) = z42) (hz43 : (p3.toUInt32 >>> ((6 : Int32) &&& 31).toUInt32).toInt32 = z43) (hz44 : (9 : Int32) - z42 = z44) (hz46 : z43 % z44 = z46) : 0 ≤ z46.toInt ∧ z42.toInt + z46.toInt ≤ 8 := by
  have o0 := rng32 z41
  have o1 := rng32 (z41 &&& (7 : Int32))
  have o2 := c_mask z41 (7 : Int32) 3 (by decide) (by decide)
  have o3 := rng32 z42
  have o4 := rng32 p3
  have o5 := rng32 (p3.toUInt32 >>> ((6 : Int32) &&& 31).toUInt32).toInt32
  have o6 := c_iushr p3 (6 : Int32) 6 (by decide) (by decide)
  have o7 := rng32 z43
  have o8 := rng32 ((9 : Int32) - z42)
  have o9 := c_isub (9 : Int32) z42
  have o10 := rng32 z44
  have o11 := rng32 (z43 % z44)
  have o12 := c_iremV z43 z44
  have o13 := rng32 z46
  simp only [Int32.lt_iff_toInt_lt, Int64.lt_iff_toInt_lt, Int32.le_iff_toInt_le, Int64.le_iff_toInt_le, ← Int32.toInt_inj, ← Int64.toInt_inj, Int32.reduceToInt, Int64.reduceToInt, Int32.toInt_toInt64, ne_eq] at * <;> omega
theorem leaf_0 (p1 : Int32) (p2 : Int32) (p3 : Int32) (z3 : Int32) (z8 : Int32) (z13 : Int32) (z18 : Int32) (z22 : Int32) (z27 : Int32) (z32 : Int32) (z37 : Int32) (z42 : Int32) (z46 : Int32) (r86 : Int32) (z93 : Int32) (r94 : Int32) (z101 : Int32) (r102 : Int32) (z109 : Int32) (r110 : Int32) (z117 : Int32) (r118 : Int32) (z125 : Int32) (r126 : Int32) (z133 : Int32) (r134 : Int32) (z141 : Int32) (r142 : Int32) (z149 : Int32) (r150 : Int32) (r151 : Int32) (z157 : Int32) (hS : 0 ≤ z42.toInt ∧ z42.toInt ≤ 7) (hL : 0 ≤ z46.toInt ∧ z42.toInt + z46.toInt ≤ 8) (hr86 : Rel1 z42 z46 (0 : Int32) [z3.toInt8.toInt32, z8.toInt8.toInt32, z13.toInt8.toInt32, z18.toInt8.toInt32, z22.toInt8.toInt32, z27.toInt8.toInt32, z32.toInt8.toInt32, z37.toInt8.toInt32] [(1 : Int32), (31 : Int32), (961 : Int32), (29791 : Int32), (923521 : Int32), (28629151 : Int32), (887503681 : Int32), (1742810335 : Int32), (-1807454463 : Int32)] r86) (hz93 : ([(1 : Int32), (31 : Int32), (961 : Int32), (29791 : Int32), (923521 : Int32), (28629151 : Int32), (887503681 : Int32), (1742810335 : Int32), (-1807454463 : Int32)].getD z46.toInt.toNat 0) + r86 = z93) (hr94 : Rel1 z42 z46 (1 : Int32) [z3.toInt8.toInt32, z8.toInt8.toInt32, z13.toInt8.toInt32, z18.toInt8.toInt32, z22.toInt8.toInt32, z27.toInt8.toInt32, z32.toInt8.toInt32, z37.toInt8.toInt32] [(1 : Int32), (31 : Int32), (961 : Int32), (29791 : Int32), (923521 : Int32), (28629151 : Int32), (887503681 : Int32), (1742810335 : Int32), (-1807454463 : Int32)] r94) (hz101 : z93 + r94 = z101) (hr102 : Rel1 z42 z46 (2 : Int32) [z3.toInt8.toInt32, z8.toInt8.toInt32, z13.toInt8.toInt32, z18.toInt8.toInt32, z22.toInt8.toInt32, z27.toInt8.toInt32, z32.toInt8.toInt32, z37.toInt8.toInt32] [(1 : Int32), (31 : Int32), (961 : Int32), (29791 : Int32), (923521 : Int32), (28629151 : Int32), (887503681 : Int32), (1742810335 : Int32), (-1807454463 : Int32)] r102) (hz109 : z101 + r102 = z109) (hr110 : Rel1 z42 z46 (3 : Int32) [z3.toInt8.toInt32, z8.toInt8.toInt32, z13.toInt8.toInt32, z18.toInt8.toInt32, z22.toInt8.toInt32, z27.toInt8.toInt32, z32.toInt8.toInt32, z37.toInt8.toInt32] [(1 : Int32), (31 : Int32), (961 : Int32), (29791 : Int32), (923521 : Int32), (28629151 : Int32), (887503681 : Int32), (1742810335 : Int32), (-1807454463 : Int32)] r110) (hz117 : z109 + r110 = z117) (hr118 : Rel1 z42 z46 (4 : Int32) [z3.toInt8.toInt32, z8.toInt8.toInt32, z13.toInt8.toInt32, z18.toInt8.toInt32, z22.toInt8.toInt32, z27.toInt8.toInt32, z32.toInt8.toInt32, z37.toInt8.toInt32] [(1 : Int32), (31 : Int32), (961 : Int32), (29791 : Int32), (923521 : Int32), (28629151 : Int32), (887503681 : Int32), (1742810335 : Int32), (-1807454463 : Int32)] r118) (hz125 : z117 + r118 = z125) (hr126 : Rel1 z42 z46 (5 : Int32) [z3.toInt8.toInt32, z8.toInt8.toInt32, z13.toInt8.toInt32, z18.toInt8.toInt32, z22.toInt8.toInt32, z27.toInt8.toInt32, z32.toInt8.toInt32, z37.toInt8.toInt32] [(1 : Int32), (31 : Int32), (961 : Int32), (29791 : Int32), (923521 : Int32), (28629151 : Int32), (887503681 : Int32), (1742810335 : Int32), (-1807454463 : Int32)] r126) (hz133 : z125 + r126 = z133) (hr134 : Rel1 z42 z46 (6 : Int32) [z3.toInt8.toInt32, z8.toInt8.toInt32, z13.toInt8.toInt32, z18.toInt8.toInt32, z22.toInt8.toInt32, z27.toInt8.toInt32, z32.toInt8.toInt32, z37.toInt8.toInt32] [(1 : Int32), (31 : Int32), (961 : Int32), (29791 : Int32), (923521 : Int32), (28629151 : Int32), (887503681 : Int32), (1742810335 : Int32), (-1807454463 : Int32)] r134) (hz141 : z133 + r134 = z141) (hr142 : Rel1 z42 z46 (7 : Int32) [z3.toInt8.toInt32, z8.toInt8.toInt32, z13.toInt8.toInt32, z18.toInt8.toInt32, z22.toInt8.toInt32, z27.toInt8.toInt32, z32.toInt8.toInt32, z37.toInt8.toInt32] [(1 : Int32), (31 : Int32), (961 : Int32), (29791 : Int32), (923521 : Int32), (28629151 : Int32), (887503681 : Int32), (1742810335 : Int32), (-1807454463 : Int32)] r142) (hz149 : z141 + r142 = z149) (hr150 : Rel2 z149 r150) (hr151 : Rel3 z42 z46 [z3.toInt8.toInt32, z8.toInt8.toInt32, z13.toInt8.toInt32, z18.toInt8.toInt32, z22.toInt8.toInt32, z27.toInt8.toInt32, z32.toInt8.toInt32, z37.toInt8.toInt32] r151) (hj158 : (r151 = r150 ∧ z157 = (1 : Int32)) ∨ (¬ (r151 = r150) ∧ z157 = (0 : Int32))) : z157 = 1 := by
  subst hz93 hz101 hz109 hz117 hz125 hz133 hz141 hz149
  have k := own_poly _ _ _ (by omega) _ _ _ _ _ _ _ _ (own_trel _ _ _ _ _ 0 (by decide) hL.1 hr86) (own_trel _ _ _ _ _ 1 (by decide) hL.1 hr94) (own_trel _ _ _ _ _ 2 (by decide) hL.1 hr102) (own_trel _ _ _ _ _ 3 (by decide) hL.1 hr110) (own_trel _ _ _ _ _ 4 (by decide) hL.1 hr118) (own_trel _ _ _ _ _ 5 (by decide) hL.1 hr126) (own_trel _ _ _ _ _ 6 (by decide) hL.1 hr134) (own_trel _ _ _ _ _ 7 (by decide) hL.1 hr142)
  unfold Rel2 at hr150
  unfold Rel3 at hr151
  rw [k] at hr151
  rcases hj158 with ⟨_, b⟩ | ⟨a, _⟩
  · exact b
  · exact absurd (hr151.trans hr150.symm) a
def Q0 (Z : State) (p1 : Int32) (p2 : Int32) (p3 : Int32) (h0 : Heap) (n0 : Nat) (v : Option Value) (h : Heap) (L : List Loc) : Prop := v = some (.int (1 : Int32)) ∧ Fr n0 L
theorem ef_rm0 (m : MethodId) (p1 : Int32) (p2 : Int32) (p3 : Int32) : entryFrame m #[(.int p1), (.int p2), (.int p3)] maxLocals = mkF m 0 #[.val (.int p1), .val (.int p2), .val (.int p3), .unset, .unset, .unset, .unset, .unset, .unset] [] := by first | (simp [entryFrame, mkF, argsToLocals, Value.category, maxLocals]; done) | rfl
set_option maxRecDepth 65536 in
set_option maxHeartbeats 40000000 in
theorem rm0 (l : Launch) (Z : State) (a0 : Array Value) (hw : ∀ d ∈ tables_1, d.before a0 Z = true) (ws : List Jvm.Cond) (p1 : Int32) (p2 : Int32) (p3 : Int32) (h0 : Heap) (n0 : Nat) (Z0 : n0 ≤ h0.size)  :
    MetFree l x (head1 (Jvm.Cond.code x code maxLocals ret :: ws) room_1) (fun a U => a = #[(.int p1), (.int p2), (.int p3)] ∧ Z.Warmed39 U.vm ∧ U.heap = h0) (fun _ _ _ _ _ => True) (fun _ U o U' => ∃ v L, o = .returned v ∧ (Q0 Z p1 p2 p3 h0 n0) v U'.heap L ∧ FrameEnd U o U' L 16 128) := by
  refine MetFree.of_bodySF (plainFor_of_name pn_0) hisR ?_
  intro p e s m args below meth c s₁ Bd hml0 hP hK
  obtain ⟨rfl, hZ, hh⟩ := hP
  have hx := Bd.exec
  have hby := Bd.bytes
  have hml : c.maxLocals = 9 := hml0
  have hown : s.vm.findClass "com/example/prefixwood/prefixwood/huffman/LineTablePlainHashPinLaw" = some m.cls := findClass_of_methodNamed Bd.named
  have hnm := (name_of_methodNamed Bd.named Bd.method).1
  have hlk : meth.locks = false := BodyLoose.notSynchronized Bd
  have X0 : Stand p l e room_1 s m #[(.int p1), (.int p2), (.int p3)] below meth c s₁ [] 0 0 := Stand.of_body Bd
  have e0 : s₁.heap = h0 := by rw [← hh, Bd.state]; rfl
  have N0 := Fr.nil n0
  show Go p e below s 16 128 (Q0 Z p1 p2 p3 h0 n0) s₁ (entryFrame m #[(.int p1), (.int p2), (.int p3)] maxLocals)
  rw [ef_rm0 m p1 p2 p3]
  refine g_bipush 2 X0 hx (hb hby at_0) rfl (z := (8 : Int32)) rfl ?_
  refine g_new_byte 4 X0 hx hZ (hw _ (List.mem_of_getElem? (i := 0) rfl)) e0 8 8 (by decide) rfl (by decide) (by decide) (by decide) (by decide) (hb hby at_2) rfl ?_
  intro T1 h1 b1 X1 e1 E1 g1 A1
  have Zs2 : n0 ≤ h1.size := (Nat.le_trans Z0 E1.1)
  have g_b1 : n0 ≤ b1 := Nat.le_trans Z0 (Nat.le_of_eq g1.symm)
  have A1' : AI Z h1 b1 .byte [(0 : Int32), (0 : Int32), (0 : Int32), (0 : Int32), (0 : Int32), (0 : Int32), (0 : Int32), (0 : Int32)] := A1
  refine g_astoreN 5 X1 hx (hb hby at_4) rfl (Ls' := #[.val (.int p1), .val (.int p2), .val (.int p3), .val (.ref b1), .unset, .unset, .unset, .unset, .unset]) rfl rfl ?_
  refine g_aloadN 6 X1 hx (hb hby at_5) rfl (v := (.ref b1)) rfl rfl ?_
  refine g_iconst 7 X1 hx (hb hby at_6) rfl (z := (0 : Int32)) rfl ?_
  refine g_iloadN 8 X1 hx (hb hby at_7) rfl (v := p1) rfl ?_
  obtain ⟨z3, hz3⟩ : ∃ z : Int32, p1.toInt8.toInt32 = z := ⟨_, rfl⟩
  refine g_i2b 9 X1 hx (hb hby at_8) rfl (z := z3) hz3 ?_
  refine g_bastore 10 X1 hx hZ e1 A1' 0 (by decide) rfl (Nat.le_of_ble_eq_true rfl) (z := z3.toInt8.toInt32) rfl (hb hby at_9) rfl ?_
  intro T4 h4 X4 e4 W4 A4
  have Zs5 : n0 ≤ h4.size := (Nat.le_trans Zs2 (Keep.of_wr W4).1)
  have A4' : AI Z h4 b1 .byte [z3.toInt8.toInt32, (0 : Int32), (0 : Int32), (0 : Int32), (0 : Int32), (0 : Int32), (0 : Int32), (0 : Int32)] := A4
  have N6 := Fr.snoc X4 N0 g_b1
  refine g_aloadN 11 X4 hx (hb hby at_10) rfl (v := (.ref b1)) rfl rfl ?_
  refine g_iconst 12 X4 hx (hb hby at_11) rfl (z := (1 : Int32)) rfl ?_
  refine g_iloadN 13 X4 hx (hb hby at_12) rfl (v := p1) rfl ?_
  refine g_bipush 15 X4 hx (hb hby at_13) rfl (z := (8 : Int32)) rfl ?_
  obtain ⟨z7, hz7⟩ : ∃ z : Int32, (p1.toUInt32 >>> ((8 : Int32) &&& 31).toUInt32).toInt32 = z := ⟨_, rfl⟩
  refine g_iushr 16 X4 hx (hb hby at_15) rfl (z := z7) hz7 ?_
  obtain ⟨z8, hz8⟩ : ∃ z : Int32, z7.toInt8.toInt32 = z := ⟨_, rfl⟩
  refine g_i2b 17 X4 hx (hb hby at_16) rfl (z := z8) hz8 ?_
  refine g_bastore 18 X4 hx hZ e4 A4' 1 (by decide) rfl (Nat.le_of_ble_eq_true rfl) (z := z8.toInt8.toInt32) rfl (hb hby at_17) rfl ?_
  intro T9 h9 X9 e9 W9 A9
  have Zs10 : n0 ≤ h9.size := (Nat.le_trans Zs5 (Keep.of_wr W9).1)
  have A9' : AI Z h9 b1 .byte [z3.toInt8.toInt32, z8.toInt8.toInt32, (0 : Int32), (0 : Int32), (0 : Int32), (0 : Int32), (0 : Int32), (0 : Int32)] := A9
  have N11 := Fr.snoc X9 N6 g_b1
  refine g_aloadN 19 X9 hx (hb hby at_18) rfl (v := (.ref b1)) rfl rfl ?_
  refine g_iconst 20 X9 hx (hb hby at_19) rfl (z := (2 : Int32)) rfl ?_
  refine g_iloadN 21 X9 hx (hb hby at_20) rfl (v := p1) rfl ?_
  refine g_bipush 23 X9 hx (hb hby at_21) rfl (z := (16 : Int32)) rfl ?_
  obtain ⟨z12, hz12⟩ : ∃ z : Int32, (p1.toUInt32 >>> ((16 : Int32) &&& 31).toUInt32).toInt32 = z := ⟨_, rfl⟩
  refine g_iushr 24 X9 hx (hb hby at_23) rfl (z := z12) hz12 ?_
  obtain ⟨z13, hz13⟩ : ∃ z : Int32, z12.toInt8.toInt32 = z := ⟨_, rfl⟩
  refine g_i2b 25 X9 hx (hb hby at_24) rfl (z := z13) hz13 ?_
  refine g_bastore 26 X9 hx hZ e9 A9' 2 (by decide) rfl (Nat.le_of_ble_eq_true rfl) (z := z13.toInt8.toInt32) rfl (hb hby at_25) rfl ?_
  intro T14 h14 X14 e14 W14 A14
  have Zs15 : n0 ≤ h14.size := (Nat.le_trans Zs10 (Keep.of_wr W14).1)
  have A14' : AI Z h14 b1 .byte [z3.toInt8.toInt32, z8.toInt8.toInt32, z13.toInt8.toInt32, (0 : Int32), (0 : Int32), (0 : Int32), (0 : Int32), (0 : Int32)] := A14
  have N16 := Fr.snoc X14 N11 g_b1
  refine g_aloadN 27 X14 hx (hb hby at_26) rfl (v := (.ref b1)) rfl rfl ?_
  refine g_iconst 28 X14 hx (hb hby at_27) rfl (z := (3 : Int32)) rfl ?_
  refine g_iloadN 29 X14 hx (hb hby at_28) rfl (v := p1) rfl ?_
  refine g_bipush 31 X14 hx (hb hby at_29) rfl (z := (24 : Int32)) rfl ?_
  obtain ⟨z17, hz17⟩ : ∃ z : Int32, (p1.toUInt32 >>> ((24 : Int32) &&& 31).toUInt32).toInt32 = z := ⟨_, rfl⟩
  refine g_iushr 32 X14 hx (hb hby at_31) rfl (z := z17) hz17 ?_
  obtain ⟨z18, hz18⟩ : ∃ z : Int32, z17.toInt8.toInt32 = z := ⟨_, rfl⟩
  refine g_i2b 33 X14 hx (hb hby at_32) rfl (z := z18) hz18 ?_
  refine g_bastore 34 X14 hx hZ e14 A14' 3 (by decide) rfl (Nat.le_of_ble_eq_true rfl) (z := z18.toInt8.toInt32) rfl (hb hby at_33) rfl ?_
  intro T19 h19 X19 e19 W19 A19
  have Zs20 : n0 ≤ h19.size := (Nat.le_trans Zs15 (Keep.of_wr W19).1)
  have A19' : AI Z h19 b1 .byte [z3.toInt8.toInt32, z8.toInt8.toInt32, z13.toInt8.toInt32, z18.toInt8.toInt32, (0 : Int32), (0 : Int32), (0 : Int32), (0 : Int32)] := A19
  have N21 := Fr.snoc X19 N16 g_b1
  refine g_aloadN 35 X19 hx (hb hby at_34) rfl (v := (.ref b1)) rfl rfl ?_
  refine g_iconst 36 X19 hx (hb hby at_35) rfl (z := (4 : Int32)) rfl ?_
  refine g_iloadN 37 X19 hx (hb hby at_36) rfl (v := p2) rfl ?_
  obtain ⟨z22, hz22⟩ : ∃ z : Int32, p2.toInt8.toInt32 = z := ⟨_, rfl⟩
  refine g_i2b 38 X19 hx (hb hby at_37) rfl (z := z22) hz22 ?_
  refine g_bastore 39 X19 hx hZ e19 A19' 4 (by decide) rfl (Nat.le_of_ble_eq_true rfl) (z := z22.toInt8.toInt32) rfl (hb hby at_38) rfl ?_
  intro T23 h23 X23 e23 W23 A23
  have Zs24 : n0 ≤ h23.size := (Nat.le_trans Zs20 (Keep.of_wr W23).1)
  have A23' : AI Z h23 b1 .byte [z3.toInt8.toInt32, z8.toInt8.toInt32, z13.toInt8.toInt32, z18.toInt8.toInt32, z22.toInt8.toInt32, (0 : Int32), (0 : Int32), (0 : Int32)] := A23
  have N25 := Fr.snoc X23 N21 g_b1
  refine g_aloadN 40 X23 hx (hb hby at_39) rfl (v := (.ref b1)) rfl rfl ?_
  refine g_iconst 41 X23 hx (hb hby at_40) rfl (z := (5 : Int32)) rfl ?_
  refine g_iloadN 42 X23 hx (hb hby at_41) rfl (v := p2) rfl ?_
  refine g_bipush 44 X23 hx (hb hby at_42) rfl (z := (8 : Int32)) rfl ?_
  obtain ⟨z26, hz26⟩ : ∃ z : Int32, (p2.toUInt32 >>> ((8 : Int32) &&& 31).toUInt32).toInt32 = z := ⟨_, rfl⟩
  refine g_iushr 45 X23 hx (hb hby at_44) rfl (z := z26) hz26 ?_
  obtain ⟨z27, hz27⟩ : ∃ z : Int32, z26.toInt8.toInt32 = z := ⟨_, rfl⟩
  refine g_i2b 46 X23 hx (hb hby at_45) rfl (z := z27) hz27 ?_
  refine g_bastore 47 X23 hx hZ e23 A23' 5 (by decide) rfl (Nat.le_of_ble_eq_true rfl) (z := z27.toInt8.toInt32) rfl (hb hby at_46) rfl ?_
  intro T28 h28 X28 e28 W28 A28
  have Zs29 : n0 ≤ h28.size := (Nat.le_trans Zs24 (Keep.of_wr W28).1)
  have A28' : AI Z h28 b1 .byte [z3.toInt8.toInt32, z8.toInt8.toInt32, z13.toInt8.toInt32, z18.toInt8.toInt32, z22.toInt8.toInt32, z27.toInt8.toInt32, (0 : Int32), (0 : Int32)] := A28
  have N30 := Fr.snoc X28 N25 g_b1
  refine g_aloadN 48 X28 hx (hb hby at_47) rfl (v := (.ref b1)) rfl rfl ?_
  refine g_bipush 50 X28 hx (hb hby at_48) rfl (z := (6 : Int32)) rfl ?_
  refine g_iloadN 51 X28 hx (hb hby at_50) rfl (v := p2) rfl ?_
  refine g_bipush 53 X28 hx (hb hby at_51) rfl (z := (16 : Int32)) rfl ?_
  obtain ⟨z31, hz31⟩ : ∃ z : Int32, (p2.toUInt32 >>> ((16 : Int32) &&& 31).toUInt32).toInt32 = z := ⟨_, rfl⟩
  refine g_iushr 54 X28 hx (hb hby at_53) rfl (z := z31) hz31 ?_
  obtain ⟨z32, hz32⟩ : ∃ z : Int32, z31.toInt8.toInt32 = z := ⟨_, rfl⟩
  refine g_i2b 55 X28 hx (hb hby at_54) rfl (z := z32) hz32 ?_
  refine g_bastore 56 X28 hx hZ e28 A28' 6 (by decide) rfl (Nat.le_of_ble_eq_true rfl) (z := z32.toInt8.toInt32) rfl (hb hby at_55) rfl ?_
  intro T33 h33 X33 e33 W33 A33
  have Zs34 : n0 ≤ h33.size := (Nat.le_trans Zs29 (Keep.of_wr W33).1)
  have A33' : AI Z h33 b1 .byte [z3.toInt8.toInt32, z8.toInt8.toInt32, z13.toInt8.toInt32, z18.toInt8.toInt32, z22.toInt8.toInt32, z27.toInt8.toInt32, z32.toInt8.toInt32, (0 : Int32)] := A33
  have N35 := Fr.snoc X33 N30 g_b1
  refine g_aloadN 57 X33 hx (hb hby at_56) rfl (v := (.ref b1)) rfl rfl ?_
  refine g_bipush 59 X33 hx (hb hby at_57) rfl (z := (7 : Int32)) rfl ?_
  refine g_iloadN 60 X33 hx (hb hby at_59) rfl (v := p2) rfl ?_
  refine g_bipush 62 X33 hx (hb hby at_60) rfl (z := (24 : Int32)) rfl ?_
  obtain ⟨z36, hz36⟩ : ∃ z : Int32, (p2.toUInt32 >>> ((24 : Int32) &&& 31).toUInt32).toInt32 = z := ⟨_, rfl⟩
  refine g_iushr 63 X33 hx (hb hby at_62) rfl (z := z36) hz36 ?_
  obtain ⟨z37, hz37⟩ : ∃ z : Int32, z36.toInt8.toInt32 = z := ⟨_, rfl⟩
  refine g_i2b 64 X33 hx (hb hby at_63) rfl (z := z37) hz37 ?_
  refine g_bastore 65 X33 hx hZ e33 A33' 7 (by decide) rfl (Nat.le_of_ble_eq_true rfl) (z := z37.toInt8.toInt32) rfl (hb hby at_64) rfl ?_
  intro T38 h38 X38 e38 W38 A38
  have Zs39 : n0 ≤ h38.size := (Nat.le_trans Zs34 (Keep.of_wr W38).1)
  have A38' : AI Z h38 b1 .byte [z3.toInt8.toInt32, z8.toInt8.toInt32, z13.toInt8.toInt32, z18.toInt8.toInt32, z22.toInt8.toInt32, z27.toInt8.toInt32, z32.toInt8.toInt32, z37.toInt8.toInt32] := A38
  have N40 := Fr.snoc X38 N35 g_b1
  refine g_iloadN 66 X38 hx (hb hby at_65) rfl (v := p3) rfl ?_
  refine g_iconst 67 X38 hx (hb hby at_66) rfl (z := (3 : Int32)) rfl ?_
  obtain ⟨z41, hz41⟩ : ∃ z : Int32, (p3.toUInt32 >>> ((3 : Int32) &&& 31).toUInt32).toInt32 = z := ⟨_, rfl⟩
  refine g_iushr 68 X38 hx (hb hby at_67) rfl (z := z41) hz41 ?_
  refine g_bipush 70 X38 hx (hb hby at_68) rfl (z := (7 : Int32)) rfl ?_
  obtain ⟨z42, hz42⟩ : ∃ z : Int32, z41 &&& (7 : Int32) = z := ⟨_, rfl⟩
  refine g_iand 71 X38 hx (hb hby at_70) rfl (z := z42) hz42 ?_
  refine g_istore 73 X38 hx (hb hby at_71) rfl (Ls' := #[.val (.int p1), .val (.int p2), .val (.int p3), .val (.ref b1), .val (.int z42), .unset, .unset, .unset, .unset]) rfl ?_
  refine g_iloadN 74 X38 hx (hb hby at_73) rfl (v := p3) rfl ?_
  refine g_bipush 76 X38 hx (hb hby at_74) rfl (z := (6 : Int32)) rfl ?_
  obtain ⟨z43, hz43⟩ : ∃ z : Int32, (p3.toUInt32 >>> ((6 : Int32) &&& 31).toUInt32).toInt32 = z := ⟨_, rfl⟩
  refine g_iushr 77 X38 hx (hb hby at_76) rfl (z := z43) hz43 ?_
  refine g_bipush 79 X38 hx (hb hby at_77) rfl (z := (9 : Int32)) rfl ?_
  refine g_iload 81 X38 hx (hb hby at_79) rfl (v := z42) rfl ?_
  obtain ⟨z44, hz44⟩ : ∃ z : Int32, (9 : Int32) - z42 = z := ⟨_, rfl⟩
  refine g_isub 82 X38 hx (hb hby at_81) rfl (z := z44) hz44 ?_
  have hq82_nz_44 : z44 ≠ 0 := (ask0_0 p1 p2 p3 z3 z7 z8 z12 z13 z17 z18 z22 z26 z27 z31 z32 z36 z37 z41 z42 z43 z44 hz3 hz7 hz8 hz12 hz13 hz17 hz18 hz22 hz26 hz27 hz31 hz32 hz36 hz37 hz41 hz42 hz43 hz44)
  obtain ⟨z46, hz46⟩ : ∃ z : Int32, z43 % z44 = z := ⟨_, rfl⟩
  refine g_irem 83 X38 hx (hb hby at_82) rfl hq82_nz_44 (z := z46) hz46 ?_
  refine g_istore 85 X38 hx (hb hby at_83) rfl (Ls' := #[.val (.int p1), .val (.int p2), .val (.int p3), .val (.ref b1), .val (.int z42), .val (.int z46), .unset, .unset, .unset]) rfl ?_
  have hS : 0 ≤ z42.toInt ∧ z42.toInt ≤ 7 := (sub0_1 z41 z42 hz42)
  have hL : 0 ≤ z46.toInt ∧ z42.toInt + z46.toInt ≤ 8 := (sub0_2 p3 z41 z42 z43 z44 z46 hz42 hz43 hz44 hz46)
  refine g_bipush 87 X38 hx (hb hby at_85) rfl (z := (9 : Int32)) rfl ?_
  refine g_new_int 89 X38 hx hZ (hw _ (List.mem_of_getElem? (i := 1) rfl)) e38 9 9 (by decide) rfl (by decide) (by decide) (by decide) (by decide) (hb hby at_87) rfl ?_
  intro T47 h47 b47 X47 e47 E47 g47 A47
  have f48 := A38'.ext E47
  have Zs49 : n0 ≤ h47.size := (Nat.le_trans Zs39 E47.1)
  have g_b47 : n0 ≤ b47 := Nat.le_trans Zs39 (Nat.le_of_eq g47.symm)
  have A47' : AI Z h47 b47 .int [(0 : Int32), (0 : Int32), (0 : Int32), (0 : Int32), (0 : Int32), (0 : Int32), (0 : Int32), (0 : Int32), (0 : Int32)] := A47
  refine g_astore 91 X47 hx (hb hby at_89) rfl (Ls' := #[.val (.int p1), .val (.int p2), .val (.int p3), .val (.ref b1), .val (.int z42), .val (.int z46), .val (.ref b47), .unset, .unset]) rfl rfl ?_
  refine g_aload 93 X47 hx (hb hby at_91) rfl (v := (.ref b47)) rfl rfl ?_
  refine g_iconst 94 X47 hx (hb hby at_93) rfl (z := (0 : Int32)) rfl ?_
  refine g_iconst 95 X47 hx (hb hby at_94) rfl (z := (1 : Int32)) rfl ?_
  refine g_iastore 96 X47 hx hZ e47 A47' 0 (by decide) rfl (Nat.le_of_ble_eq_true rfl) (z := (1 : Int32)) rfl (hb hby at_95) rfl ?_
  intro T50 h50 X50 e50 W50 A50
  have f51 := f48.other W50 (Nat.ne_of_lt (Nat.lt_of_lt_of_le A38'.lt (Nat.le_of_eq g47.symm)))
  have Zs52 : n0 ≤ h50.size := (Nat.le_trans Zs49 (Keep.of_wr W50).1)
  have A50' : AI Z h50 b47 .int [(1 : Int32), (0 : Int32), (0 : Int32), (0 : Int32), (0 : Int32), (0 : Int32), (0 : Int32), (0 : Int32), (0 : Int32)] := A50
  have N53 := Fr.snoc X50 N40 g_b47
  refine g_aload 98 X50 hx (hb hby at_96) rfl (v := (.ref b47)) rfl rfl ?_
  refine g_iconst 99 X50 hx (hb hby at_98) rfl (z := (1 : Int32)) rfl ?_
  refine g_bipush 101 X50 hx (hb hby at_99) rfl (z := (31 : Int32)) rfl ?_
  refine g_aload 103 X50 hx (hb hby at_101) rfl (v := (.ref b47)) rfl rfl ?_
  refine g_iconst 104 X50 hx (hb hby at_103) rfl (z := (0 : Int32)) rfl ?_
  refine g_iaload 105 X50 hx hZ e50 A50' 0 (by decide) rfl (z := (1 : Int32)) rfl (hb hby at_104) rfl ?_
  refine g_imul 106 X50 hx (hb hby at_105) rfl (z := (31 : Int32)) (by decide) ?_
  refine g_iastore 107 X50 hx hZ e50 A50' 1 (by decide) rfl (Nat.le_of_ble_eq_true rfl) (z := (31 : Int32)) rfl (hb hby at_106) rfl ?_
  intro T54 h54 X54 e54 W54 A54
  have f55 := f51.other W54 (Nat.ne_of_lt (Nat.lt_of_lt_of_le A38'.lt (Nat.le_of_eq g47.symm)))
  have Zs56 : n0 ≤ h54.size := (Nat.le_trans Zs52 (Keep.of_wr W54).1)
  have A54' : AI Z h54 b47 .int [(1 : Int32), (31 : Int32), (0 : Int32), (0 : Int32), (0 : Int32), (0 : Int32), (0 : Int32), (0 : Int32), (0 : Int32)] := A54
  have N57 := Fr.snoc X54 N53 g_b47
  refine g_aload 109 X54 hx (hb hby at_107) rfl (v := (.ref b47)) rfl rfl ?_
  refine g_iconst 110 X54 hx (hb hby at_109) rfl (z := (2 : Int32)) rfl ?_
  refine g_bipush 112 X54 hx (hb hby at_110) rfl (z := (31 : Int32)) rfl ?_
  refine g_aload 114 X54 hx (hb hby at_112) rfl (v := (.ref b47)) rfl rfl ?_
  refine g_iconst 115 X54 hx (hb hby at_114) rfl (z := (1 : Int32)) rfl ?_
  refine g_iaload 116 X54 hx hZ e54 A54' 1 (by decide) rfl (z := (31 : Int32)) rfl (hb hby at_115) rfl ?_
  refine g_imul 117 X54 hx (hb hby at_116) rfl (z := (961 : Int32)) (by decide) ?_
  refine g_iastore 118 X54 hx hZ e54 A54' 2 (by decide) rfl (Nat.le_of_ble_eq_true rfl) (z := (961 : Int32)) rfl (hb hby at_117) rfl ?_
  intro T58 h58 X58 e58 W58 A58
  have f59 := f55.other W58 (Nat.ne_of_lt (Nat.lt_of_lt_of_le A38'.lt (Nat.le_of_eq g47.symm)))
  have Zs60 : n0 ≤ h58.size := (Nat.le_trans Zs56 (Keep.of_wr W58).1)
  have A58' : AI Z h58 b47 .int [(1 : Int32), (31 : Int32), (961 : Int32), (0 : Int32), (0 : Int32), (0 : Int32), (0 : Int32), (0 : Int32), (0 : Int32)] := A58
  have N61 := Fr.snoc X58 N57 g_b47
  refine g_aload 120 X58 hx (hb hby at_118) rfl (v := (.ref b47)) rfl rfl ?_
  refine g_iconst 121 X58 hx (hb hby at_120) rfl (z := (3 : Int32)) rfl ?_
  refine g_bipush 123 X58 hx (hb hby at_121) rfl (z := (31 : Int32)) rfl ?_
  refine g_aload 125 X58 hx (hb hby at_123) rfl (v := (.ref b47)) rfl rfl ?_
  refine g_iconst 126 X58 hx (hb hby at_125) rfl (z := (2 : Int32)) rfl ?_
  refine g_iaload 127 X58 hx hZ e58 A58' 2 (by decide) rfl (z := (961 : Int32)) rfl (hb hby at_126) rfl ?_
  refine g_imul 128 X58 hx (hb hby at_127) rfl (z := (29791 : Int32)) (by decide) ?_
  refine g_iastore 129 X58 hx hZ e58 A58' 3 (by decide) rfl (Nat.le_of_ble_eq_true rfl) (z := (29791 : Int32)) rfl (hb hby at_128) rfl ?_
  intro T62 h62 X62 e62 W62 A62
  have f63 := f59.other W62 (Nat.ne_of_lt (Nat.lt_of_lt_of_le A38'.lt (Nat.le_of_eq g47.symm)))
  have Zs64 : n0 ≤ h62.size := (Nat.le_trans Zs60 (Keep.of_wr W62).1)
  have A62' : AI Z h62 b47 .int [(1 : Int32), (31 : Int32), (961 : Int32), (29791 : Int32), (0 : Int32), (0 : Int32), (0 : Int32), (0 : Int32), (0 : Int32)] := A62
  have N65 := Fr.snoc X62 N61 g_b47
  refine g_aload 131 X62 hx (hb hby at_129) rfl (v := (.ref b47)) rfl rfl ?_
  refine g_iconst 132 X62 hx (hb hby at_131) rfl (z := (4 : Int32)) rfl ?_
  refine g_bipush 134 X62 hx (hb hby at_132) rfl (z := (31 : Int32)) rfl ?_
  refine g_aload 136 X62 hx (hb hby at_134) rfl (v := (.ref b47)) rfl rfl ?_
  refine g_iconst 137 X62 hx (hb hby at_136) rfl (z := (3 : Int32)) rfl ?_
  refine g_iaload 138 X62 hx hZ e62 A62' 3 (by decide) rfl (z := (29791 : Int32)) rfl (hb hby at_137) rfl ?_
  refine g_imul 139 X62 hx (hb hby at_138) rfl (z := (923521 : Int32)) (by decide) ?_
  refine g_iastore 140 X62 hx hZ e62 A62' 4 (by decide) rfl (Nat.le_of_ble_eq_true rfl) (z := (923521 : Int32)) rfl (hb hby at_139) rfl ?_
  intro T66 h66 X66 e66 W66 A66
  have f67 := f63.other W66 (Nat.ne_of_lt (Nat.lt_of_lt_of_le A38'.lt (Nat.le_of_eq g47.symm)))
  have Zs68 : n0 ≤ h66.size := (Nat.le_trans Zs64 (Keep.of_wr W66).1)
  have A66' : AI Z h66 b47 .int [(1 : Int32), (31 : Int32), (961 : Int32), (29791 : Int32), (923521 : Int32), (0 : Int32), (0 : Int32), (0 : Int32), (0 : Int32)] := A66
  have N69 := Fr.snoc X66 N65 g_b47
  refine g_aload 142 X66 hx (hb hby at_140) rfl (v := (.ref b47)) rfl rfl ?_
  refine g_iconst 143 X66 hx (hb hby at_142) rfl (z := (5 : Int32)) rfl ?_
  refine g_bipush 145 X66 hx (hb hby at_143) rfl (z := (31 : Int32)) rfl ?_
  refine g_aload 147 X66 hx (hb hby at_145) rfl (v := (.ref b47)) rfl rfl ?_
  refine g_iconst 148 X66 hx (hb hby at_147) rfl (z := (4 : Int32)) rfl ?_
  refine g_iaload 149 X66 hx hZ e66 A66' 4 (by decide) rfl (z := (923521 : Int32)) rfl (hb hby at_148) rfl ?_
  refine g_imul 150 X66 hx (hb hby at_149) rfl (z := (28629151 : Int32)) (by decide) ?_
  refine g_iastore 151 X66 hx hZ e66 A66' 5 (by decide) rfl (Nat.le_of_ble_eq_true rfl) (z := (28629151 : Int32)) rfl (hb hby at_150) rfl ?_
  intro T70 h70 X70 e70 W70 A70
  have f71 := f67.other W70 (Nat.ne_of_lt (Nat.lt_of_lt_of_le A38'.lt (Nat.le_of_eq g47.symm)))
  have Zs72 : n0 ≤ h70.size := (Nat.le_trans Zs68 (Keep.of_wr W70).1)
  have A70' : AI Z h70 b47 .int [(1 : Int32), (31 : Int32), (961 : Int32), (29791 : Int32), (923521 : Int32), (28629151 : Int32), (0 : Int32), (0 : Int32), (0 : Int32)] := A70
  have N73 := Fr.snoc X70 N69 g_b47
  refine g_aload 153 X70 hx (hb hby at_151) rfl (v := (.ref b47)) rfl rfl ?_
  refine g_bipush 155 X70 hx (hb hby at_153) rfl (z := (6 : Int32)) rfl ?_
  refine g_bipush 157 X70 hx (hb hby at_155) rfl (z := (31 : Int32)) rfl ?_
  refine g_aload 159 X70 hx (hb hby at_157) rfl (v := (.ref b47)) rfl rfl ?_
  refine g_iconst 160 X70 hx (hb hby at_159) rfl (z := (5 : Int32)) rfl ?_
  refine g_iaload 161 X70 hx hZ e70 A70' 5 (by decide) rfl (z := (28629151 : Int32)) rfl (hb hby at_160) rfl ?_
  refine g_imul 162 X70 hx (hb hby at_161) rfl (z := (887503681 : Int32)) (by decide) ?_
  refine g_iastore 163 X70 hx hZ e70 A70' 6 (by decide) rfl (Nat.le_of_ble_eq_true rfl) (z := (887503681 : Int32)) rfl (hb hby at_162) rfl ?_
  intro T74 h74 X74 e74 W74 A74
  have f75 := f71.other W74 (Nat.ne_of_lt (Nat.lt_of_lt_of_le A38'.lt (Nat.le_of_eq g47.symm)))
  have Zs76 : n0 ≤ h74.size := (Nat.le_trans Zs72 (Keep.of_wr W74).1)
  have A74' : AI Z h74 b47 .int [(1 : Int32), (31 : Int32), (961 : Int32), (29791 : Int32), (923521 : Int32), (28629151 : Int32), (887503681 : Int32), (0 : Int32), (0 : Int32)] := A74
  have N77 := Fr.snoc X74 N73 g_b47
  refine g_aload 165 X74 hx (hb hby at_163) rfl (v := (.ref b47)) rfl rfl ?_
  refine g_bipush 167 X74 hx (hb hby at_165) rfl (z := (7 : Int32)) rfl ?_
  refine g_bipush 169 X74 hx (hb hby at_167) rfl (z := (31 : Int32)) rfl ?_
  refine g_aload 171 X74 hx (hb hby at_169) rfl (v := (.ref b47)) rfl rfl ?_
  refine g_bipush 173 X74 hx (hb hby at_171) rfl (z := (6 : Int32)) rfl ?_
  refine g_iaload 174 X74 hx hZ e74 A74' 6 (by decide) rfl (z := (887503681 : Int32)) rfl (hb hby at_173) rfl ?_
  refine g_imul 175 X74 hx (hb hby at_174) rfl (z := (1742810335 : Int32)) (by decide) ?_
  refine g_iastore 176 X74 hx hZ e74 A74' 7 (by decide) rfl (Nat.le_of_ble_eq_true rfl) (z := (1742810335 : Int32)) rfl (hb hby at_175) rfl ?_
  intro T78 h78 X78 e78 W78 A78
  have f79 := f75.other W78 (Nat.ne_of_lt (Nat.lt_of_lt_of_le A38'.lt (Nat.le_of_eq g47.symm)))
  have Zs80 : n0 ≤ h78.size := (Nat.le_trans Zs76 (Keep.of_wr W78).1)
  have A78' : AI Z h78 b47 .int [(1 : Int32), (31 : Int32), (961 : Int32), (29791 : Int32), (923521 : Int32), (28629151 : Int32), (887503681 : Int32), (1742810335 : Int32), (0 : Int32)] := A78
  have N81 := Fr.snoc X78 N77 g_b47
  refine g_aload 178 X78 hx (hb hby at_176) rfl (v := (.ref b47)) rfl rfl ?_
  refine g_bipush 180 X78 hx (hb hby at_178) rfl (z := (8 : Int32)) rfl ?_
  refine g_bipush 182 X78 hx (hb hby at_180) rfl (z := (31 : Int32)) rfl ?_
  refine g_aload 184 X78 hx (hb hby at_182) rfl (v := (.ref b47)) rfl rfl ?_
  refine g_bipush 186 X78 hx (hb hby at_184) rfl (z := (7 : Int32)) rfl ?_
  refine g_iaload 187 X78 hx hZ e78 A78' 7 (by decide) rfl (z := (1742810335 : Int32)) rfl (hb hby at_186) rfl ?_
  refine g_imul 188 X78 hx (hb hby at_187) rfl (z := (-1807454463 : Int32)) (by decide) ?_
  refine g_iastore 189 X78 hx hZ e78 A78' 8 (by decide) rfl (Nat.le_of_ble_eq_true rfl) (z := (-1807454463 : Int32)) rfl (hb hby at_188) rfl ?_
  intro T82 h82 X82 e82 W82 A82
  have f83 := f79.other W82 (Nat.ne_of_lt (Nat.lt_of_lt_of_le A38'.lt (Nat.le_of_eq g47.symm)))
  have Zs84 : n0 ≤ h82.size := (Nat.le_trans Zs80 (Keep.of_wr W82).1)
  have A82' : AI Z h82 b47 .int [(1 : Int32), (31 : Int32), (961 : Int32), (29791 : Int32), (923521 : Int32), (28629151 : Int32), (887503681 : Int32), (1742810335 : Int32), (-1807454463 : Int32)] := A82
  have N85 := Fr.snoc X82 N81 g_b47
  refine g_aload 191 X82 hx (hb hby at_189) rfl (v := (.ref b47)) rfl rfl ?_
  refine g_iload 193 X82 hx (hb hby at_191) rfl (v := z46) rfl ?_
  refine g_iaload 194 X82 hx hZ e82 A82' (z46.toInt.toNat) (own_nat0 hL.1) rfl (z := ([(1 : Int32), (31 : Int32), (961 : Int32), (29791 : Int32), (923521 : Int32), (28629151 : Int32), (887503681 : Int32), (1742810335 : Int32), (-1807454463 : Int32)].getD z46.toInt.toNat 0)) (own_get (by show _ < 9; omega)) (hb hby at_193) rfl ?_
  refine g_aloadN 195 X82 hx (hb hby at_194) rfl (v := (.ref b1)) rfl rfl ?_
  refine g_iload 197 X82 hx (hb hby at_195) rfl (v := z42) rfl ?_
  refine g_iload 199 X82 hx (hb hby at_197) rfl (v := z46) rfl ?_
  refine g_iconst 200 X82 hx (hb hby at_199) rfl (z := (0 : Int32)) rfl ?_
  refine g_aload 202 X82 hx (hb hby at_200) rfl (v := (.ref b47)) rfl rfl ?_
  have hq202_hs_86 : 0 ≤ z42.toInt := hS.1
  have hq202_hn_87 : 0 ≤ z46.toInt := hL.1
  have hq202_hsl_88 : z42.toInt + z46.toInt ≤ 8 := hL.2
  have hq202_hi_89 : 0 ≤ (0 : Int32).toInt ∧ (0 : Int32).toInt ≤ 8 := by decide
  have hq202_hl_90 : [z3.toInt8.toInt32, z8.toInt8.toInt32, z13.toInt8.toInt32, z18.toInt8.toInt32, z22.toInt8.toInt32, z27.toInt8.toInt32, z32.toInt8.toInt32, z37.toInt8.toInt32].length = 8 := rfl
  have hq202_hl5_91 : [(1 : Int32), (31 : Int32), (961 : Int32), (29791 : Int32), (923521 : Int32), (28629151 : Int32), (887503681 : Int32), (1742810335 : Int32), (-1807454463 : Int32)].length = 9 := rfl
  refine g_callS 205 X82 hx hZ (y := (⟨"com/example/prefixwood/prefixwood/huffman/LineTablePlainHashPinLaw", "term", "([BIII[I)I"⟩ : MethodName)) hown (hw _ (List.mem_of_getElem? (i := 2) rfl)) (hw _ (List.mem_of_getElem? (i := 3) rfl)) (hw _ (List.mem_of_getElem? (i := 4) rfl)) (hw _ (List.mem_of_getElem? (i := 5) rfl)) (by decide) e82 (rm1 l Z a0 hw [] b1 z42 z46 (0 : Int32) b47 [z3.toInt8.toInt32, z8.toInt8.toInt32, z13.toInt8.toInt32, z18.toInt8.toInt32, z22.toInt8.toInt32, z27.toInt8.toInt32, z32.toInt8.toInt32, z37.toInt8.toInt32] [(1 : Int32), (31 : Int32), (961 : Int32), (29791 : Int32), (923521 : Int32), (28629151 : Int32), (887503681 : Int32), (1742810335 : Int32), (-1807454463 : Int32)] h82 n0 Zs84 f83 A82' hq202_hs_86 hq202_hn_87 hq202_hsl_88 hq202_hi_89 hq202_hl_90 hq202_hl5_91) (by rw [hml]; rfl) [(.ref b1), (.int z42), (.int z46), (.int (0 : Int32)), (.ref b47)] [(.int ([(1 : Int32), (31 : Int32), (961 : Int32), (29791 : Int32), (923521 : Int32), (28629151 : Int32), (887503681 : Int32), (1742810335 : Int32), (-1807454463 : Int32)].getD z46.toInt.toNat 0))] rfl rfl (lenOf pd_0 rfl) 1 (Nat.le_of_eq rfl) (hb hby at_202) (by decide) (by decide) (by decide) (by decide) rfl ?_
  intro v86 T86 L86 X86 hQ86
  obtain ⟨r86, rfl, hr86, N86q, e86⟩ := hQ86
  have N86 := Fr.app N85 N86q
  show Go p e below s 16 128 (Q0 Z p1 p2 p3 h0 n0) T86 (mkF m 205 #[.val (.int p1), .val (.int p2), .val (.int p3), .val (.ref b1), .val (.int z42), .val (.int z46), .val (.ref b47), .unset, .unset] [(.int r86), (.int ([(1 : Int32), (31 : Int32), (961 : Int32), (29791 : Int32), (923521 : Int32), (28629151 : Int32), (887503681 : Int32), (1742810335 : Int32), (-1807454463 : Int32)].getD z46.toInt.toNat 0))])
  obtain ⟨z93, hz93⟩ : ∃ z : Int32, ([(1 : Int32), (31 : Int32), (961 : Int32), (29791 : Int32), (923521 : Int32), (28629151 : Int32), (887503681 : Int32), (1742810335 : Int32), (-1807454463 : Int32)].getD z46.toInt.toNat 0) + r86 = z := ⟨_, rfl⟩
  refine g_iadd 206 X86 hx (hb hby at_205) rfl (z := z93) hz93 ?_
  refine g_aloadN 207 X86 hx (hb hby at_206) rfl (v := (.ref b1)) rfl rfl ?_
  refine g_iload 209 X86 hx (hb hby at_207) rfl (v := z42) rfl ?_
  refine g_iload 211 X86 hx (hb hby at_209) rfl (v := z46) rfl ?_
  refine g_iconst 212 X86 hx (hb hby at_211) rfl (z := (1 : Int32)) rfl ?_
  refine g_aload 214 X86 hx (hb hby at_212) rfl (v := (.ref b47)) rfl rfl ?_
  have hq214_hs_94 : 0 ≤ z42.toInt := hS.1
  have hq214_hn_95 : 0 ≤ z46.toInt := hL.1
  have hq214_hsl_96 : z42.toInt + z46.toInt ≤ 8 := hL.2
  have hq214_hi_97 : 0 ≤ (1 : Int32).toInt ∧ (1 : Int32).toInt ≤ 8 := by decide
  have hq214_hl_98 : [z3.toInt8.toInt32, z8.toInt8.toInt32, z13.toInt8.toInt32, z18.toInt8.toInt32, z22.toInt8.toInt32, z27.toInt8.toInt32, z32.toInt8.toInt32, z37.toInt8.toInt32].length = 8 := rfl
  have hq214_hl5_99 : [(1 : Int32), (31 : Int32), (961 : Int32), (29791 : Int32), (923521 : Int32), (28629151 : Int32), (887503681 : Int32), (1742810335 : Int32), (-1807454463 : Int32)].length = 9 := rfl
  refine g_callS 217 X86 hx hZ (y := (⟨"com/example/prefixwood/prefixwood/huffman/LineTablePlainHashPinLaw", "term", "([BIII[I)I"⟩ : MethodName)) hown (hw _ (List.mem_of_getElem? (i := 2) rfl)) (hw _ (List.mem_of_getElem? (i := 3) rfl)) (hw _ (List.mem_of_getElem? (i := 4) rfl)) (hw _ (List.mem_of_getElem? (i := 5) rfl)) (by decide) e86 (rm1 l Z a0 hw [] b1 z42 z46 (1 : Int32) b47 [z3.toInt8.toInt32, z8.toInt8.toInt32, z13.toInt8.toInt32, z18.toInt8.toInt32, z22.toInt8.toInt32, z27.toInt8.toInt32, z32.toInt8.toInt32, z37.toInt8.toInt32] [(1 : Int32), (31 : Int32), (961 : Int32), (29791 : Int32), (923521 : Int32), (28629151 : Int32), (887503681 : Int32), (1742810335 : Int32), (-1807454463 : Int32)] h82 n0 Zs84 f83 A82' hq214_hs_94 hq214_hn_95 hq214_hsl_96 hq214_hi_97 hq214_hl_98 hq214_hl5_99) (by rw [hml]; rfl) [(.ref b1), (.int z42), (.int z46), (.int (1 : Int32)), (.ref b47)] [(.int z93)] rfl rfl (lenOf pd_0 rfl) 1 (Nat.le_of_eq rfl) (hb hby at_214) (by decide) (by decide) (by decide) (by decide) rfl ?_
  intro v94 T94 L94 X94 hQ94
  obtain ⟨r94, rfl, hr94, N94q, e94⟩ := hQ94
  have N94 := Fr.app N86 N94q
  show Go p e below s 16 128 (Q0 Z p1 p2 p3 h0 n0) T94 (mkF m 217 #[.val (.int p1), .val (.int p2), .val (.int p3), .val (.ref b1), .val (.int z42), .val (.int z46), .val (.ref b47), .unset, .unset] [(.int r94), (.int z93)])
  obtain ⟨z101, hz101⟩ : ∃ z : Int32, z93 + r94 = z := ⟨_, rfl⟩
  refine g_iadd 218 X94 hx (hb hby at_217) rfl (z := z101) hz101 ?_
  refine g_aloadN 219 X94 hx (hb hby at_218) rfl (v := (.ref b1)) rfl rfl ?_
  refine g_iload 221 X94 hx (hb hby at_219) rfl (v := z42) rfl ?_
  refine g_iload 223 X94 hx (hb hby at_221) rfl (v := z46) rfl ?_
  refine g_iconst 224 X94 hx (hb hby at_223) rfl (z := (2 : Int32)) rfl ?_
  refine g_aload 226 X94 hx (hb hby at_224) rfl (v := (.ref b47)) rfl rfl ?_
  have hq226_hs_102 : 0 ≤ z42.toInt := hS.1
  have hq226_hn_103 : 0 ≤ z46.toInt := hL.1
  have hq226_hsl_104 : z42.toInt + z46.toInt ≤ 8 := hL.2
  have hq226_hi_105 : 0 ≤ (2 : Int32).toInt ∧ (2 : Int32).toInt ≤ 8 := by decide
  have hq226_hl_106 : [z3.toInt8.toInt32, z8.toInt8.toInt32, z13.toInt8.toInt32, z18.toInt8.toInt32, z22.toInt8.toInt32, z27.toInt8.toInt32, z32.toInt8.toInt32, z37.toInt8.toInt32].length = 8 := rfl
  have hq226_hl5_107 : [(1 : Int32), (31 : Int32), (961 : Int32), (29791 : Int32), (923521 : Int32), (28629151 : Int32), (887503681 : Int32), (1742810335 : Int32), (-1807454463 : Int32)].length = 9 := rfl
  refine g_callS 229 X94 hx hZ (y := (⟨"com/example/prefixwood/prefixwood/huffman/LineTablePlainHashPinLaw", "term", "([BIII[I)I"⟩ : MethodName)) hown (hw _ (List.mem_of_getElem? (i := 2) rfl)) (hw _ (List.mem_of_getElem? (i := 3) rfl)) (hw _ (List.mem_of_getElem? (i := 4) rfl)) (hw _ (List.mem_of_getElem? (i := 5) rfl)) (by decide) e94 (rm1 l Z a0 hw [] b1 z42 z46 (2 : Int32) b47 [z3.toInt8.toInt32, z8.toInt8.toInt32, z13.toInt8.toInt32, z18.toInt8.toInt32, z22.toInt8.toInt32, z27.toInt8.toInt32, z32.toInt8.toInt32, z37.toInt8.toInt32] [(1 : Int32), (31 : Int32), (961 : Int32), (29791 : Int32), (923521 : Int32), (28629151 : Int32), (887503681 : Int32), (1742810335 : Int32), (-1807454463 : Int32)] h82 n0 Zs84 f83 A82' hq226_hs_102 hq226_hn_103 hq226_hsl_104 hq226_hi_105 hq226_hl_106 hq226_hl5_107) (by rw [hml]; rfl) [(.ref b1), (.int z42), (.int z46), (.int (2 : Int32)), (.ref b47)] [(.int z101)] rfl rfl (lenOf pd_0 rfl) 1 (Nat.le_of_eq rfl) (hb hby at_226) (by decide) (by decide) (by decide) (by decide) rfl ?_
  intro v102 T102 L102 X102 hQ102
  obtain ⟨r102, rfl, hr102, N102q, e102⟩ := hQ102
  have N102 := Fr.app N94 N102q
  show Go p e below s 16 128 (Q0 Z p1 p2 p3 h0 n0) T102 (mkF m 229 #[.val (.int p1), .val (.int p2), .val (.int p3), .val (.ref b1), .val (.int z42), .val (.int z46), .val (.ref b47), .unset, .unset] [(.int r102), (.int z101)])
  obtain ⟨z109, hz109⟩ : ∃ z : Int32, z101 + r102 = z := ⟨_, rfl⟩
  refine g_iadd 230 X102 hx (hb hby at_229) rfl (z := z109) hz109 ?_
  refine g_aloadN 231 X102 hx (hb hby at_230) rfl (v := (.ref b1)) rfl rfl ?_
  refine g_iload 233 X102 hx (hb hby at_231) rfl (v := z42) rfl ?_
  refine g_iload 235 X102 hx (hb hby at_233) rfl (v := z46) rfl ?_
  refine g_iconst 236 X102 hx (hb hby at_235) rfl (z := (3 : Int32)) rfl ?_
  refine g_aload 238 X102 hx (hb hby at_236) rfl (v := (.ref b47)) rfl rfl ?_
  have hq238_hs_110 : 0 ≤ z42.toInt := hS.1
  have hq238_hn_111 : 0 ≤ z46.toInt := hL.1
  have hq238_hsl_112 : z42.toInt + z46.toInt ≤ 8 := hL.2
  have hq238_hi_113 : 0 ≤ (3 : Int32).toInt ∧ (3 : Int32).toInt ≤ 8 := by decide
  have hq238_hl_114 : [z3.toInt8.toInt32, z8.toInt8.toInt32, z13.toInt8.toInt32, z18.toInt8.toInt32, z22.toInt8.toInt32, z27.toInt8.toInt32, z32.toInt8.toInt32, z37.toInt8.toInt32].length = 8 := rfl
  have hq238_hl5_115 : [(1 : Int32), (31 : Int32), (961 : Int32), (29791 : Int32), (923521 : Int32), (28629151 : Int32), (887503681 : Int32), (1742810335 : Int32), (-1807454463 : Int32)].length = 9 := rfl
  refine g_callS 241 X102 hx hZ (y := (⟨"com/example/prefixwood/prefixwood/huffman/LineTablePlainHashPinLaw", "term", "([BIII[I)I"⟩ : MethodName)) hown (hw _ (List.mem_of_getElem? (i := 2) rfl)) (hw _ (List.mem_of_getElem? (i := 3) rfl)) (hw _ (List.mem_of_getElem? (i := 4) rfl)) (hw _ (List.mem_of_getElem? (i := 5) rfl)) (by decide) e102 (rm1 l Z a0 hw [] b1 z42 z46 (3 : Int32) b47 [z3.toInt8.toInt32, z8.toInt8.toInt32, z13.toInt8.toInt32, z18.toInt8.toInt32, z22.toInt8.toInt32, z27.toInt8.toInt32, z32.toInt8.toInt32, z37.toInt8.toInt32] [(1 : Int32), (31 : Int32), (961 : Int32), (29791 : Int32), (923521 : Int32), (28629151 : Int32), (887503681 : Int32), (1742810335 : Int32), (-1807454463 : Int32)] h82 n0 Zs84 f83 A82' hq238_hs_110 hq238_hn_111 hq238_hsl_112 hq238_hi_113 hq238_hl_114 hq238_hl5_115) (by rw [hml]; rfl) [(.ref b1), (.int z42), (.int z46), (.int (3 : Int32)), (.ref b47)] [(.int z109)] rfl rfl (lenOf pd_0 rfl) 1 (Nat.le_of_eq rfl) (hb hby at_238) (by decide) (by decide) (by decide) (by decide) rfl ?_
  intro v110 T110 L110 X110 hQ110
  obtain ⟨r110, rfl, hr110, N110q, e110⟩ := hQ110
  have N110 := Fr.app N102 N110q
  show Go p e below s 16 128 (Q0 Z p1 p2 p3 h0 n0) T110 (mkF m 241 #[.val (.int p1), .val (.int p2), .val (.int p3), .val (.ref b1), .val (.int z42), .val (.int z46), .val (.ref b47), .unset, .unset] [(.int r110), (.int z109)])
  obtain ⟨z117, hz117⟩ : ∃ z : Int32, z109 + r110 = z := ⟨_, rfl⟩
  refine g_iadd 242 X110 hx (hb hby at_241) rfl (z := z117) hz117 ?_
  refine g_aloadN 243 X110 hx (hb hby at_242) rfl (v := (.ref b1)) rfl rfl ?_
  refine g_iload 245 X110 hx (hb hby at_243) rfl (v := z42) rfl ?_
  refine g_iload 247 X110 hx (hb hby at_245) rfl (v := z46) rfl ?_
  refine g_iconst 248 X110 hx (hb hby at_247) rfl (z := (4 : Int32)) rfl ?_
  refine g_aload 250 X110 hx (hb hby at_248) rfl (v := (.ref b47)) rfl rfl ?_
  have hq250_hs_118 : 0 ≤ z42.toInt := hS.1
  have hq250_hn_119 : 0 ≤ z46.toInt := hL.1
  have hq250_hsl_120 : z42.toInt + z46.toInt ≤ 8 := hL.2
  have hq250_hi_121 : 0 ≤ (4 : Int32).toInt ∧ (4 : Int32).toInt ≤ 8 := by decide
  have hq250_hl_122 : [z3.toInt8.toInt32, z8.toInt8.toInt32, z13.toInt8.toInt32, z18.toInt8.toInt32, z22.toInt8.toInt32, z27.toInt8.toInt32, z32.toInt8.toInt32, z37.toInt8.toInt32].length = 8 := rfl
  have hq250_hl5_123 : [(1 : Int32), (31 : Int32), (961 : Int32), (29791 : Int32), (923521 : Int32), (28629151 : Int32), (887503681 : Int32), (1742810335 : Int32), (-1807454463 : Int32)].length = 9 := rfl
  refine g_callS 253 X110 hx hZ (y := (⟨"com/example/prefixwood/prefixwood/huffman/LineTablePlainHashPinLaw", "term", "([BIII[I)I"⟩ : MethodName)) hown (hw _ (List.mem_of_getElem? (i := 2) rfl)) (hw _ (List.mem_of_getElem? (i := 3) rfl)) (hw _ (List.mem_of_getElem? (i := 4) rfl)) (hw _ (List.mem_of_getElem? (i := 5) rfl)) (by decide) e110 (rm1 l Z a0 hw [] b1 z42 z46 (4 : Int32) b47 [z3.toInt8.toInt32, z8.toInt8.toInt32, z13.toInt8.toInt32, z18.toInt8.toInt32, z22.toInt8.toInt32, z27.toInt8.toInt32, z32.toInt8.toInt32, z37.toInt8.toInt32] [(1 : Int32), (31 : Int32), (961 : Int32), (29791 : Int32), (923521 : Int32), (28629151 : Int32), (887503681 : Int32), (1742810335 : Int32), (-1807454463 : Int32)] h82 n0 Zs84 f83 A82' hq250_hs_118 hq250_hn_119 hq250_hsl_120 hq250_hi_121 hq250_hl_122 hq250_hl5_123) (by rw [hml]; rfl) [(.ref b1), (.int z42), (.int z46), (.int (4 : Int32)), (.ref b47)] [(.int z117)] rfl rfl (lenOf pd_0 rfl) 1 (Nat.le_of_eq rfl) (hb hby at_250) (by decide) (by decide) (by decide) (by decide) rfl ?_
  intro v118 T118 L118 X118 hQ118
  obtain ⟨r118, rfl, hr118, N118q, e118⟩ := hQ118
  have N118 := Fr.app N110 N118q
  show Go p e below s 16 128 (Q0 Z p1 p2 p3 h0 n0) T118 (mkF m 253 #[.val (.int p1), .val (.int p2), .val (.int p3), .val (.ref b1), .val (.int z42), .val (.int z46), .val (.ref b47), .unset, .unset] [(.int r118), (.int z117)])
  obtain ⟨z125, hz125⟩ : ∃ z : Int32, z117 + r118 = z := ⟨_, rfl⟩
  refine g_iadd 254 X118 hx (hb hby at_253) rfl (z := z125) hz125 ?_
  refine g_aloadN 255 X118 hx (hb hby at_254) rfl (v := (.ref b1)) rfl rfl ?_
  refine g_iload 257 X118 hx (hb hby at_255) rfl (v := z42) rfl ?_
  refine g_iload 259 X118 hx (hb hby at_257) rfl (v := z46) rfl ?_
  refine g_iconst 260 X118 hx (hb hby at_259) rfl (z := (5 : Int32)) rfl ?_
  refine g_aload 262 X118 hx (hb hby at_260) rfl (v := (.ref b47)) rfl rfl ?_
  have hq262_hs_126 : 0 ≤ z42.toInt := hS.1
  have hq262_hn_127 : 0 ≤ z46.toInt := hL.1
  have hq262_hsl_128 : z42.toInt + z46.toInt ≤ 8 := hL.2
  have hq262_hi_129 : 0 ≤ (5 : Int32).toInt ∧ (5 : Int32).toInt ≤ 8 := by decide
  have hq262_hl_130 : [z3.toInt8.toInt32, z8.toInt8.toInt32, z13.toInt8.toInt32, z18.toInt8.toInt32, z22.toInt8.toInt32, z27.toInt8.toInt32, z32.toInt8.toInt32, z37.toInt8.toInt32].length = 8 := rfl
  have hq262_hl5_131 : [(1 : Int32), (31 : Int32), (961 : Int32), (29791 : Int32), (923521 : Int32), (28629151 : Int32), (887503681 : Int32), (1742810335 : Int32), (-1807454463 : Int32)].length = 9 := rfl
  refine g_callS 265 X118 hx hZ (y := (⟨"com/example/prefixwood/prefixwood/huffman/LineTablePlainHashPinLaw", "term", "([BIII[I)I"⟩ : MethodName)) hown (hw _ (List.mem_of_getElem? (i := 2) rfl)) (hw _ (List.mem_of_getElem? (i := 3) rfl)) (hw _ (List.mem_of_getElem? (i := 4) rfl)) (hw _ (List.mem_of_getElem? (i := 5) rfl)) (by decide) e118 (rm1 l Z a0 hw [] b1 z42 z46 (5 : Int32) b47 [z3.toInt8.toInt32, z8.toInt8.toInt32, z13.toInt8.toInt32, z18.toInt8.toInt32, z22.toInt8.toInt32, z27.toInt8.toInt32, z32.toInt8.toInt32, z37.toInt8.toInt32] [(1 : Int32), (31 : Int32), (961 : Int32), (29791 : Int32), (923521 : Int32), (28629151 : Int32), (887503681 : Int32), (1742810335 : Int32), (-1807454463 : Int32)] h82 n0 Zs84 f83 A82' hq262_hs_126 hq262_hn_127 hq262_hsl_128 hq262_hi_129 hq262_hl_130 hq262_hl5_131) (by rw [hml]; rfl) [(.ref b1), (.int z42), (.int z46), (.int (5 : Int32)), (.ref b47)] [(.int z125)] rfl rfl (lenOf pd_0 rfl) 1 (Nat.le_of_eq rfl) (hb hby at_262) (by decide) (by decide) (by decide) (by decide) rfl ?_
  intro v126 T126 L126 X126 hQ126
  obtain ⟨r126, rfl, hr126, N126q, e126⟩ := hQ126
  have N126 := Fr.app N118 N126q
  show Go p e below s 16 128 (Q0 Z p1 p2 p3 h0 n0) T126 (mkF m 265 #[.val (.int p1), .val (.int p2), .val (.int p3), .val (.ref b1), .val (.int z42), .val (.int z46), .val (.ref b47), .unset, .unset] [(.int r126), (.int z125)])
  obtain ⟨z133, hz133⟩ : ∃ z : Int32, z125 + r126 = z := ⟨_, rfl⟩
  refine g_iadd 266 X126 hx (hb hby at_265) rfl (z := z133) hz133 ?_
  refine g_aloadN 267 X126 hx (hb hby at_266) rfl (v := (.ref b1)) rfl rfl ?_
  refine g_iload 269 X126 hx (hb hby at_267) rfl (v := z42) rfl ?_
  refine g_iload 271 X126 hx (hb hby at_269) rfl (v := z46) rfl ?_
  refine g_bipush 273 X126 hx (hb hby at_271) rfl (z := (6 : Int32)) rfl ?_
  refine g_aload 275 X126 hx (hb hby at_273) rfl (v := (.ref b47)) rfl rfl ?_
  have hq275_hs_134 : 0 ≤ z42.toInt := hS.1
  have hq275_hn_135 : 0 ≤ z46.toInt := hL.1
  have hq275_hsl_136 : z42.toInt + z46.toInt ≤ 8 := hL.2
  have hq275_hi_137 : 0 ≤ (6 : Int32).toInt ∧ (6 : Int32).toInt ≤ 8 := by decide
  have hq275_hl_138 : [z3.toInt8.toInt32, z8.toInt8.toInt32, z13.toInt8.toInt32, z18.toInt8.toInt32, z22.toInt8.toInt32, z27.toInt8.toInt32, z32.toInt8.toInt32, z37.toInt8.toInt32].length = 8 := rfl
  have hq275_hl5_139 : [(1 : Int32), (31 : Int32), (961 : Int32), (29791 : Int32), (923521 : Int32), (28629151 : Int32), (887503681 : Int32), (1742810335 : Int32), (-1807454463 : Int32)].length = 9 := rfl
  refine g_callS 278 X126 hx hZ (y := (⟨"com/example/prefixwood/prefixwood/huffman/LineTablePlainHashPinLaw", "term", "([BIII[I)I"⟩ : MethodName)) hown (hw _ (List.mem_of_getElem? (i := 2) rfl)) (hw _ (List.mem_of_getElem? (i := 3) rfl)) (hw _ (List.mem_of_getElem? (i := 4) rfl)) (hw _ (List.mem_of_getElem? (i := 5) rfl)) (by decide) e126 (rm1 l Z a0 hw [] b1 z42 z46 (6 : Int32) b47 [z3.toInt8.toInt32, z8.toInt8.toInt32, z13.toInt8.toInt32, z18.toInt8.toInt32, z22.toInt8.toInt32, z27.toInt8.toInt32, z32.toInt8.toInt32, z37.toInt8.toInt32] [(1 : Int32), (31 : Int32), (961 : Int32), (29791 : Int32), (923521 : Int32), (28629151 : Int32), (887503681 : Int32), (1742810335 : Int32), (-1807454463 : Int32)] h82 n0 Zs84 f83 A82' hq275_hs_134 hq275_hn_135 hq275_hsl_136 hq275_hi_137 hq275_hl_138 hq275_hl5_139) (by rw [hml]; rfl) [(.ref b1), (.int z42), (.int z46), (.int (6 : Int32)), (.ref b47)] [(.int z133)] rfl rfl (lenOf pd_0 rfl) 1 (Nat.le_of_eq rfl) (hb hby at_275) (by decide) (by decide) (by decide) (by decide) rfl ?_
  intro v134 T134 L134 X134 hQ134
  obtain ⟨r134, rfl, hr134, N134q, e134⟩ := hQ134
  have N134 := Fr.app N126 N134q
  show Go p e below s 16 128 (Q0 Z p1 p2 p3 h0 n0) T134 (mkF m 278 #[.val (.int p1), .val (.int p2), .val (.int p3), .val (.ref b1), .val (.int z42), .val (.int z46), .val (.ref b47), .unset, .unset] [(.int r134), (.int z133)])
  obtain ⟨z141, hz141⟩ : ∃ z : Int32, z133 + r134 = z := ⟨_, rfl⟩
  refine g_iadd 279 X134 hx (hb hby at_278) rfl (z := z141) hz141 ?_
  refine g_aloadN 280 X134 hx (hb hby at_279) rfl (v := (.ref b1)) rfl rfl ?_
  refine g_iload 282 X134 hx (hb hby at_280) rfl (v := z42) rfl ?_
  refine g_iload 284 X134 hx (hb hby at_282) rfl (v := z46) rfl ?_
  refine g_bipush 286 X134 hx (hb hby at_284) rfl (z := (7 : Int32)) rfl ?_
  refine g_aload 288 X134 hx (hb hby at_286) rfl (v := (.ref b47)) rfl rfl ?_
  have hq288_hs_142 : 0 ≤ z42.toInt := hS.1
  have hq288_hn_143 : 0 ≤ z46.toInt := hL.1
  have hq288_hsl_144 : z42.toInt + z46.toInt ≤ 8 := hL.2
  have hq288_hi_145 : 0 ≤ (7 : Int32).toInt ∧ (7 : Int32).toInt ≤ 8 := by decide
  have hq288_hl_146 : [z3.toInt8.toInt32, z8.toInt8.toInt32, z13.toInt8.toInt32, z18.toInt8.toInt32, z22.toInt8.toInt32, z27.toInt8.toInt32, z32.toInt8.toInt32, z37.toInt8.toInt32].length = 8 := rfl
  have hq288_hl5_147 : [(1 : Int32), (31 : Int32), (961 : Int32), (29791 : Int32), (923521 : Int32), (28629151 : Int32), (887503681 : Int32), (1742810335 : Int32), (-1807454463 : Int32)].length = 9 := rfl
  refine g_callS 291 X134 hx hZ (y := (⟨"com/example/prefixwood/prefixwood/huffman/LineTablePlainHashPinLaw", "term", "([BIII[I)I"⟩ : MethodName)) hown (hw _ (List.mem_of_getElem? (i := 2) rfl)) (hw _ (List.mem_of_getElem? (i := 3) rfl)) (hw _ (List.mem_of_getElem? (i := 4) rfl)) (hw _ (List.mem_of_getElem? (i := 5) rfl)) (by decide) e134 (rm1 l Z a0 hw [] b1 z42 z46 (7 : Int32) b47 [z3.toInt8.toInt32, z8.toInt8.toInt32, z13.toInt8.toInt32, z18.toInt8.toInt32, z22.toInt8.toInt32, z27.toInt8.toInt32, z32.toInt8.toInt32, z37.toInt8.toInt32] [(1 : Int32), (31 : Int32), (961 : Int32), (29791 : Int32), (923521 : Int32), (28629151 : Int32), (887503681 : Int32), (1742810335 : Int32), (-1807454463 : Int32)] h82 n0 Zs84 f83 A82' hq288_hs_142 hq288_hn_143 hq288_hsl_144 hq288_hi_145 hq288_hl_146 hq288_hl5_147) (by rw [hml]; rfl) [(.ref b1), (.int z42), (.int z46), (.int (7 : Int32)), (.ref b47)] [(.int z141)] rfl rfl (lenOf pd_0 rfl) 1 (Nat.le_of_eq rfl) (hb hby at_288) (by decide) (by decide) (by decide) (by decide) rfl ?_
  intro v142 T142 L142 X142 hQ142
  obtain ⟨r142, rfl, hr142, N142q, e142⟩ := hQ142
  have N142 := Fr.app N134 N142q
  show Go p e below s 16 128 (Q0 Z p1 p2 p3 h0 n0) T142 (mkF m 291 #[.val (.int p1), .val (.int p2), .val (.int p3), .val (.ref b1), .val (.int z42), .val (.int z46), .val (.ref b47), .unset, .unset] [(.int r142), (.int z141)])
  obtain ⟨z149, hz149⟩ : ∃ z : Int32, z141 + r142 = z := ⟨_, rfl⟩
  refine g_iadd 292 X142 hx (hb hby at_291) rfl (z := z149) hz149 ?_
  refine g_istore 294 X142 hx (hb hby at_292) rfl (Ls' := #[.val (.int p1), .val (.int p2), .val (.int p3), .val (.ref b1), .val (.int z42), .val (.int z46), .val (.ref b47), .val (.int z149), .unset]) rfl ?_
  refine g_iload 296 X142 hx (hb hby at_294) rfl (v := z149) rfl ?_
  refine g_callS 299 X142 hx hZ (y := (⟨"com/example/prefixwood/prefixwood/huffman/LineTablePlainHashPinLaw", "mix", "(I)I"⟩ : MethodName)) hown (hw _ (List.mem_of_getElem? (i := 6) rfl)) (hw _ (List.mem_of_getElem? (i := 7) rfl)) (hw _ (List.mem_of_getElem? (i := 4) rfl)) (hw _ (List.mem_of_getElem? (i := 8) rfl)) (by decide) e142 (rm2 l Z a0 hw [] z149  h82 n0 Zs84 ) (by rw [hml]; rfl) [(.int z149)] [] rfl rfl (lenOf pd_1 rfl) 0 (Nat.le_of_eq rfl) (hb hby at_296) (by decide) (by decide) (by decide) (by decide) rfl ?_
  intro v150 T150 L150 X150 hQ150
  obtain ⟨r150, rfl, hr150, N150q, e150⟩ := hQ150
  have N150 := Fr.app N142 N150q
  show Go p e below s 16 128 (Q0 Z p1 p2 p3 h0 n0) T150 (mkF m 299 #[.val (.int p1), .val (.int p2), .val (.int p3), .val (.ref b1), .val (.int z42), .val (.int z46), .val (.ref b47), .val (.int z149), .unset] [(.int r150)])
  refine g_istore 301 X150 hx (hb hby at_299) rfl (Ls' := #[.val (.int p1), .val (.int p2), .val (.int p3), .val (.ref b1), .val (.int z42), .val (.int z46), .val (.ref b47), .val (.int z149), .val (.int r150)]) rfl ?_
  refine g_aloadN 302 X150 hx (hb hby at_301) rfl (v := (.ref b1)) rfl rfl ?_
  refine g_iload 304 X150 hx (hb hby at_302) rfl (v := z42) rfl ?_
  refine g_iload 306 X150 hx (hb hby at_304) rfl (v := z46) rfl ?_
  have hq306_hs_151 : 0 ≤ z42.toInt := hS.1
  have hq306_hn_152 : 0 ≤ z46.toInt := hL.1
  have hq306_hsl_153 : z42.toInt + z46.toInt ≤ 8 := hL.2
  have hq306_hl_154 : [z3.toInt8.toInt32, z8.toInt8.toInt32, z13.toInt8.toInt32, z18.toInt8.toInt32, z22.toInt8.toInt32, z27.toInt8.toInt32, z32.toInt8.toInt32, z37.toInt8.toInt32].length = 8 := rfl
  refine g_callS 309 X150 hx hZ (y := (⟨"com/example/prefixwood/prefixwood/huffman/LineTable", "plainHash", "([BII)I"⟩ : MethodName)) hown (hw _ (List.mem_of_getElem? (i := 10) rfl)) (hw _ (List.mem_of_getElem? (i := 11) rfl)) (hw _ (List.mem_of_getElem? (i := 12) rfl)) (hw _ (List.mem_of_getElem? (i := 13) rfl)) (by decide) e150 (rm3 l Z a0 hw [] b1 z42 z46 [z3.toInt8.toInt32, z8.toInt8.toInt32, z13.toInt8.toInt32, z18.toInt8.toInt32, z22.toInt8.toInt32, z27.toInt8.toInt32, z32.toInt8.toInt32, z37.toInt8.toInt32] h82 n0 Zs84 f83 hq306_hs_151 hq306_hn_152 hq306_hsl_153 hq306_hl_154) (by rw [hml]; rfl) [(.ref b1), (.int z42), (.int z46)] [] rfl rfl (lenOf pd_2 rfl) 0 (Nat.le_of_eq rfl) (hb hby at_306) (by decide) (by decide) (by decide) (by decide) rfl ?_
  intro v151 T151 L151 X151 hQ151
  obtain ⟨r151, rfl, hr151, N151q, e151⟩ := hQ151
  have N151 := Fr.app N150 N151q
  show Go p e below s 16 128 (Q0 Z p1 p2 p3 h0 n0) T151 (mkF m 309 #[.val (.int p1), .val (.int p2), .val (.int p3), .val (.ref b1), .val (.int z42), .val (.int z46), .val (.ref b47), .val (.int z149), .val (.int r150)] [(.int r151)])
  refine g_iload 311 X151 hx (hb hby at_309) rfl (v := r150) rfl ?_
  suffices Jhj158 : ∀ (z157 : Int32), ((r151 = r150 ∧ z157 = (1 : Int32)) ∨ (¬ (r151 = r150) ∧ z157 = (0 : Int32))) → Go p e below s 16 128 (Q0 Z p1 p2 p3 h0 n0) T151 (mkF m 319 #[.val (.int p1), .val (.int p2), .val (.int p3), .val (.ref b1), .val (.int z42), .val (.int z46), .val (.ref b47), .val (.int z149), .val (.int r150)] [(.int z157)]) by
    by_cases hc311_155 : r151 = r150
    ·
      refine g_icmpNo 314 X151 hx (hb hby at_311)  (teq hc311_155).2 rfl ?_
      refine g_iconst 315 X151 hx (hb hby at_314) rfl (z := (1 : Int32)) rfl ?_
      refine g_goto 319 X151 hx (hb hby at_315) (by decide) (by decide) ?_
      exact Jhj158 (1 : Int32) (Or.inl ⟨hc311_155, rfl⟩)
    ·
      refine g_icmpYes 318 X151 hx (hb hby at_311)  (feq hc311_155).2 (by decide) (by decide) ?_
      refine g_iconst 319 X151 hx (hb hby at_318) rfl (z := (0 : Int32)) rfl ?_
      exact Jhj158 (0 : Int32) (Or.inr (⟨hc311_155, rfl⟩))
  intro z157 hj158
  have hl0 : z157 = 1 := leaf_0 p1 p2 p3 z3 z8 z13 z18 z22 z27 z32 z37 z42 z46 r86 z93 r94 z101 r102 z109 r110 z117 r118 z125 r126 z133 r134 z141 r142 z149 r150 r151 z157 hS hL hr86 hz93 hr94 hz101 hr102 hz109 hr110 hz117 hr118 hz125 hr126 hz133 hr134 hz141 hr142 hz149 hr150 hr151 hj158
  subst hl0
  exact g_retN X151 hx (t := .boolean) Bd.returns hlk (by simp) rfl (hb hby at_319) (by decide) (by decide) ⟨rfl, N151⟩
set_option maxRecDepth 65536 in
set_option maxHeartbeats 40000000 in
theorem comes_1 {Post : Tables → Env → Array Value → State → Outcome → State → Prop} (hpost : ∀ tb e args s v u, (limb_1_1.after args s (.returned v) u = true ∧ limb_1_2.after args s (.returned v) u = true ∧ True) → FrameEnd s (.returned v) u (Jvm.fieldLocs frame_1_writes args s ++ Jvm.arrayLocs frame_1_arrays args s ++ Jvm.staticLocs frame_1_statics s) 16 128 → Post tb e args s (.returned v) u) :
    ArmFor flags0 classFile x code maxLocals ret World_1 tables_1 room_1 Calls_1 rest_1 Pre_1 Post := by
  intro l hfl _ _ p e ha hc hk s m args below hf hA hF happ hP
  obtain ⟨hcalls, hrest, hpre⟩ := hP
  obtain ⟨-, -, -, hnamed, -, -, -, hat⟩ := (Spec.applies_iff hf).mp happ
  obtain ⟨hg, hn⟩ := and_e (Cond.before_iff.mp (show (Jvm.Cond.and given_1 narrow_1).before args s = true from hpre))
  obtain ⟨hcount, r0⟩ := and_e hg
  obtain ⟨ga0, r1⟩ := and_e r0
  obtain ⟨ga1, r2⟩ := and_e r1
  obtain ⟨w0, w1, w2, rfl⟩ : ∃ w0 w1 w2 : Value, args = #[w0, w1, w2] := by
    have hs : args.size = 3 := by simpa [Cond.value, given_1] using hcount
    obtain ⟨L⟩ := args
    match L, hs with
    | [w0, w1, w2], _ => exact ⟨w0, w1, w2, rfl⟩
  have hw := fun d (hd : d ∈ tables_1) => atoms_spec (ws := Jvm.Cond.code x code maxLocals ret :: tables_1) hat d (List.mem_cons_of_mem _ hd)
  obtain ⟨i0, ei0⟩ := is_v ga0
  obtain rfl : w0 = (.int i0) := Option.some.inj ei0
  obtain ⟨i1, ei1⟩ := is_v ga1
  obtain rfl : w1 = (.int i1) := Option.some.inj ei1
  obtain ⟨i2, ei2⟩ := is_v r2
  obtain rfl : w2 = (.int i2) := Option.some.inj ei2
  obtain ⟨n, o, h1, h2, h3, _, L, rfl, ⟨rfl, N⟩, hq⟩ := rm0 l s _ hw tables_1 i0 i1 i2 s.heap s.heap.size (Nat.le_refl _)  p e ha hc hk s m _ below hf ((Spec.applies_iff_loose hf).mp happ).1 ⟨rfl, State.Warmed39.refl s, rfl⟩ trivial
  exact ⟨n, _, h1, h2, h3, hpost _ _ _ _ _ _ ⟨Cond.after_iff.mpr rfl, Cond.after_iff.mpr (eq_i res_at (Term.int_eval (1)) rfl), trivial⟩ ⟨hq.1, hq.2.1, (hq.2.2.sift fun y hy => Or.inr (N y hy)).mono (by decide) (by decide)⟩⟩
theorem main_1_1 : Claimed_1_1 := comes_1 fun _ _ _ _ _ _ h hF => ⟨h.1, hF⟩
theorem main_1_2 : Claimed_1_2 := comes_1 fun _ _ _ _ _ _ h hF => ⟨h.2.1, hF⟩
end Jvm.Pilot.@@N@@
namespace Jvm.Pilot.@@N@@
open Jvm Jvm.ClassFile Sem Op Lib Jvm.Free Jvm.Stand Jvm.Pilot.@@N@@.Jvm.D
/-! MADE BY PROGRAM (witnessworld.py) out of the Statement's table words and the real class files: 9 classes; the members and pool entries that the words name. The judged class is class 1, her method 1. -/
namespace start1
open Jvm.ClassFile
def u (s : String) : CpInfo := .utf8 (stringToUtf16 s)
/-- a pool by its gaps: so many unusable entries, then the entry; so many at the end -/
def gap : Nat → List CpInfo → List CpInfo
  | 0, r => r
  | n + 1, r => .unusable :: gap n r
def poolList (es : List (Nat × CpInfo)) (last : Nat) : List CpInfo := es.foldr (fun e r => gap e.1 (e.2 :: r)) (gap last [])
def pool (es : List (Nat × CpInfo)) (last : Nat) : Array CpInfo := ⟨poolList es last⟩
def fileOf (pool : Array CpInfo) (this : Nat) (attrs : Array Attribute := #[]) (ms : Array MethodInfo := #[]) (fl : Nat := 33) (sup : Nat := 0) (ifs : Array Nat := #[]) (fds : Array FieldInfo := #[]) : ClassFile where
  minorVersion := 0
  majorVersion := 65
  constantPool := pool
  accessFlags := fl
  thisClass := this
  superClass := sup
  interfaces := ifs
  fields := fds
  methods := ms
  attributes := attrs
def plain (name : String) (sup : Option ClassId) : Class where
  name := name
  kind := .ordinary
  loader := none
  accessFlags := 33
  super := sup
  interfaces := #[]
  cf := none
  fields := #[]
  methods := #[]
  instanceTypes := #[]
  staticTypes := #[]
  resolved := #[]
  callSites := []
  init := .initialized
  statics := none
  mirror := none

def pool0 : Array CpInfo := pool [(5, u "<init>"), (0, u "()V"), (1, .class_ 10), (1, u "java/lang/Object")] 113

def k0m0 : Method := { name := "<init>", desc := "()V", sig := { parameters := [], returnType := none }, accessFlags := 1, code := none }
/-- java/lang/Object -/
def k0 : Class := { plain "java/lang/Object" none with
  accessFlags := 33
  interfaces := #[]
  cf := some (fileOf pool0 8 #[] #[{ accessFlags := 1, nameIndex := 5, descriptorIndex := 6, attributes := #[] }] 33 0 #[] #[])
  fields := #[]
  methods := #[k0m0]
  instanceTypes := #[]
  staticTypes := #[]
  resolved := Array.replicate 124 none
  statics := none }

def pool1 : Array CpInfo := pool [(2, .class_ 4), (1, u "java/lang/Object"), (0, u "<init>"), (0, u "()V"), (0, .methodref 8 9), (0, .class_ 10), (0, .nameAndType 11 12), (0, u "com/example/prefixwood/prefixwood/huffman/LineTablePlainHashPinLaw"), (0, u "term"), (0, u "([BIII[I)I"), (0, .methodref 8 14), (0, .nameAndType 15 16), (0, u "mix"), (0, u "(I)I"), (0, .methodref 18 19), (0, .class_ 20), (0, .nameAndType 21 22), (0, u "com/example/prefixwood/prefixwood/huffman/LineTable"), (0, u "plainHash"), (0, u "([BII)I"), (0, .integer 2246822507), (2, u "law"), (0, u "(III)Z")] 7

def k1m0 : Method := { name := "<init>", desc := "()V", sig := { parameters := [], returnType := none }, accessFlags := 1, code := none }
def k1c1 : Code := { maxStack := 6, maxLocals := 9, code := code, exceptionTable := #[], attributes := #[] }
def k1m1 : Method := { name := "law", desc := "(III)Z", sig := { parameters := [.int, .int, .int], returnType := some .boolean }, accessFlags := 9, code := some k1c1 }
def k1c2 : Code := { maxStack := 4, maxLocals := 5, code := method_3_code, exceptionTable := #[], attributes := #[] }
def k1m2 : Method := { name := "term", desc := "([BIII[I)I", sig := { parameters := [(.array .byte), .int, .int, .int, (.array .int)], returnType := some .int }, accessFlags := 10, code := some k1c2 }
def k1c3 : Code := { maxStack := 3, maxLocals := 2, code := method_4_code, exceptionTable := #[], attributes := #[] }
def k1m3 : Method := { name := "mix", desc := "(I)I", sig := { parameters := [.int], returnType := some .int }, accessFlags := 10, code := some k1c3 }
/-- com/example/prefixwood/prefixwood/huffman/LineTablePlainHashPinLaw -/
def k1 : Class := { plain "com/example/prefixwood/prefixwood/huffman/LineTablePlainHashPinLaw" (some 0) with
  accessFlags := 49
  interfaces := #[]
  cf := some (fileOf pool1 8 #[] #[{ accessFlags := 1, nameIndex := 5, descriptorIndex := 6, attributes := #[] }, { accessFlags := 9, nameIndex := 26, descriptorIndex := 27, attributes := #[] }, { accessFlags := 10, nameIndex := 11, descriptorIndex := 12, attributes := #[] }, { accessFlags := 10, nameIndex := 15, descriptorIndex := 16, attributes := #[] }] 49 2 #[] #[])
  fields := #[]
  methods := #[k1m0, k1m1, k1m2, k1m3]
  instanceTypes := #[]
  staticTypes := #[]
  resolved := Array.replicate 35 none
  statics := none }

def pool2 : Array CpInfo := pool [(2, .class_ 4), (1, u "java/lang/Object"), (0, u "<init>"), (0, u "()V"), (0, .class_ 8), (0, u "com/example/prefixwood/prefixwood/huffman/LineTable"), (4, u "lines"), (0, u "[[B"), (2, u "counts"), (0, u "[J"), (2, u "slots"), (4, u "stepAllowance"), (0, u "J"), (2, u "byteAllowance"), (4, u "batchHashes"), (0, u "[I"), (2, u "batchKeys"), (2, u "batchIds"), (3, u "([BII)I"), (17, u "size"), (17, u "I"), (20, u "keyedHash"), (0, u "Lcom/example/prefixwood/prefixwood/huffman/SipHash;"), (36, u "readAhead"), (35, u "plainHash"), (0, .integer 2246822507), (0, u "INITIAL_CAPACITY"), (2, u "SLACK"), (0, u "HELD_IN_SLOT"), (1, u "NOT_HELD")] 23

def k2m0 : Method := { name := "<init>", desc := "()V", sig := { parameters := [], returnType := none }, accessFlags := 1, code := none }
def k2c1 : Code := { maxStack := 3, maxLocals := 5, code := prog_45_method_25_code, exceptionTable := #[], attributes := #[] }
def k2m1 : Method := { name := "plainHash", desc := "([BII)I", sig := { parameters := [(.array .byte), .int, .int], returnType := some .int }, accessFlags := 8, code := some k2c1 }
/-- com/example/prefixwood/prefixwood/huffman/LineTable -/
def k2 : Class := { plain "com/example/prefixwood/prefixwood/huffman/LineTable" (some 0) with
  accessFlags := 49
  interfaces := #[]
  cf := some (fileOf pool2 7 #[] #[{ accessFlags := 1, nameIndex := 5, descriptorIndex := 6, attributes := #[] }, { accessFlags := 8, nameIndex := 177, descriptorIndex := 46, attributes := #[] }] 49 2 #[] #[{ accessFlags := 26, nameIndex := 179, descriptorIndex := 82, attributes := #[] }, { accessFlags := 26, nameIndex := 182, descriptorIndex := 27, attributes := #[] }, { accessFlags := 26, nameIndex := 183, descriptorIndex := 82, attributes := #[] }, { accessFlags := 26, nameIndex := 185, descriptorIndex := 27, attributes := #[] }, { accessFlags := 2, nameIndex := 13, descriptorIndex := 14, attributes := #[] }, { accessFlags := 2, nameIndex := 17, descriptorIndex := 18, attributes := #[] }, { accessFlags := 2, nameIndex := 64, descriptorIndex := 82, attributes := #[] }, { accessFlags := 2, nameIndex := 21, descriptorIndex := 18, attributes := #[] }, { accessFlags := 2, nameIndex := 26, descriptorIndex := 27, attributes := #[] }, { accessFlags := 2, nameIndex := 30, descriptorIndex := 27, attributes := #[] }, { accessFlags := 2, nameIndex := 103, descriptorIndex := 104, attributes := #[] }, { accessFlags := 18, nameIndex := 35, descriptorIndex := 36, attributes := #[] }, { accessFlags := 18, nameIndex := 39, descriptorIndex := 18, attributes := #[] }, { accessFlags := 18, nameIndex := 42, descriptorIndex := 36, attributes := #[] }, { accessFlags := 2, nameIndex := 141, descriptorIndex := 27, attributes := #[] }])
  fields := #[{ name := "INITIAL_CAPACITY", type := .int, accessFlags := 26, slot := 0, constantValue := 0 }, { name := "SLACK", type := .long, accessFlags := 26, slot := 1, constantValue := 0 }, { name := "HELD_IN_SLOT", type := .int, accessFlags := 26, slot := 2, constantValue := 0 }, { name := "NOT_HELD", type := .long, accessFlags := 26, slot := 3, constantValue := 0 }, { name := "lines", type := (.array (.array .byte)), accessFlags := 2, slot := 0, constantValue := 0 }, { name := "counts", type := (.array .long), accessFlags := 2, slot := 1, constantValue := 0 }, { name := "size", type := .int, accessFlags := 2, slot := 2, constantValue := 0 }, { name := "slots", type := (.array .long), accessFlags := 2, slot := 3, constantValue := 0 }, { name := "stepAllowance", type := .long, accessFlags := 2, slot := 4, constantValue := 0 }, { name := "byteAllowance", type := .long, accessFlags := 2, slot := 5, constantValue := 0 }, { name := "keyedHash", type := (.object "com/example/prefixwood/prefixwood/huffman/SipHash"), accessFlags := 2, slot := 6, constantValue := 0 }, { name := "batchHashes", type := (.array .int), accessFlags := 18, slot := 7, constantValue := 0 }, { name := "batchKeys", type := (.array .long), accessFlags := 18, slot := 8, constantValue := 0 }, { name := "batchIds", type := (.array .int), accessFlags := 18, slot := 9, constantValue := 0 }, { name := "readAhead", type := .long, accessFlags := 2, slot := 10, constantValue := 0 }]
  methods := #[k2m0, k2m1]
  instanceTypes := #[(.array (.array .byte)), (.array .long), .int, (.array .long), .long, .long, (.object "com/example/prefixwood/prefixwood/huffman/SipHash"), (.array .int), (.array .long), (.array .int), .long]
  staticTypes := #[.int, .long, .int, .long]
  resolved := Array.replicate 209 none
  statics := none }

def pool3 : Array CpInfo := pool [(1, u "java/lang/Cloneable"), (0, .class_ 1), (0, u "java/lang/Object"), (0, .class_ 3)] 3

/-- java/lang/Cloneable -/
def k3 : Class := { plain "java/lang/Cloneable" (some 0) with
  accessFlags := 1537
  interfaces := #[]
  cf := some (fileOf pool3 2 #[] #[] 1537 4 #[] #[])
  fields := #[]
  methods := #[]
  instanceTypes := #[]
  staticTypes := #[]
  resolved := Array.replicate 8 none
  statics := none }

def pool4 : Array CpInfo := pool [(1, u "java/io/Serializable"), (0, .class_ 1), (0, u "java/lang/Object"), (0, .class_ 3)] 3

/-- java/io/Serializable -/
def k4 : Class := { plain "java/io/Serializable" (some 0) with
  accessFlags := 1537
  interfaces := #[]
  cf := some (fileOf pool4 2 #[] #[] 1537 4 #[] #[])
  fields := #[]
  methods := #[]
  instanceTypes := #[]
  staticTypes := #[]
  resolved := Array.replicate 8 none
  statics := none }

/-- the primitive byte -/
def k5 : Class := { plain "byte" none with kind := .primitive 'B', accessFlags := 0x411 }
/-- [B -/
def k6 : Class := { plain "[B" (some 0) with kind := .array 5 .byte, interfaces := #[3, 4], accessFlags := 1041 }

/-- the primitive int -/
def k7 : Class := { plain "int" none with kind := .primitive 'I', accessFlags := 0x411 }
/-- [I -/
def k8 : Class := { plain "[I" (some 0) with kind := .array 7 .int, interfaces := #[3, 4], accessFlags := 1041 }

def heap : Heap := #[]
def classes : Array Class := #[k0, k1, k2, k3, k4, k5, k6, k7, k8]
def interned : List (Array UInt16 × Addr) := []
def slotsUsed : Nat := 0
def theMethod : MethodId := ⟨1, 1⟩
def args0 : Array Value := #[.int 5, .int 7, .int 900]
def aboutOver (below : List Frame) : State where
  vm := { classes := classes, interned := interned.toArray }
  heap := heap
  slotsUsed := slotsUsed
  threads := #[{ frames := .invoking theMethod args0 :: below }]
def below0 : List Frame := [.native { method := ⟨0, 0⟩, args := #[] }]
def about1 : State := aboutOver below0
def p0 : Program := .bare "" "" ""
def e0 : Env := launch0.env 0 0 0
theorem w_frames : about1.frames = Frame.invoking theMethod args0 :: below0 := rfl
set_option maxRecDepth 65536 in
theorem w_args : argsFit about1.vm theMethod args0 = true := by decide +kernel
set_option maxRecDepth 65536 in
theorem w_heap : heapFits about1 = true := by decide +kernel
set_option maxRecDepth 65536 in
theorem w_runnable : about1.curStatus? = some .runnable := by decide +kernel
set_option maxRecDepth 65536 in
theorem w_alone : about1.alone = true := by decide +kernel
set_option maxRecDepth 65536 in
theorem w_named : about1.methodNamed? x = some theMethod := by decide +kernel
set_option maxRecDepth 65536 in
theorem w_hears : about1.hears theMethod below0 = true := by decide +kernel
set_option maxRecDepth 65536 in
theorem w_ripe : about1.ripe theMethod args0 below0 = true := by decide +kernel
theorem w_running : about1.status = .running := rfl
set_option maxRecDepth 65536 in
theorem w_room : about1.hasRoom e0.platform room_1 = true :=
  launch0.hasRoom_least _ room_1 (by decide +kernel) (by decide +kernel) (by decide +kernel) (by decide +kernel) (by decide +kernel) (by decide +kernel)
theorem allAtoms_all (ts : List Jvm.Cond) (a : Array Jvm.Value) (st : Jvm.State) : (allAtoms ts).before a st = ts.all (fun c => c.before a st) := by
  induction ts with
  | nil => rfl
  | cons c t ih =>
    show (Jvm.Cond.and c (allAtoms t)).before a st = _
    rw [Jvm.Cond.before_and, ih, List.all_cons]
def words1 : List Jvm.Cond := Jvm.Cond.code x code maxLocals ret :: tables_1
/-- a 'code' word, met by the world's own term for the bytes: nothing is compared byte by byte -/
theorem code_word {y : MethodName} {bytes : ByteArray} {mx : Nat} {rt : Option FieldType} {a : Array Value} {s : State} {m : MethodId} {meth : Method} {c : Code} (h1 : s.methodNamed? y = some m) (h2 : s.vm.method? m = some meth) (h3 : meth.code = some c) (h4 : c.code = bytes)
    (h5 : (c.maxLocals == mx && c.exceptionTable.isEmpty && decide (c.maxStack ≤ mostOperands) && decide (meth.sig.returnType = rt) && !meth.locks && decide (parseMethodDescriptor y.desc = some meth.sig)) = true) : (Jvm.Cond.code y bytes mx rt).before a s = true := by
  simp only [Bool.and_eq_true, beq_iff_eq, Bool.not_eq_true', decide_eq_true_eq] at h5
  obtain ⟨⟨⟨⟨⟨g1, g2⟩, g3⟩, g4⟩, g5⟩, g6⟩ := h5
  simp [Cond.before, Cond.holds, Cond.value, h1, h2, h3, h4, g1, g2, g3, g4, g5, g6]
def isCode : Jvm.Cond → Bool
  | .code _ _ _ _ => true
  | _ => false
theorem all_split {L : List Jvm.Cond} {P : Jvm.Cond → Bool} (h1 : L.all (fun c => isCode c || P c) = true) (h2 : ∀ c ∈ L.filter isCode, P c = true) : L.all P = true := by
  refine List.all_eq_true.mpr fun c hc => ?_
  have h := List.all_eq_true.mp h1 c hc
  rcases Bool.eq_false_or_eq_true (isCode c) with hi | hi
  · exact h2 c (List.mem_filter.mpr ⟨hc, hi⟩)
  · simpa [hi] using h
set_option maxRecDepth 65536 in
theorem w_c0 : (Jvm.Cond.code x code maxLocals ret).before args0 about1 = true := code_word (m := ⟨1, 1⟩) (meth := k1m1) (c := k1c1) (by decide +kernel) rfl rfl rfl (by decide +kernel)
set_option maxRecDepth 65536 in
theorem w_c1 : (Jvm.Cond.code ({ cls := "com/example/prefixwood/prefixwood/huffman/LineTablePlainHashPinLaw", name := "term", desc := "([BIII[I)I" } : Jvm.MethodName) method_3_code (5 : Nat) (Option.some Jvm.ClassFile.FieldType.int)).before args0 about1 = true := code_word (m := ⟨1, 2⟩) (meth := k1m2) (c := k1c2) (by decide +kernel) rfl rfl rfl (by decide +kernel)
set_option maxRecDepth 65536 in
theorem w_c2 : (Jvm.Cond.code ({ cls := "com/example/prefixwood/prefixwood/huffman/LineTablePlainHashPinLaw", name := "mix", desc := "(I)I" } : Jvm.MethodName) method_4_code (2 : Nat) (Option.some Jvm.ClassFile.FieldType.int)).before args0 about1 = true := code_word (m := ⟨1, 3⟩) (meth := k1m3) (c := k1c3) (by decide +kernel) rfl rfl rfl (by decide +kernel)
set_option maxRecDepth 65536 in
theorem w_c3 : (Jvm.Cond.code ({ cls := "com/example/prefixwood/prefixwood/huffman/LineTable", name := "plainHash", desc := "([BII)I" } : Jvm.MethodName) prog_45_method_25_code (5 : Nat) (Option.some Jvm.ClassFile.FieldType.int)).before args0 about1 = true := code_word (m := ⟨2, 1⟩) (meth := k2m1) (c := k2c1) (by decide +kernel) rfl rfl rfl (by decide +kernel)
def codes1 : List Jvm.Cond := [Jvm.Cond.code x code maxLocals ret, Jvm.Cond.code ({ cls := "com/example/prefixwood/prefixwood/huffman/LineTablePlainHashPinLaw", name := "term", desc := "([BIII[I)I" } : Jvm.MethodName) method_3_code (5 : Nat) (Option.some Jvm.ClassFile.FieldType.int), Jvm.Cond.code ({ cls := "com/example/prefixwood/prefixwood/huffman/LineTablePlainHashPinLaw", name := "mix", desc := "(I)I" } : Jvm.MethodName) method_4_code (2 : Nat) (Option.some Jvm.ClassFile.FieldType.int), Jvm.Cond.code ({ cls := "com/example/prefixwood/prefixwood/huffman/LineTable", name := "plainHash", desc := "([BII)I" } : Jvm.MethodName) prog_45_method_25_code (5 : Nat) (Option.some Jvm.ClassFile.FieldType.int)]
set_option maxRecDepth 65536 in
theorem codes_eq : words1.filter isCode = codes1 := rfl
theorem w_codes : ∀ c ∈ words1.filter isCode, c.before args0 about1 = true := by
  rw [codes_eq]
  intro c hc
  simp only [codes1, List.mem_cons, List.not_mem_nil, or_false] at hc
  rcases hc with rfl | rfl | rfl | rfl
  · exact w_c0
  · exact w_c1
  · exact w_c2
  · exact w_c3
set_option maxRecDepth 65536 in
theorem w_t1 : words1.all (fun c => isCode c || c.before args0 about1) = true := by decide +kernel
theorem w_tables : (allAtoms (Jvm.Cond.code x code maxLocals ret :: tables_1)).before args0 about1 = true := by
  rw [allAtoms_all]
  show words1.all (fun c => c.before args0 about1) = true
  refine all_split ?_ w_codes
  rw [w_t1]
set_option maxRecDepth 65536 in
theorem w_case : (Jvm.Cond.and given_1 narrow_1).before args0 about1 = true := by decide +kernel
theorem w_applies : (headSpec (Jvm.Cond.code x code maxLocals ret :: tables_1) room_1).applies x e0.platform about1 = true :=
  (Spec.applies_iff w_frames).mpr ⟨w_running, w_runnable, w_alone, w_named, w_hears, w_ripe, w_room, w_tables⟩
theorem atStart : AtStart classFile x code maxLocals ret World_1 tables_1 room_1 Calls_1 rest_1 Pre_1 launch0 p0 e0 about1 theMethod args0 below0 :=
  ⟨lists_1, trivial, launch0.admits_env _ _ _, launch0.least_env, fairChoices_fair.cas, fairChoices_fair.clock, w_frames, w_args, w_heap, w_applies, trivial, trivial, w_case⟩
end start1
theorem witness_1 : WitnessClaimed_1 := ⟨start1.p0, start1.e0, start1.about1, start1.theMethod, start1.args0, start1.below0, start1.atStart⟩
end Jvm.Pilot.@@N@@
