import JvmDerived
import JvmDerived.Pilot.@@N@@Statement
import JvmDerived.Pilot.@@N@@Code
set_option linter.unusedVariables false
set_option linter.unusedSimpArgs false
namespace Jvm.Pilot.@@N@@
open Jvm Jvm.ClassFile Sem Op Lib Jvm.Free Jvm.Stand Jvm.LawKit Jvm.RoadKit Bundle Jvm.Pilot.@@N@@.Jvm.D
section OwnKit
/-- the run goes on from here to the method's end; what it leaves is Q -/
def Go (p : Program) (e : Env) (below : List Frame) (s : State) (k n : Nat) (Q : Option Value → Heap → List Loc → Prop) (T : State) (g : JFrame) : Prop :=
  ∃ s₂ o, Steps p.tables e below (T.setTop g) s₂ ∧ s₂.status = .running ∧ Ended s₂ below o ∧ ∃ v L, o = .returned v ∧ Q v s₂.heap L ∧ FrameEnd s o s₂ L k n
variable {p : Program} {l : Launch} {e : Env} {R : Room} {s : State} {m : MethodId} {args : Array Value} {below : List Frame} {meth : Method} {c : Code} {T : State} {locs : List Loc} {cells slots : Nat} {k n : Nat} {Q : Option Value → Heap → List Loc → Prop} {pc : Nat} {Ls : Array Slot} {st : List Value} {Z : State} {a0 : Array Value} {h h' : Heap}
theorem Go.via {T' : State} {g g' : JFrame} (q : ∀ t, Steps p.tables e below (T'.setTop g') t → Steps p.tables e below (T.setTop g) t) (H : Go p e below s k n Q T' g') : Go p e below s k n Q T g := by
  obtain ⟨s₂, o, h1, r⟩ := H
  exact ⟨s₂, o, q _ h1, r⟩
theorem tltL {x y : Int64} (q : x < y) : ifCond.holds .lt (lcmpW x y) = true ∧ ifCond.holds .ge (lcmpW x y) = false ∧ ifCond.holds .gt (lcmpW y x) = true ∧ ifCond.holds .le (lcmpW y x) = false := by
  simp only [if0]
  exact ⟨(tlt ((lw_lt x y).mpr q)).1, (tlt ((lw_lt x y).mpr q)).2.1, (tlt ((lw_gt y x).mpr q)).2.2.1, (tlt ((lw_gt y x).mpr q)).2.2.2⟩
theorem fltL {x y : Int64} (q : ¬ x < y) : ifCond.holds .lt (lcmpW x y) = false ∧ ifCond.holds .ge (lcmpW x y) = true ∧ ifCond.holds .gt (lcmpW y x) = false ∧ ifCond.holds .le (lcmpW y x) = true := by
  simp only [if0]
  exact ⟨(flt (mt (lw_lt x y).mp q)).1, (flt (mt (lw_lt x y).mp q)).2.1, (flt (mt (lw_gt y x).mp q)).2.2.1, (flt (mt (lw_gt y x).mp q)).2.2.2⟩
theorem teqL {x y : Int64} (q : x = y) : ifCond.holds .eq (lcmpW x y) = true ∧ ifCond.holds .ne (lcmpW x y) = false := by
  simp only [if0]
  exact ⟨(teq ((lw_eq x y).mpr q)).1, (teq ((lw_eq x y).mpr q)).2⟩
theorem feqL {x y : Int64} (q : ¬ x = y) : ifCond.holds .eq (lcmpW x y) = false ∧ ifCond.holds .ne (lcmpW x y) = true := by
  simp only [if0]
  exact ⟨(feq (mt (lw_eq x y).mp q)).1, (feq (mt (lw_eq x y).mp q)).2⟩
theorem tlt0 {x y : Int32} (q : x < y) : (y = 0 → ifCond.holds .lt x = true ∧ ifCond.holds .ge x = false) ∧ (x = 0 → ifCond.holds .gt y = true ∧ ifCond.holds .le y = false) := by
  refine ⟨fun r => ?_, fun r => ?_⟩ <;> subst r <;> simp only [if0]
  · exact ⟨(tlt q).1, (tlt q).2.1⟩
  · exact ⟨(tlt q).2.2.1, (tlt q).2.2.2⟩
theorem g_iloadN (pc' : Nat) (X : Stand p l e R s m args below meth c T locs cells slots) (hx : p.tables.exec = Jvm.exec) {i : Fin 4} {v : Int32} (hd : decode c.code pc = .ok (.iload_n i, 1)) (hp : pc + 1 = pc') (hl : Ls[i.val]? = some (.val (.int v))) (H : Go p e below s k n Q T (mkF m pc' Ls (.int v :: st))) : Go p e below s k n Q T (mkF m pc Ls st) := by
  subst hp
  exact H.via fun t q => XS.iloadN X.here hx rfl hd hl q
theorem g_iload (pc' : Nat) (X : Stand p l e R s m args below meth c T locs cells slots) (hx : p.tables.exec = Jvm.exec) {i : Nat} {v : Int32} (hd : decode c.code pc = .ok (.iload i, 2)) (hp : pc + 2 = pc') (hl : Ls[i]? = some (.val (.int v))) (H : Go p e below s k n Q T (mkF m pc' Ls (.int v :: st))) : Go p e below s k n Q T (mkF m pc Ls st) := by
  subst hp
  exact H.via fun t q => XS.iload X.here hx rfl hd hl q
theorem g_istoreN (pc' : Nat) (X : Stand p l e R s m args below meth c T locs cells slots) (hx : p.tables.exec = Jvm.exec) {i : Fin 4} {v : Int32} {Ls' : Array Slot} (hd : decode c.code pc = .ok (.istore_n i, 1)) (hp : pc + 1 = pc') (hl : storeLocals Ls i.val (.int v) = some Ls') (H : Go p e below s k n Q T (mkF m pc' Ls' st)) : Go p e below s k n Q T (mkF m pc Ls (.int v :: st)) := by
  subst hp
  exact H.via fun t q => XS.istoreN X.here hx rfl hd rfl hl q
theorem g_istore (pc' : Nat) (X : Stand p l e R s m args below meth c T locs cells slots) (hx : p.tables.exec = Jvm.exec) {i : Nat} {v : Int32} {Ls' : Array Slot} (hd : decode c.code pc = .ok (.istore i, 2)) (hp : pc + 2 = pc') (hl : storeLocals Ls i (.int v) = some Ls') (H : Go p e below s k n Q T (mkF m pc' Ls' st)) : Go p e below s k n Q T (mkF m pc Ls (.int v :: st)) := by
  subst hp
  exact H.via fun t q => XS.istore X.here hx rfl hd rfl hl q
theorem g_lloadN (pc' : Nat) (X : Stand p l e R s m args below meth c T locs cells slots) (hx : p.tables.exec = Jvm.exec) {i : Fin 4} {v : Int64} (hd : decode c.code pc = .ok (.lload_n i, 1)) (hp : pc + 1 = pc') (hl : Ls[i.val]? = some (.val (.long v))) (H : Go p e below s k n Q T (mkF m pc' Ls (.long v :: st))) : Go p e below s k n Q T (mkF m pc Ls st) := by
  subst hp
  exact H.via fun t q => XS.lloadN X.here hx rfl hd hl q
theorem g_lload (pc' : Nat) (X : Stand p l e R s m args below meth c T locs cells slots) (hx : p.tables.exec = Jvm.exec) {i : Nat} {v : Int64} (hd : decode c.code pc = .ok (.lload i, 2)) (hp : pc + 2 = pc') (hl : Ls[i]? = some (.val (.long v))) (H : Go p e below s k n Q T (mkF m pc' Ls (.long v :: st))) : Go p e below s k n Q T (mkF m pc Ls st) := by
  subst hp
  exact H.via fun t q => XS.lload X.here hx rfl hd hl q
theorem g_lstoreN (pc' : Nat) (X : Stand p l e R s m args below meth c T locs cells slots) (hx : p.tables.exec = Jvm.exec) {i : Fin 4} {v : Int64} {Ls' : Array Slot} (hd : decode c.code pc = .ok (.lstore_n i, 1)) (hp : pc + 1 = pc') (hl : storeLocals Ls i.val (.long v) = some Ls') (H : Go p e below s k n Q T (mkF m pc' Ls' st)) : Go p e below s k n Q T (mkF m pc Ls (.long v :: st)) := by
  subst hp
  exact H.via fun t q => XS.lstoreN X.here hx rfl hd rfl hl q
theorem g_lstore (pc' : Nat) (X : Stand p l e R s m args below meth c T locs cells slots) (hx : p.tables.exec = Jvm.exec) {i : Nat} {v : Int64} {Ls' : Array Slot} (hd : decode c.code pc = .ok (.lstore i, 2)) (hp : pc + 2 = pc') (hl : storeLocals Ls i (.long v) = some Ls') (H : Go p e below s k n Q T (mkF m pc' Ls' st)) : Go p e below s k n Q T (mkF m pc Ls (.long v :: st)) := by
  subst hp
  exact H.via fun t q => XS.lstore X.here hx rfl hd rfl hl q
theorem g_aloadN (pc' : Nat) (X : Stand p l e R s m args below meth c T locs cells slots) (hx : p.tables.exec = Jvm.exec) {i : Fin 4} {v : Value} (hd : decode c.code pc = .ok (.aload_n i, 1)) (hp : pc + 1 = pc') (hl : Ls[i.val]? = some (.val v)) (hv : v.isRef = true) (H : Go p e below s k n Q T (mkF m pc' Ls (v :: st))) : Go p e below s k n Q T (mkF m pc Ls st) := by
  subst hp
  exact H.via fun t q => XS.aloadN X.here hx rfl hd hl hv q
theorem g_aload (pc' : Nat) (X : Stand p l e R s m args below meth c T locs cells slots) (hx : p.tables.exec = Jvm.exec) {i : Nat} {v : Value} (hd : decode c.code pc = .ok (.aload i, 2)) (hp : pc + 2 = pc') (hl : Ls[i]? = some (.val v)) (hv : v.isRef = true) (H : Go p e below s k n Q T (mkF m pc' Ls (v :: st))) : Go p e below s k n Q T (mkF m pc Ls st) := by
  subst hp
  exact H.via fun t q => XS.aload X.here hx rfl hd hl hv q
theorem g_astoreN (pc' : Nat) (X : Stand p l e R s m args below meth c T locs cells slots) (hx : p.tables.exec = Jvm.exec) {i : Fin 4} {v : Value} {Ls' : Array Slot} (hd : decode c.code pc = .ok (.astore_n i, 1)) (hp : pc + 1 = pc') (hv : v.isRef = true) (hl : storeLocals Ls i.val v = some Ls') (H : Go p e below s k n Q T (mkF m pc' Ls' st)) : Go p e below s k n Q T (mkF m pc Ls (v :: st)) := by
  subst hp
  exact H.via fun t q => XS.astoreN X.here hx rfl hd rfl hv hl q
theorem g_astore (pc' : Nat) (X : Stand p l e R s m args below meth c T locs cells slots) (hx : p.tables.exec = Jvm.exec) {i : Nat} {v : Value} {Ls' : Array Slot} (hd : decode c.code pc = .ok (.astore i, 2)) (hp : pc + 2 = pc') (hv : v.isRef = true) (hl : storeLocals Ls i v = some Ls') (H : Go p e below s k n Q T (mkF m pc' Ls' st)) : Go p e below s k n Q T (mkF m pc Ls (v :: st)) := by
  subst hp
  exact H.via fun t q => XS.astore X.here hx rfl hd rfl hv hl q
theorem g_iconst (pc' : Nat) (X : Stand p l e R s m args below meth c T locs cells slots) (hx : p.tables.exec = Jvm.exec) {i : Int} {z : Int32} (hd : decode c.code pc = .ok (.iconst i, 1)) (hp : pc + 1 = pc') (hz : Int32.ofInt i = z) (H : Go p e below s k n Q T (mkF m pc' Ls (.int z :: st))) : Go p e below s k n Q T (mkF m pc Ls st) := by
  subst hp hz
  exact H.via fun t q => XS.iconst X.here hx rfl hd q
theorem g_bipush (pc' : Nat) (X : Stand p l e R s m args below meth c T locs cells slots) (hx : p.tables.exec = Jvm.exec) {i : Int} {z : Int32} (hd : decode c.code pc = .ok (.bipush i, 2)) (hp : pc + 2 = pc') (hz : (Int8.ofInt i).toInt32 = z) (H : Go p e below s k n Q T (mkF m pc' Ls (.int z :: st))) : Go p e below s k n Q T (mkF m pc Ls st) := by
  subst hp hz
  exact H.via fun t q => XS.bipush X.here hx rfl hd q
theorem g_sipush (pc' : Nat) (X : Stand p l e R s m args below meth c T locs cells slots) (hx : p.tables.exec = Jvm.exec) {i : Int} {z : Int32} (hd : decode c.code pc = .ok (.sipush i, 3)) (hp : pc + 3 = pc') (hz : (Int16.ofInt i).toInt32 = z) (H : Go p e below s k n Q T (mkF m pc' Ls (.int z :: st))) : Go p e below s k n Q T (mkF m pc Ls st) := by
  subst hp hz
  exact H.via fun t q => XS.sipush X.here hx rfl hd q
theorem g_lconst (pc' : Nat) (X : Stand p l e R s m args below meth c T locs cells slots) (hx : p.tables.exec = Jvm.exec) {i : Fin 2} {z : Int64} (hd : decode c.code pc = .ok (.lconst i, 1)) (hp : pc + 1 = pc') (hz : Int64.ofNat i.val = z) (H : Go p e below s k n Q T (mkF m pc' Ls (.long z :: st))) : Go p e below s k n Q T (mkF m pc Ls st) := by
  subst hp hz
  exact H.via fun t q => XS.lconst X.here hx rfl hd q
theorem g_aconst_null (pc' : Nat) (X : Stand p l e R s m args below meth c T locs cells slots) (hx : p.tables.exec = Jvm.exec) (hd : decode c.code pc = .ok (.aconst_null, 1)) (hp : pc + 1 = pc')  (H : Go p e below s k n Q T (mkF m pc' Ls (.null :: st))) : Go p e below s k n Q T (mkF m pc Ls st) := by
  subst hp
  exact H.via fun t q => XS.aconstNull X.here hx rfl hd q
theorem g_iadd (pc' : Nat) (X : Stand p l e R s m args below meth c T locs cells slots) (hx : p.tables.exec = Jvm.exec) {x y z : Int32} (hd : decode c.code pc = .ok (.iadd, 1)) (hp : pc + 1 = pc') (hz : x + y = z) (H : Go p e below s k n Q T (mkF m pc' Ls (.int z :: st))) : Go p e below s k n Q T (mkF m pc Ls (.int y :: .int x :: st)) := by
  subst hp hz
  exact H.via fun t q => XS.iadd X.here hx rfl hd rfl q
theorem g_isub (pc' : Nat) (X : Stand p l e R s m args below meth c T locs cells slots) (hx : p.tables.exec = Jvm.exec) {x y z : Int32} (hd : decode c.code pc = .ok (.isub, 1)) (hp : pc + 1 = pc') (hz : x - y = z) (H : Go p e below s k n Q T (mkF m pc' Ls (.int z :: st))) : Go p e below s k n Q T (mkF m pc Ls (.int y :: .int x :: st)) := by
  subst hp hz
  exact H.via fun t q => XS.isub X.here hx rfl hd rfl q
theorem g_imul (pc' : Nat) (X : Stand p l e R s m args below meth c T locs cells slots) (hx : p.tables.exec = Jvm.exec) {x y z : Int32} (hd : decode c.code pc = .ok (.imul, 1)) (hp : pc + 1 = pc') (hz : x * y = z) (H : Go p e below s k n Q T (mkF m pc' Ls (.int z :: st))) : Go p e below s k n Q T (mkF m pc Ls (.int y :: .int x :: st)) := by
  subst hp hz
  exact H.via fun t q => XS.imul X.here hx rfl hd rfl q
theorem g_iand (pc' : Nat) (X : Stand p l e R s m args below meth c T locs cells slots) (hx : p.tables.exec = Jvm.exec) {x y z : Int32} (hd : decode c.code pc = .ok (.iand, 1)) (hp : pc + 1 = pc') (hz : x &&& y = z) (H : Go p e below s k n Q T (mkF m pc' Ls (.int z :: st))) : Go p e below s k n Q T (mkF m pc Ls (.int y :: .int x :: st)) := by
  subst hp hz
  exact H.via fun t q => XS.iand X.here hx rfl hd rfl q
theorem g_ior (pc' : Nat) (X : Stand p l e R s m args below meth c T locs cells slots) (hx : p.tables.exec = Jvm.exec) {x y z : Int32} (hd : decode c.code pc = .ok (.ior, 1)) (hp : pc + 1 = pc') (hz : x ||| y = z) (H : Go p e below s k n Q T (mkF m pc' Ls (.int z :: st))) : Go p e below s k n Q T (mkF m pc Ls (.int y :: .int x :: st)) := by
  subst hp hz
  exact H.via fun t q => XS.ior X.here hx rfl hd rfl q
theorem g_ixor (pc' : Nat) (X : Stand p l e R s m args below meth c T locs cells slots) (hx : p.tables.exec = Jvm.exec) {x y z : Int32} (hd : decode c.code pc = .ok (.ixor, 1)) (hp : pc + 1 = pc') (hz : x ^^^ y = z) (H : Go p e below s k n Q T (mkF m pc' Ls (.int z :: st))) : Go p e below s k n Q T (mkF m pc Ls (.int y :: .int x :: st)) := by
  subst hp hz
  exact H.via fun t q => XS.ixor X.here hx rfl hd rfl q
theorem g_ladd (pc' : Nat) (X : Stand p l e R s m args below meth c T locs cells slots) (hx : p.tables.exec = Jvm.exec) {x y z : Int64} (hd : decode c.code pc = .ok (.ladd, 1)) (hp : pc + 1 = pc') (hz : x + y = z) (H : Go p e below s k n Q T (mkF m pc' Ls (.long z :: st))) : Go p e below s k n Q T (mkF m pc Ls (.long y :: .long x :: st)) := by
  subst hp hz
  exact H.via fun t q => XS.ladd X.here hx rfl hd rfl q
theorem g_lsub (pc' : Nat) (X : Stand p l e R s m args below meth c T locs cells slots) (hx : p.tables.exec = Jvm.exec) {x y z : Int64} (hd : decode c.code pc = .ok (.lsub, 1)) (hp : pc + 1 = pc') (hz : x - y = z) (H : Go p e below s k n Q T (mkF m pc' Ls (.long z :: st))) : Go p e below s k n Q T (mkF m pc Ls (.long y :: .long x :: st)) := by
  subst hp hz
  exact H.via fun t q => XS.lsub X.here hx rfl hd rfl q
theorem g_lmul (pc' : Nat) (X : Stand p l e R s m args below meth c T locs cells slots) (hx : p.tables.exec = Jvm.exec) {x y z : Int64} (hd : decode c.code pc = .ok (.lmul, 1)) (hp : pc + 1 = pc') (hz : x * y = z) (H : Go p e below s k n Q T (mkF m pc' Ls (.long z :: st))) : Go p e below s k n Q T (mkF m pc Ls (.long y :: .long x :: st)) := by
  subst hp hz
  exact H.via fun t q => XS.lmul X.here hx rfl hd rfl q
theorem g_land (pc' : Nat) (X : Stand p l e R s m args below meth c T locs cells slots) (hx : p.tables.exec = Jvm.exec) {x y z : Int64} (hd : decode c.code pc = .ok (.land, 1)) (hp : pc + 1 = pc') (hz : x &&& y = z) (H : Go p e below s k n Q T (mkF m pc' Ls (.long z :: st))) : Go p e below s k n Q T (mkF m pc Ls (.long y :: .long x :: st)) := by
  subst hp hz
  exact H.via fun t q => XS.land X.here hx rfl hd rfl q
theorem g_lor (pc' : Nat) (X : Stand p l e R s m args below meth c T locs cells slots) (hx : p.tables.exec = Jvm.exec) {x y z : Int64} (hd : decode c.code pc = .ok (.lor, 1)) (hp : pc + 1 = pc') (hz : x ||| y = z) (H : Go p e below s k n Q T (mkF m pc' Ls (.long z :: st))) : Go p e below s k n Q T (mkF m pc Ls (.long y :: .long x :: st)) := by
  subst hp hz
  exact H.via fun t q => XS.lor X.here hx rfl hd rfl q
theorem g_lxor (pc' : Nat) (X : Stand p l e R s m args below meth c T locs cells slots) (hx : p.tables.exec = Jvm.exec) {x y z : Int64} (hd : decode c.code pc = .ok (.lxor, 1)) (hp : pc + 1 = pc') (hz : x ^^^ y = z) (H : Go p e below s k n Q T (mkF m pc' Ls (.long z :: st))) : Go p e below s k n Q T (mkF m pc Ls (.long y :: .long x :: st)) := by
  subst hp hz
  exact H.via fun t q => XS.lxor X.here hx rfl hd rfl q
theorem g_ishl (pc' : Nat) (X : Stand p l e R s m args below meth c T locs cells slots) (hx : p.tables.exec = Jvm.exec) {x y z : Int32} (hd : decode c.code pc = .ok (.ishl, 1)) (hp : pc + 1 = pc') (hz : x <<< (y &&& 31) = z) (H : Go p e below s k n Q T (mkF m pc' Ls (.int z :: st))) : Go p e below s k n Q T (mkF m pc Ls (.int y :: .int x :: st)) := by
  subst hp hz
  exact H.via fun t q => XS.ishl X.here hx rfl hd rfl q
theorem g_ishr (pc' : Nat) (X : Stand p l e R s m args below meth c T locs cells slots) (hx : p.tables.exec = Jvm.exec) {x y z : Int32} (hd : decode c.code pc = .ok (.ishr, 1)) (hp : pc + 1 = pc') (hz : x >>> (y &&& 31) = z) (H : Go p e below s k n Q T (mkF m pc' Ls (.int z :: st))) : Go p e below s k n Q T (mkF m pc Ls (.int y :: .int x :: st)) := by
  subst hp hz
  exact H.via fun t q => XS.ishr X.here hx rfl hd rfl q
theorem g_iushr (pc' : Nat) (X : Stand p l e R s m args below meth c T locs cells slots) (hx : p.tables.exec = Jvm.exec) {x y z : Int32} (hd : decode c.code pc = .ok (.iushr, 1)) (hp : pc + 1 = pc') (hz : (x.toUInt32 >>> (y &&& 31).toUInt32).toInt32 = z) (H : Go p e below s k n Q T (mkF m pc' Ls (.int z :: st))) : Go p e below s k n Q T (mkF m pc Ls (.int y :: .int x :: st)) := by
  subst hp hz
  exact H.via fun t q => XS.iushr X.here hx rfl hd rfl q
theorem g_lshl (pc' : Nat) (X : Stand p l e R s m args below meth c T locs cells slots) (hx : p.tables.exec = Jvm.exec) {x z : Int64} {y : Int32} (hd : decode c.code pc = .ok (.lshl, 1)) (hp : pc + 1 = pc') (hz : x <<< (y &&& 0x3f).toInt64 = z) (H : Go p e below s k n Q T (mkF m pc' Ls (.long z :: st))) : Go p e below s k n Q T (mkF m pc Ls (.int y :: .long x :: st)) := by
  subst hp hz
  exact H.via fun t q => XS.lshl X.here hx rfl hd rfl q
theorem g_lshr (pc' : Nat) (X : Stand p l e R s m args below meth c T locs cells slots) (hx : p.tables.exec = Jvm.exec) {x z : Int64} {y : Int32} (hd : decode c.code pc = .ok (.lshr, 1)) (hp : pc + 1 = pc') (hz : x >>> (y &&& 0x3f).toInt64 = z) (H : Go p e below s k n Q T (mkF m pc' Ls (.long z :: st))) : Go p e below s k n Q T (mkF m pc Ls (.int y :: .long x :: st)) := by
  subst hp hz
  exact H.via fun t q => XS.lshr X.here hx rfl hd rfl q
theorem g_lushr (pc' : Nat) (X : Stand p l e R s m args below meth c T locs cells slots) (hx : p.tables.exec = Jvm.exec) {x z : Int64} {y : Int32} (hd : decode c.code pc = .ok (.lushr, 1)) (hp : pc + 1 = pc') (hz : (x.toUInt64 >>> (y &&& 0x3f).toInt64.toUInt64).toInt64 = z) (H : Go p e below s k n Q T (mkF m pc' Ls (.long z :: st))) : Go p e below s k n Q T (mkF m pc Ls (.int y :: .long x :: st)) := by
  subst hp hz
  exact H.via fun t q => XS.lushr X.here hx rfl hd rfl q
theorem g_idiv (pc' : Nat) (X : Stand p l e R s m args below meth c T locs cells slots) (hx : p.tables.exec = Jvm.exec) {x y z : Int32} (hd : decode c.code pc = .ok (.idiv, 1)) (hp : pc + 1 = pc') (hy : y ≠ 0) (hz : x / y = z) (H : Go p e below s k n Q T (mkF m pc' Ls (.int z :: st))) : Go p e below s k n Q T (mkF m pc Ls (.int y :: .int x :: st)) := by
  subst hp hz
  exact H.via fun t q => XS.idiv X.here hx rfl hd rfl hy q
theorem g_irem (pc' : Nat) (X : Stand p l e R s m args below meth c T locs cells slots) (hx : p.tables.exec = Jvm.exec) {x y z : Int32} (hd : decode c.code pc = .ok (.irem, 1)) (hp : pc + 1 = pc') (hy : y ≠ 0) (hz : x % y = z) (H : Go p e below s k n Q T (mkF m pc' Ls (.int z :: st))) : Go p e below s k n Q T (mkF m pc Ls (.int y :: .int x :: st)) := by
  subst hp hz
  exact H.via fun t q => iremM X hx rfl hd rfl hy q
theorem g_ldiv (pc' : Nat) (X : Stand p l e R s m args below meth c T locs cells slots) (hx : p.tables.exec = Jvm.exec) {x y z : Int64} (hd : decode c.code pc = .ok (.ldiv, 1)) (hp : pc + 1 = pc') (hy : y ≠ 0) (hz : x / y = z) (H : Go p e below s k n Q T (mkF m pc' Ls (.long z :: st))) : Go p e below s k n Q T (mkF m pc Ls (.long y :: .long x :: st)) := by
  subst hp hz
  exact H.via fun t q => XS.ldiv X.here hx rfl hd rfl hy q
theorem g_lrem (pc' : Nat) (X : Stand p l e R s m args below meth c T locs cells slots) (hx : p.tables.exec = Jvm.exec) {x y z : Int64} (hd : decode c.code pc = .ok (.lrem, 1)) (hp : pc + 1 = pc') (hy : y ≠ 0) (hz : x % y = z) (H : Go p e below s k n Q T (mkF m pc' Ls (.long z :: st))) : Go p e below s k n Q T (mkF m pc Ls (.long y :: .long x :: st)) := by
  subst hp hz
  exact H.via fun t q => XS.lrem X.here hx rfl hd rfl hy (by rw [lrem_mod]; exact q)
theorem g_ineg (pc' : Nat) (X : Stand p l e R s m args below meth c T locs cells slots) (hx : p.tables.exec = Jvm.exec) {x : Int32} {z : Int32} (hd : decode c.code pc = .ok (.ineg, 1)) (hp : pc + 1 = pc') (hz : -x = z) (H : Go p e below s k n Q T (mkF m pc' Ls (.int z :: st))) : Go p e below s k n Q T (mkF m pc Ls (.int x :: st)) := by
  subst hp hz
  exact H.via fun t q => XS.ineg X.here hx rfl hd rfl q
theorem g_lneg (pc' : Nat) (X : Stand p l e R s m args below meth c T locs cells slots) (hx : p.tables.exec = Jvm.exec) {x : Int64} {z : Int64} (hd : decode c.code pc = .ok (.lneg, 1)) (hp : pc + 1 = pc') (hz : -x = z) (H : Go p e below s k n Q T (mkF m pc' Ls (.long z :: st))) : Go p e below s k n Q T (mkF m pc Ls (.long x :: st)) := by
  subst hp hz
  exact H.via fun t q => XS.lneg X.here hx rfl hd rfl q
theorem g_i2l (pc' : Nat) (X : Stand p l e R s m args below meth c T locs cells slots) (hx : p.tables.exec = Jvm.exec) {x : Int32} {z : Int64} (hd : decode c.code pc = .ok (.i2l, 1)) (hp : pc + 1 = pc') (hz : x.toInt64 = z) (H : Go p e below s k n Q T (mkF m pc' Ls (.long z :: st))) : Go p e below s k n Q T (mkF m pc Ls (.int x :: st)) := by
  subst hp hz
  exact H.via fun t q => XS.i2l X.here hx rfl hd rfl q
theorem g_l2i (pc' : Nat) (X : Stand p l e R s m args below meth c T locs cells slots) (hx : p.tables.exec = Jvm.exec) {x : Int64} {z : Int32} (hd : decode c.code pc = .ok (.l2i, 1)) (hp : pc + 1 = pc') (hz : x.toInt32 = z) (H : Go p e below s k n Q T (mkF m pc' Ls (.int z :: st))) : Go p e below s k n Q T (mkF m pc Ls (.long x :: st)) := by
  subst hp hz
  exact H.via fun t q => XS.l2i X.here hx rfl hd rfl q
theorem g_i2b (pc' : Nat) (X : Stand p l e R s m args below meth c T locs cells slots) (hx : p.tables.exec = Jvm.exec) {x : Int32} {z : Int32} (hd : decode c.code pc = .ok (.i2b, 1)) (hp : pc + 1 = pc') (hz : x.toInt8.toInt32 = z) (H : Go p e below s k n Q T (mkF m pc' Ls (.int z :: st))) : Go p e below s k n Q T (mkF m pc Ls (.int x :: st)) := by
  subst hp hz
  exact H.via fun t q => XS.i2b X.here hx rfl hd rfl q
theorem g_i2s (pc' : Nat) (X : Stand p l e R s m args below meth c T locs cells slots) (hx : p.tables.exec = Jvm.exec) {x : Int32} {z : Int32} (hd : decode c.code pc = .ok (.i2s, 1)) (hp : pc + 1 = pc') (hz : x.toInt16.toInt32 = z) (H : Go p e below s k n Q T (mkF m pc' Ls (.int z :: st))) : Go p e below s k n Q T (mkF m pc Ls (.int x :: st)) := by
  subst hp hz
  exact H.via fun t q => XS.i2s X.here hx rfl hd rfl q
theorem g_i2c (pc' : Nat) (X : Stand p l e R s m args below meth c T locs cells slots) (hx : p.tables.exec = Jvm.exec) {x : Int32} {z : Int32} (hd : decode c.code pc = .ok (.i2c, 1)) (hp : pc + 1 = pc') (hz : x.toUInt32.toUInt16.toUInt32.toInt32 = z) (H : Go p e below s k n Q T (mkF m pc' Ls (.int z :: st))) : Go p e below s k n Q T (mkF m pc Ls (.int x :: st)) := by
  subst hp hz
  exact H.via fun t q => XS.i2c X.here hx rfl hd rfl q
theorem g_dup (pc' : Nat) (X : Stand p l e R s m args below meth c T locs cells slots) (hx : p.tables.exec = Jvm.exec) {v : Value} (hd : decode c.code pc = .ok (.dup, 1)) (hp : pc + 1 = pc') (hv : v.category = 1) (H : Go p e below s k n Q T (mkF m pc' Ls (v :: v :: st))) : Go p e below s k n Q T (mkF m pc Ls (v :: st)) := by
  subst hp
  exact H.via fun t q => XS.dup X.here hx rfl hd rfl hv q
theorem g_pop (pc' : Nat) (X : Stand p l e R s m args below meth c T locs cells slots) (hx : p.tables.exec = Jvm.exec) {v : Value} (hd : decode c.code pc = .ok (.pop, 1)) (hp : pc + 1 = pc') (hv : v.category = 1) (H : Go p e below s k n Q T (mkF m pc' Ls st)) : Go p e below s k n Q T (mkF m pc Ls (v :: st)) := by
  subst hp
  exact H.via fun t q => XS.pop X.here hx rfl hd rfl hv q
theorem g_dup_x1 (pc' : Nat) (X : Stand p l e R s m args below meth c T locs cells slots) (hx : p.tables.exec = Jvm.exec) {v w : Value} (hd : decode c.code pc = .ok (.dup_x1, 1)) (hp : pc + 1 = pc') (hv : v.category = 1) (hw : w.category = 1) (H : Go p e below s k n Q T (mkF m pc' Ls (v :: w :: v :: st))) : Go p e below s k n Q T (mkF m pc Ls (v :: w :: st)) := by
  subst hp
  exact H.via fun t q => XS.dupX1 X.here hx rfl hd rfl hv hw q
theorem g_dup2 (pc' : Nat) (X : Stand p l e R s m args below meth c T locs cells slots) (hx : p.tables.exec = Jvm.exec) {v w : Value} (hd : decode c.code pc = .ok (.dup2, 1)) (hp : pc + 1 = pc') (hv : v.category = 1) (hw : w.category = 1) (H : Go p e below s k n Q T (mkF m pc' Ls (v :: w :: v :: w :: st))) : Go p e below s k n Q T (mkF m pc Ls (v :: w :: st)) := by
  subst hp
  exact H.via fun t q => XT.dup2 X.here hx rfl hd rfl hv hw q
theorem g_iinc (pc' : Nat) (X : Stand p l e R s m args below meth c T locs cells slots) (hx : p.tables.exec = Jvm.exec) {i : Nat} {cst : Int} {x z : Int32} {Ls' : Array Slot} (hd : decode c.code pc = .ok (.iinc i cst, 3)) (hp : pc + 3 = pc') (hl : Ls[i]? = some (.val (.int x))) (hz : x + Int32.ofInt cst = z) (hl' : storeLocals Ls i (.int z) = some Ls') (H : Go p e below s k n Q T (mkF m pc' Ls' st)) : Go p e below s k n Q T (mkF m pc Ls st) := by
  subst hp hz
  exact H.via fun t q => XS.iinc X.here hx rfl hd hl hl' q
theorem g_goto (pc' : Nat) (X : Stand p l e R s m args below meth c T locs cells slots) (hx : p.tables.exec = Jvm.exec) {o : Int} (hd : decode c.code pc = .ok (.goto o, 3)) (ho : 0 ≤ (pc : Int) + o) (hp : ((pc : Int) + o).toNat = pc') (H : Go p e below s k n Q T (mkF m pc' Ls st)) : Go p e below s k n Q T (mkF m pc Ls st) :=
  H.via fun t q => XS.goto X.here hx rfl rfl hd ho hp q
theorem g_ifYes (pc' : Nat) (X : Stand p l e R s m args below meth c T locs cells slots) (hx : p.tables.exec = Jvm.exec) {cd : ClassFile.Cond} {x : Int32} {o : Int} (hd : decode c.code pc = .ok (.ifCond cd o, 3)) (hc : ifCond.holds cd x = true) (ho : 0 ≤ (pc : Int) + o) (hp : ((pc : Int) + o).toNat = pc') (H : Go p e below s k n Q T (mkF m pc' Ls st)) : Go p e below s k n Q T (mkF m pc Ls (.int x :: st)) :=
  H.via fun t q => XS.ifYes X.here hx rfl rfl hd rfl hc ho hp q
theorem g_ifNo (pc' : Nat) (X : Stand p l e R s m args below meth c T locs cells slots) (hx : p.tables.exec = Jvm.exec) {cd : ClassFile.Cond} {x : Int32} {o : Int} (hd : decode c.code pc = .ok (.ifCond cd o, 3)) (hc : ifCond.holds cd x = false) (hp : pc + 3 = pc') (H : Go p e below s k n Q T (mkF m pc' Ls st)) : Go p e below s k n Q T (mkF m pc Ls (.int x :: st)) := by
  subst hp
  exact H.via fun t q => XS.ifNo X.here hx rfl hd rfl hc q
theorem g_icmpYes (pc' : Nat) (X : Stand p l e R s m args below meth c T locs cells slots) (hx : p.tables.exec = Jvm.exec) {cd : ClassFile.Cond} {x y : Int32} {o : Int} (hd : decode c.code pc = .ok (.if_icmp cd o, 3)) (hc : if_icmp.holds cd x y = true) (ho : 0 ≤ (pc : Int) + o) (hp : ((pc : Int) + o).toNat = pc') (H : Go p e below s k n Q T (mkF m pc' Ls st)) : Go p e below s k n Q T (mkF m pc Ls (.int y :: .int x :: st)) :=
  H.via fun t q => XS.icmpYes X.here hx rfl rfl hd rfl hc ho hp q
theorem g_icmpNo (pc' : Nat) (X : Stand p l e R s m args below meth c T locs cells slots) (hx : p.tables.exec = Jvm.exec) {cd : ClassFile.Cond} {x y : Int32} {o : Int} (hd : decode c.code pc = .ok (.if_icmp cd o, 3)) (hc : if_icmp.holds cd x y = false) (hp : pc + 3 = pc') (H : Go p e below s k n Q T (mkF m pc' Ls st)) : Go p e below s k n Q T (mkF m pc Ls (.int y :: .int x :: st)) := by
  subst hp
  exact H.via fun t q => XS.icmpNo X.here hx rfl hd rfl hc q
theorem g_lcmpYes (pc' : Nat) (X : Stand p l e R s m args below meth c T locs cells slots) (hx : p.tables.exec = Jvm.exec) {cd : ClassFile.Cond} {x y : Int64} {o : Int} {pc1 : Nat} (hd : decode c.code pc = .ok (.lcmp, 1)) (hp1 : pc + 1 = pc1) (hd' : decode c.code pc1 = .ok (.ifCond cd o, 3)) (hc : ifCond.holds cd (lcmpW x y) = true) (ho : 0 ≤ (pc1 : Int) + o) (hp : ((pc1 : Int) + o).toNat = pc') (H : Go p e below s k n Q T (mkF m pc' Ls st)) : Go p e below s k n Q T (mkF m pc Ls (.long y :: .long x :: st)) := by
  subst hp1
  exact H.via fun t q => XS.lcmp X.here hx rfl hd rfl (XS.ifYes X.here hx rfl rfl hd' rfl hc ho hp q)
theorem g_lcmpNo (pc' : Nat) (X : Stand p l e R s m args below meth c T locs cells slots) (hx : p.tables.exec = Jvm.exec) {cd : ClassFile.Cond} {x y : Int64} {o : Int} {pc1 : Nat} (hd : decode c.code pc = .ok (.lcmp, 1)) (hp1 : pc + 1 = pc1) (hd' : decode c.code pc1 = .ok (.ifCond cd o, 3)) (hc : ifCond.holds cd (lcmpW x y) = false) (hp : pc1 + 3 = pc') (H : Go p e below s k n Q T (mkF m pc' Ls st)) : Go p e below s k n Q T (mkF m pc Ls (.long y :: .long x :: st)) := by
  subst hp1; subst hp
  exact H.via fun t q => XS.lcmp X.here hx rfl hd rfl (XS.ifNo X.here hx rfl hd' rfl hc q)
theorem g_ifnullYes (pc' : Nat) (X : Stand p l e R s m args below meth c T locs cells slots) (hx : p.tables.exec = Jvm.exec) {b : Addr} {o : Int} (hd : decode c.code pc = .ok (.ifnull o, 3)) (ho : 0 ≤ (pc : Int) + o) (hp : ((pc : Int) + o).toNat = pc') (H : Go p e below s k n Q T (mkF m pc' Ls st)) : Go p e below s k n Q T (mkF m pc Ls (.null :: st)) :=
  H.via fun t q => XS.ifnullYes X.here hx rfl rfl hd rfl ho hp q
theorem g_ifnullNo (pc' : Nat) (X : Stand p l e R s m args below meth c T locs cells slots) (hx : p.tables.exec = Jvm.exec) {b : Addr} {o : Int} (hd : decode c.code pc = .ok (.ifnull o, 3)) (hp : pc + 3 = pc') (H : Go p e below s k n Q T (mkF m pc' Ls st)) : Go p e below s k n Q T (mkF m pc Ls (.ref b :: st)) := by
  subst hp
  exact H.via fun t q => XS.ifnullNo X.here hx rfl hd rfl q
theorem g_ifnonnullYes (pc' : Nat) (X : Stand p l e R s m args below meth c T locs cells slots) (hx : p.tables.exec = Jvm.exec) {b : Addr} {o : Int} (hd : decode c.code pc = .ok (.ifnonnull o, 3)) (ho : 0 ≤ (pc : Int) + o) (hp : ((pc : Int) + o).toNat = pc') (H : Go p e below s k n Q T (mkF m pc' Ls st)) : Go p e below s k n Q T (mkF m pc Ls (.ref b :: st)) :=
  H.via fun t q => XS.ifnonnullYes X.here hx rfl rfl hd rfl ho hp q
theorem g_ifnonnullNo (pc' : Nat) (X : Stand p l e R s m args below meth c T locs cells slots) (hx : p.tables.exec = Jvm.exec) {b : Addr} {o : Int} (hd : decode c.code pc = .ok (.ifnonnull o, 3)) (hp : pc + 3 = pc') (H : Go p e below s k n Q T (mkF m pc' Ls st)) : Go p e below s k n Q T (mkF m pc Ls (.null :: st)) := by
  subst hp
  exact H.via fun t q => XS.ifnonnullNo X.here hx rfl hd rfl q
theorem g_ldc (pc' : Nat) (X : Stand p l e R s m args below meth c T locs cells slots) (hx : p.tables.exec = Jvm.exec) (hZ : Z.Warmed39 s.vm) {own : String} {index : Nat} {z : Int32} (hown : s.vm.findClass own = some m.cls) (w : (Cond.constant own index z).before a0 Z = true) (hd : decode c.code pc = .ok (.ldc index, 2)) (hp : pc + 2 = pc') (H : Go p e below s k n Q T (mkF m pc' Ls (.int z :: st))) : Go p e below s k n Q T (mkF m pc Ls st) := by
  subst hp
  exact H.via fun t q => X.ldcInt hx hown (mvT hZ w) (g := mkF m pc Ls st) rfl hd t q
theorem g_ldc2 (pc' : Nat) (X : Stand p l e R s m args below meth c T locs cells slots) (hx : p.tables.exec = Jvm.exec) (hZ : Z.Warmed39 s.vm) {own : String} {index : Nat} {z : Int64} (hown : s.vm.findClass own = some m.cls) (w : (Cond.constantLong own index z).before a0 Z = true) (hd : decode c.code pc = .ok (.ldc2_w index, 3)) (hp : pc + 3 = pc') (H : Go p e below s k n Q T (mkF m pc' Ls (.long z :: st))) : Go p e below s k n Q T (mkF m pc Ls st) := by
  subst hp
  exact H.via fun t q => X.ldc2Long hx hown (mvT hZ w) (g := mkF m pc Ls st) rfl hd t q
theorem g_retI (X : Stand p l e R s m args below meth c T locs cells slots) (hx : p.tables.exec = Jvm.exec) (hret : meth.sig.returnType = some .int) (hlk : meth.locks = false) {z : Int32} (hd : decode c.code pc = .ok (.ireturn, 1)) (hk : cells ≤ k) (hn : slots ≤ n) (hQ : Q (some (.int z)) T.heap locs) : Go p e below s k n Q T (mkF m pc Ls (.int z :: st)) := by
  obtain ⟨fs, hr, hrun, hended, hW, hsame⟩ := X.leave (v := some (.int z)) (fun q => by rw [hret] at q; cases q) hlk
  exact ⟨_, _, retOut X hx hret rfl (Or.inl ⟨rfl, Or.inl rfl, z, rfl⟩) hd hr, hrun, hended, _, _, rfl, hQ, ⟨_, rfl⟩, hW, hsame.mono hk hn⟩
theorem g_retJ (X : Stand p l e R s m args below meth c T locs cells slots) (hx : p.tables.exec = Jvm.exec) (hret : meth.sig.returnType = some .long) (hlk : meth.locks = false) {z : Int64} (hd : decode c.code pc = .ok (.lreturn, 1)) (hk : cells ≤ k) (hn : slots ≤ n) (hQ : Q (some (.long z)) T.heap locs) : Go p e below s k n Q T (mkF m pc Ls (.long z :: st)) := by
  obtain ⟨fs, hr, hrun, hended, hW, hsame⟩ := X.leave (v := some (.long z)) (fun q => by rw [hret] at q; cases q) hlk
  exact ⟨_, _, retOut X hx hret rfl (Or.inr (Or.inl ⟨rfl, rfl, z, rfl⟩)) hd hr, hrun, hended, _, _, rfl, hQ, ⟨_, rfl⟩, hW, hsame.mono hk hn⟩
theorem g_retA {ty : FieldType} (X : Stand p l e R s m args below meth c T locs cells slots) (hx : p.tables.exec = Jvm.exec) (hret : meth.sig.returnType = some ty) (hlk : meth.locks = false) {v : Value} (hty : ty.isReference = true) (hv : v.isRef = true) (hnv : narrow ty v = v) (hd : decode c.code pc = .ok (.areturn, 1)) (hk : cells ≤ k) (hn : slots ≤ n) (hQ : Q (some v) T.heap locs) : Go p e below s k n Q T (mkF m pc Ls (v :: st)) := by
  obtain ⟨fs, hr, hrun, hended, hW, hsame⟩ := X.leave (v := some v) (fun q => by rw [hret] at q; cases q) hlk
  exact ⟨_, _, retOut X hx hret hnv (Or.inr (Or.inr (Or.inr (Or.inr ⟨rfl, hty, hv⟩)))) hd hr, hrun, hended, _, _, rfl, hQ, ⟨_, rfl⟩, hW, hsame.mono hk hn⟩
theorem g_ret0 (X : Stand p l e R s m args below meth c T locs cells slots) (hx : p.tables.exec = Jvm.exec) (hret : meth.sig.returnType = none) (hlk : meth.locks = false) (hd : decode c.code pc = .ok (.return_, 1)) (hk : cells ≤ k) (hn : slots ≤ n) (hQ : Q (none) T.heap locs) : Go p e below s k n Q T (mkF m pc Ls []) := by
  obtain ⟨fs, hr, hrun, hended, hW, hsame⟩ := X.leave (v := none) (fun _ => rfl) hlk
  exact ⟨_, _, X.returnOut hx hret hd hr, hrun, hended, _, _, rfl, hQ, ⟨_, rfl⟩, hW, hsame.mono hk hn⟩
theorem g_retN (X : Stand p l e R s m args below meth c T locs cells slots) (hx : p.tables.exec = Jvm.exec) {t : FieldType} (hret : meth.sig.returnType = some t) (hlk : meth.locks = false) {z z' : Int32} (ht : t = .boolean ∨ t = .byte ∨ t = .char ∨ t = .short) (hz : nar t z = z') (hd : decode c.code pc = .ok (.ireturn, 1)) (hk : cells ≤ k) (hn : slots ≤ n) (hQ : Q (some (.int z')) T.heap locs) : Go p e below s k n Q T (mkF m pc Ls (.int z :: st)) := by
  subst hz
  obtain ⟨fs, hr, hrun, hended, hW, hsame⟩ := X.leave (v := some (.int (nar t z))) (fun q => by rw [hret] at q; cases q) hlk
  exact ⟨_, _, retN X hx hret ht hd hr, hrun, hended, _, _, rfl, hQ, ⟨_, rfl⟩, hW, hsame.mono hk hn⟩
theorem g_getF (pc' : Nat) (X : Stand p l e R s m args below meth c T locs cells slots) (hx : p.tables.exec = Jvm.exec) (hZ : Z.Warmed39 s.vm) {own R0 O nm d : String} {index : Nat} (hown : s.vm.findClass own = some m.cls) (w : (Cond.fieldLink own index R0 nm d).before a0 Z = true) (via : Via Z R0 O nm d) (eT : T.heap = h) {a : Addr} {v : Value} (F : Fld Z h a O nm d v) (hd : decode c.code pc = .ok (.getfield index, 3)) (hp : pc + 3 = pc') (H : ∀ T', Stand p l e R s m args below meth c T' locs cells slots → T'.heap = h → Go p e below s k n Q T' (mkF m pc' Ls (v :: st))) : Go p e below s k n Q T (mkF m pc Ls (.ref a :: st)) := by
  subst hp
  obtain ⟨T', X', e', q⟩ := getF X hx hZ hown (host := "") (Or.inl w) via eT F (g := mkF m pc Ls (.ref a :: st)) rfl rfl hd
  exact (H T' X' e').via q
theorem g_putF (pc' : Nat) (X : Stand p l e R s m args below meth c T locs cells slots) (hx : p.tables.exec = Jvm.exec) (hZ : Z.Warmed39 s.vm) {own R0 O nm d C : String} {index kk : Nat} {ty : FieldType} (hown : s.vm.findClass own = some m.cls) (w : (Cond.fieldLink own index R0 nm d).before a0 Z = true) (via : Via Z R0 O nm d) (eT : T.heap = h) {a : Addr} {v old : Value} (F : Fld Z h a O nm d old) (E : Exa Z h a C) (L : (Cond.lays C O nm d).before a0 Z = true ∨ ((Cond.laysFinal C O nm d).before a0 Z = true ∧ own = O ∧ meth.name = "<init>")) (wi : (Cond.instantiable C kk).before a0 Z = true) (hty : parseFieldDescriptor d = some ty) (hn : narrow ty v = v) (hf : fits ty v = true) (hd : decode c.code pc = .ok (.putfield index, 3)) (hp : pc + 3 = pc') (H : ∀ T' h', Stand p l e R s m args below meth c T' (locs ++ [⟨a, Jvm.RoadKit.slotOf Z O nm d⟩]) cells slots → T'.heap = h' → Wr h h' a (Jvm.RoadKit.slotOf Z O nm d) v → Go p e below s k n Q T' (mkF m pc' Ls st)) : Go p e below s k n Q T (mkF m pc Ls (v :: .ref a :: st)) := by
  subst hp
  obtain ⟨T', h', X', e', W, q⟩ := putF X hx hZ hown (host := "") (Or.inl w) via eT F E L wi hty hn hf (g := mkF m pc Ls (v :: .ref a :: st)) rfl rfl hd
  exact (H T' h' X' e' W).via q
theorem g_newO (pc' : Nat) (X : Stand p l e R s m args below meth c T locs cells slots) (hx : p.tables.exec = Jvm.exec) (hZ : Z.Warmed39 s.vm) {own C : String} {index nn : Nat} (hown : s.vm.findClass own = some m.cls) (w : (Cond.classLink own index C).before a0 Z = true) (wi : (Cond.instantiable C nn).before a0 Z = true) (wz : (Cond.initialized C).before a0 Z = true) (eT : T.heap = h) (hd : decode c.code pc = .ok (.new index, 3)) (hc : cells + 1 ≤ R.cells) (hl : slots + nn ≤ R.slots) (hp : pc + 3 = pc') (H : ∀ T' h' b, Stand p l e R s m args below meth c T' locs (cells + 1) (slots + nn) → T'.heap = h' → Ext h h' → b = h.size → Exa Z h' b C → (∀ {O nm d : String} {ty : FieldType}, Laid Z a0 C O nm d → parseFieldDescriptor d = some ty → Fld Z h' b O nm d (defaultValue ty)) → Go p e below s k n Q T' (mkF m pc' Ls (.ref b :: st))) : Go p e below s k n Q T (mkF m pc Ls st) := by
  subst hp
  obtain ⟨T', h', X', e', E, A, D, -, q⟩ := newO X hx hZ hown w wi wz eT (g := mkF m pc Ls st) rfl hd hc hl
  exact (H T' h' _ X' e' E rfl A D).via q
theorem g_initO (pc' : Nat) (X : Stand p l e R s m args below meth c T locs cells slots) (hx : p.tables.exec = Jvm.exec) (hZ : Z.Warmed39 s.vm) {own : String} {idx : Nat} (hown : s.vm.findClass own = some m.cls) (w1 : (Cond.methodLink own idx Lib.objectInit).before a0 Z = true) (w2 : (Cond.instanceMethod Lib.objectInit).before a0 Z = true) (w3 : (Cond.code Lib.objectInit ⟨#[0xb1]⟩ 1 none).before a0 Z = true) (eT : T.heap = h) (hsize : Ls.size = c.maxLocals) {a : Addr} (hd : decode c.code pc = .ok (.invokespecial idx, 3)) (hf : 1 ≤ R.frames) (W : Nat) (hW : (st.map fun v => v.category).sum ≤ W) (hl : W + 12 ≤ R.locals) (hp : pc + 3 = pc') (H : ∀ T', Stand p l e R s m args below meth c T' locs cells slots → T'.heap = h → Go p e below s k n Q T' (mkF m pc' Ls st)) : Go p e below s k n Q T (mkF m pc Ls (.ref a :: st)) := by
  subst hp
  obtain ⟨T', X', e', q⟩ := initO X hx hZ hown w1 w2 w3 eT (g := mkF m pc Ls (.ref a :: st)) rfl hsize rfl hd hf (W := W) (by show 2 * 0 + _ ≤ _; omega) hl
  exact (H T' X' e').via q
theorem g_callS (pc' : Nat) (X : Stand p l e R s m args below meth c T locs cells slots) (hx : p.tables.exec = Jvm.exec) (hZ : Z.Warmed39 s.vm) {own : String} {index : Nat} {y : MethodName} {bytes : ByteArray} {maxL : Nat} {ret : Option FieldType} {rm : Room} {as' : Array Value} {Qc : Option Value → Heap → List Loc → Prop} (hown : s.vm.findClass own = some m.cls) (w1 : (Cond.methodLink own index y).before a0 Z = true) (w2 : (Cond.static y).before a0 Z = true) (w3 : (Cond.initialized y.cls).before a0 Z = true) (w4 : (Cond.code y bytes maxL ret).before a0 Z = true) (hy : y.cls ≠ "java/lang/invoke/MethodHandle" ∧ y.cls ≠ "java/lang/invoke/VarHandle") (eT : T.heap = h) (hM : MetFree l y (head1 [Cond.code y bytes maxL ret] rm) (fun a U => a = as' ∧ Z.Warmed39 U.vm ∧ U.heap = h) (fun _ _ _ _ _ => True) (fun _ U o U' => ∃ v L, o = .returned v ∧ Qc v U'.heap L ∧ FrameEnd U o U' L rm.cells rm.slots)) (hsize : Ls.size = c.maxLocals) (argsL rest : List Value) (ha : argsL.toArray = as') (hst : st = argsL.reverse ++ rest) (hlen : ∀ sig, parseMethodDescriptor y.desc = some sig → argsL.length = sig.parameters.length) (W : Nat) (hW : (rest.map fun v => v.category).sum ≤ W) (hd : decode c.code pc = .ok (.invokestatic index, 3)) (hfr : rm.frames + 1 ≤ R.frames) (hlo : W + (maxL + 11) + rm.locals ≤ R.locals) (hce : cells + rm.cells ≤ R.cells) (hsl : slots + rm.slots ≤ R.slots) (hp : pc + 3 = pc') (H : ∀ v T' L, Stand p l e R s m args below meth c T' (locs ++ L) (cells + rm.cells) (slots + rm.slots) → Qc v T'.heap L → Go p e below s k n Q T' (mkF m pc' Ls (v.toList ++ rest))) : Go p e below s k n Q T (mkF m pc Ls st) := by
  subst hp hst
  obtain ⟨v, _, ⟨T', L, k', n'⟩, -, X', ⟨Lc, hQ, l1, l2, l3⟩, q⟩ := Jvm.LawKit.callS X hx (y := y) hown (mvT hZ w1) (mvT hZ w2) (mvT hZ w3) (mvT hZ w4) hy (backOf (W := W) hM hZ w4 w3 hfr hlo) (g := mkF m pc Ls (argsL.reverse ++ rest)) rfl hsize (argsL := argsL) (rest := rest) hlen rfl (by show 2 * 0 + _ ≤ _; omega) hd (fun _ _ => ⟨ha, eT, hce, hsl⟩)
  dsimp only [Pt.U, Pt.locs, Pt.cells, Pt.slots] at X' l1 l2 l3 q hQ
  subst l1 l2 l3
  exact (H v T' Lc X' hQ).via q
theorem g_callI (pc' : Nat) (X : Stand p l e R s m args below meth c T locs cells slots) (hx : p.tables.exec = Jvm.exec) (hZ : Z.Warmed39 s.vm) {own : String} {index : Nat} {y : MethodName} {bytes : ByteArray} {maxL : Nat} {rm : Room} {as' : Array Value} {Qc : Option Value → Heap → List Loc → Prop} (hy1 : y.name = "<init>") (hown : s.vm.findClass own = some m.cls) (w1 : (Cond.methodLink own index y).before a0 Z = true) (w2 : (Cond.instanceMethod y).before a0 Z = true) (w3 : (Cond.initialized y.cls).before a0 Z = true) (w4 : (Cond.code y bytes maxL none).before a0 Z = true) (hy : y.cls ≠ "java/lang/invoke/MethodHandle" ∧ y.cls ≠ "java/lang/invoke/VarHandle") (eT : T.heap = h) (hM : MetFree l y (head1 [Cond.code y bytes maxL none] rm) (fun a U => a = as' ∧ Z.Warmed39 U.vm ∧ U.heap = h) (fun _ _ _ _ _ => True) (fun _ U o U' => ∃ v L, o = .returned v ∧ Qc v U'.heap L ∧ FrameEnd U o U' L rm.cells rm.slots)) (hsize : Ls.size = c.maxLocals) (a : Addr) (argsL rest : List Value) (ha : (.ref a :: argsL).toArray = as') (hst : st = argsL.reverse ++ .ref a :: rest) (hlen : ∀ sig, parseMethodDescriptor y.desc = some sig → argsL.length = sig.parameters.length) (W : Nat) (hW : (rest.map fun v => v.category).sum ≤ W) (hd : decode c.code pc = .ok (.invokespecial index, 3)) (hfr : rm.frames + 1 ≤ R.frames) (hlo : W + (maxL + 11) + rm.locals ≤ R.locals) (hce : cells + rm.cells ≤ R.cells) (hsl : slots + rm.slots ≤ R.slots) (hp : pc + 3 = pc') (H : ∀ v T' L, Stand p l e R s m args below meth c T' (locs ++ L) (cells + rm.cells) (slots + rm.slots) → Qc v T'.heap L → Go p e below s k n Q T' (mkF m pc' Ls (v.toList ++ rest))) : Go p e below s k n Q T (mkF m pc Ls st) := by
  subst hp hst
  obtain ⟨v, _, ⟨T', L, k', n'⟩, -, X', ⟨Lc, hQ, l1, l2, l3⟩, q⟩ := X.specialBack hx (y := y) hy1 hown (mvT hZ w1) (mvT hZ w2) (mvT hZ w4) hy (backOf (W := W) hM hZ w4 w3 hfr hlo) (g := mkF m pc Ls (argsL.reverse ++ .ref a :: rest)) rfl hsize (Steps.refl _) (a := a) (argsL := argsL) (rest := rest) hlen rfl (by show 2 * 0 + _ ≤ _; omega) hd (fun _ _ => ⟨ha, eT, hce, hsl⟩)
  dsimp only [Pt.U, Pt.locs, Pt.cells, Pt.slots] at X' l1 l2 l3 q hQ
  subst l1 l2 l3
  exact (H v T' Lc X' hQ).via fun t r => q.trans r
theorem g_callV (pc' : Nat) (X : Stand p l e R s m args below meth c T locs cells slots) (hx : p.tables.exec = Jvm.exec) (hZ : Z.Warmed39 s.vm) {own : String} {index : Nat} {y : MethodName} {bytes : ByteArray} {maxL : Nat} {ret : Option FieldType} {rm : Room} {as' : Array Value} {Qc : Option Value → Heap → List Loc → Prop} (hown : s.vm.findClass own = some m.cls) (w1 : (Cond.methodLink own index y).before a0 Z = true) (w2 : (Cond.declares y).before a0 Z = true) (w5 : (Cond.selects y.cls y y).before a0 Z = true) (w6 : (Cond.instanceMethod y).before a0 Z = true) (w3 : (Cond.initialized y.cls).before a0 Z = true) (w4 : (Cond.code y bytes maxL ret).before a0 Z = true) (hy : y.cls ≠ "java/lang/invoke/MethodHandle" ∧ y.cls ≠ "java/lang/invoke/VarHandle") (eT : T.heap = h) {a : Addr} (E : Exa Z h a y.cls) (hM : MetFree l y (head1 [Cond.code y bytes maxL ret] rm) (fun a U => a = as' ∧ Z.Warmed39 U.vm ∧ U.heap = h) (fun _ _ _ _ _ => True) (fun _ U o U' => ∃ v L, o = .returned v ∧ Qc v U'.heap L ∧ FrameEnd U o U' L rm.cells rm.slots)) (hsize : Ls.size = c.maxLocals) (argsL rest : List Value) (ha : (.ref a :: argsL).toArray = as') (hst : st = argsL.reverse ++ .ref a :: rest) (hlen : ∀ sig, parseMethodDescriptor y.desc = some sig → argsL.length = sig.parameters.length) (W : Nat) (hW : (rest.map fun v => v.category).sum ≤ W) (hd : decode c.code pc = .ok (.invokevirtual index, 3)) (hfr : rm.frames + 1 ≤ R.frames) (hlo : W + (maxL + 11) + rm.locals ≤ R.locals) (hce : cells + rm.cells ≤ R.cells) (hsl : slots + rm.slots ≤ R.slots) (hp : pc + 3 = pc') (H : ∀ v T' L, Stand p l e R s m args below meth c T' (locs ++ L) (cells + rm.cells) (slots + rm.slots) → Qc v T'.heap L → Go p e below s k n Q T' (mkF m pc' Ls (v.toList ++ rest))) : Go p e below s k n Q T (mkF m pc Ls st) := by
  subst hp hst
  obtain ⟨cq, kq, qa, qb, qc⟩ := isOf hZ eT E
  obtain ⟨v, _, ⟨T', L, k', n'⟩, -, X', ⟨Lc, hQ, l1, l2, l3⟩, q⟩ := X.virtualBack hx (y := y) (z := y) hown (mvT hZ w1) (mvT hZ w2) (notFace_of_selects (args := #[]) (mvT hZ w5)) (mvT hZ w5) (mvT hZ w6) hy (backOf (W := W) hM hZ w4 w3 hfr hlo) qa qc (g := mkF m pc Ls (argsL.reverse ++ .ref a :: rest)) rfl hsize (Steps.refl _) (argsL := argsL) (rest := rest) hlen rfl (by show 2 * 0 + _ ≤ _; omega) hd (fun _ _ => ⟨ha, eT, hce, hsl⟩)
  dsimp only [Pt.U, Pt.locs, Pt.cells, Pt.slots] at X' l1 l2 l3 q hQ
  subst l1 l2 l3
  exact (H v T' Lc X' hQ).via fun t r => q.trans r
end OwnKit
theorem own_lrem (x y : Int64) (d : Int) (hy : y.toInt = d) : (0 ≤ x.toInt → (x % y).toInt = x.toInt % d) ∧ (x.toInt < 0 → (x % y).toInt = -((-x.toInt) % d)) := by
  rw [Int64.toInt_mod, hy]; exact tr _ _
theorem own_lremV (x y : Int64) : 0 ≤ x.toInt → 0 < y.toInt → 0 ≤ (x % y).toInt ∧ (x % y).toInt < y.toInt ∧ (x % y).toInt ≤ x.toInt := by
  intro h1 h2
  rw [Int64.toInt_mod, Int.tmod_eq_emod_of_nonneg h1]
  have a := Int.emod_nonneg x.toInt (by omega : y.toInt ≠ 0)
  have b := Int.emod_lt_of_pos x.toInt h2
  refine ⟨a, b, ?_⟩
  by_cases c : x.toInt < y.toInt
  · rw [Int.emod_eq_of_lt h1 c]; exact Int.le_refl _
  · omega
theorem own_prod {a b A B : Int} (h1 : 0 ≤ a) (h2 : a ≤ A) (h3 : 0 ≤ b) (h4 : b ≤ B) : 0 ≤ a * b ∧ a * b ≤ A * B :=
  ⟨Int.mul_nonneg h1 h3, Int.mul_le_mul h2 h4 h3 (Int.le_trans h1 h2)⟩

theorem d1_0 : decode jdk_29_method_69_code 0 = .ok (.iload_n 0, 1) := by decide +kernel
theorem d1_1 : decode jdk_29_method_69_code 1 = .ok (.iload_n 1, 1) := by decide +kernel
theorem d1_2 : decode jdk_29_method_69_code 2 = .ok (.if_icmp .gt 7, 3) := by decide +kernel
theorem d1_5 : decode jdk_29_method_69_code 5 = .ok (.iload_n 0, 1) := by decide +kernel
theorem d1_6 : decode jdk_29_method_69_code 6 = .ok (.goto 4, 3) := by decide +kernel
theorem d1_9 : decode jdk_29_method_69_code 9 = .ok (.iload_n 1, 1) := by decide +kernel
theorem d1_10 : decode jdk_29_method_69_code 10 = .ok (.ireturn, 1) := by decide +kernel
def Rel1 (p1 : Int32) (p2 : Int32) (r : Int32) : Prop := (p2 < p1 ∧ r = p2) ∨ (¬ (p2 < p1) ∧ r = p1)
def Q1 (Z : State) (p1 : Int32) (p2 : Int32) (h0 : Heap) (n0 : Nat) (v : Option Value) (h : Heap) (L : List Loc) : Prop := ∃ r : Int32, v = some (.int r) ∧ Rel1 p1 p2 r ∧ Fr n0 L ∧ h = h0
theorem ef_rm1 (m : MethodId) (p1 : Int32) (p2 : Int32) : entryFrame m #[(.int p1), (.int p2)] 2 = mkF m 0 #[.val (.int p1), .val (.int p2)] [] := by first | (simp [entryFrame, mkF, argsToLocals, Value.category]; done) | rfl
set_option maxRecDepth 65536 in
set_option maxHeartbeats 40000000 in
theorem rm1 (l : Launch) (Z : State) (a0 : Array Value) (hw : ∀ d ∈ tables_1, d.before a0 Z = true) (ws : List Jvm.Cond) (p1 : Int32) (p2 : Int32) (h0 : Heap) (n0 : Nat) (Z0 : n0 ≤ h0.size)  :
    MetFree l (⟨"java/lang/Math", "min", "(II)I"⟩ : MethodName) (head1 (Jvm.Cond.code (⟨"java/lang/Math", "min", "(II)I"⟩ : MethodName) jdk_29_method_69_code 2 (some .int) :: ws) ({ frames := 0, cells := 0, slots := 0, locals := 0 } : Room)) (fun a U => a = #[(.int p1), (.int p2)] ∧ Z.Warmed39 U.vm ∧ U.heap = h0) (fun _ _ _ _ _ => True) (fun _ U o U' => ∃ v L, o = .returned v ∧ (Q1 Z p1 p2 h0 n0) v U'.heap L ∧ FrameEnd U o U' L ({ frames := 0, cells := 0, slots := 0, locals := 0 } : Room).cells ({ frames := 0, cells := 0, slots := 0, locals := 0 } : Room).slots) := by
  refine MetFree.of_bodySF (Jvm.Free.JP.mathPlain rfl (by decide +kernel)) hisR ?_
  intro p e s m args below meth c s₁ Bd hml0 hP hK
  obtain ⟨rfl, hZ, hh⟩ := hP
  have hx := Bd.exec
  have hby := Bd.bytes
  have hml : c.maxLocals = 2 := hml0
  have hown : s.vm.findClass "java/lang/Math" = some m.cls := findClass_of_methodNamed Bd.named
  have hnm := (name_of_methodNamed Bd.named Bd.method).1
  have hlk : meth.locks = false := BodyLoose.notSynchronized Bd
  have X0 : Stand p l e ({ frames := 0, cells := 0, slots := 0, locals := 0 } : Room) s m #[(.int p1), (.int p2)] below meth c s₁ [] 0 0 := Stand.of_body Bd
  have e0 : s₁.heap = h0 := by rw [← hh, Bd.state]; rfl
  have N0 := Fr.nil n0
  show Go p e below s ({ frames := 0, cells := 0, slots := 0, locals := 0 } : Room).cells ({ frames := 0, cells := 0, slots := 0, locals := 0 } : Room).slots (Q1 Z p1 p2 h0 n0) s₁ (entryFrame m #[(.int p1), (.int p2)] 2)
  rw [ef_rm1 m p1 p2]
  refine g_iloadN 1 X0 hx (hb hby d1_0) rfl (v := p1) rfl ?_
  refine g_iloadN 2 X0 hx (hb hby d1_1) rfl (v := p2) rfl ?_
  by_cases hc2_0 : p2 < p1
  ·
    refine g_icmpYes 9 X0 hx (hb hby d1_2)  (tlt hc2_0).2.2.1 (by decide) (by decide) ?_
    refine g_iloadN 10 X0 hx (hb hby d1_9) rfl (v := p2) rfl ?_
    exact g_retI X0 hx Bd.returns hlk (hb hby d1_10) (by decide) (by decide) ⟨p2, rfl, (Or.inl ⟨hc2_0, rfl⟩), N0, e0⟩
  ·
    refine g_icmpNo 5 X0 hx (hb hby d1_2)  (flt hc2_0).2.2.1 rfl ?_
    refine g_iloadN 6 X0 hx (hb hby d1_5) rfl (v := p1) rfl ?_
    refine g_goto 10 X0 hx (hb hby d1_6) (by decide) (by decide) ?_
    exact g_retI X0 hx Bd.returns hlk (hb hby d1_10) (by decide) (by decide) ⟨p1, rfl, (Or.inr ⟨hc2_0, rfl⟩), N0, e0⟩
theorem d2_0 : decode jdk_29_method_65_code 0 = .ok (.iload_n 0, 1) := by decide +kernel
theorem d2_1 : decode jdk_29_method_65_code 1 = .ok (.iload_n 1, 1) := by decide +kernel
theorem d2_2 : decode jdk_29_method_65_code 2 = .ok (.if_icmp .lt 7, 3) := by decide +kernel
theorem d2_5 : decode jdk_29_method_65_code 5 = .ok (.iload_n 0, 1) := by decide +kernel
theorem d2_6 : decode jdk_29_method_65_code 6 = .ok (.goto 4, 3) := by decide +kernel
theorem d2_9 : decode jdk_29_method_65_code 9 = .ok (.iload_n 1, 1) := by decide +kernel
theorem d2_10 : decode jdk_29_method_65_code 10 = .ok (.ireturn, 1) := by decide +kernel
def Rel2 (p1 : Int32) (p2 : Int32) (r : Int32) : Prop := (p1 < p2 ∧ r = p2) ∨ (¬ (p1 < p2) ∧ r = p1)
def Q2 (Z : State) (p1 : Int32) (p2 : Int32) (h0 : Heap) (n0 : Nat) (v : Option Value) (h : Heap) (L : List Loc) : Prop := ∃ r : Int32, v = some (.int r) ∧ Rel2 p1 p2 r ∧ Fr n0 L ∧ h = h0
theorem ef_rm2 (m : MethodId) (p1 : Int32) (p2 : Int32) : entryFrame m #[(.int p1), (.int p2)] 2 = mkF m 0 #[.val (.int p1), .val (.int p2)] [] := by first | (simp [entryFrame, mkF, argsToLocals, Value.category]; done) | rfl
set_option maxRecDepth 65536 in
set_option maxHeartbeats 40000000 in
theorem rm2 (l : Launch) (Z : State) (a0 : Array Value) (hw : ∀ d ∈ tables_1, d.before a0 Z = true) (ws : List Jvm.Cond) (p1 : Int32) (p2 : Int32) (h0 : Heap) (n0 : Nat) (Z0 : n0 ≤ h0.size)  :
    MetFree l (⟨"java/lang/Math", "max", "(II)I"⟩ : MethodName) (head1 (Jvm.Cond.code (⟨"java/lang/Math", "max", "(II)I"⟩ : MethodName) jdk_29_method_65_code 2 (some .int) :: ws) ({ frames := 0, cells := 0, slots := 0, locals := 0 } : Room)) (fun a U => a = #[(.int p1), (.int p2)] ∧ Z.Warmed39 U.vm ∧ U.heap = h0) (fun _ _ _ _ _ => True) (fun _ U o U' => ∃ v L, o = .returned v ∧ (Q2 Z p1 p2 h0 n0) v U'.heap L ∧ FrameEnd U o U' L ({ frames := 0, cells := 0, slots := 0, locals := 0 } : Room).cells ({ frames := 0, cells := 0, slots := 0, locals := 0 } : Room).slots) := by
  refine MetFree.of_bodySF (Jvm.Free.JP.mathPlain rfl (by decide +kernel)) hisR ?_
  intro p e s m args below meth c s₁ Bd hml0 hP hK
  obtain ⟨rfl, hZ, hh⟩ := hP
  have hx := Bd.exec
  have hby := Bd.bytes
  have hml : c.maxLocals = 2 := hml0
  have hown : s.vm.findClass "java/lang/Math" = some m.cls := findClass_of_methodNamed Bd.named
  have hnm := (name_of_methodNamed Bd.named Bd.method).1
  have hlk : meth.locks = false := BodyLoose.notSynchronized Bd
  have X0 : Stand p l e ({ frames := 0, cells := 0, slots := 0, locals := 0 } : Room) s m #[(.int p1), (.int p2)] below meth c s₁ [] 0 0 := Stand.of_body Bd
  have e0 : s₁.heap = h0 := by rw [← hh, Bd.state]; rfl
  have N0 := Fr.nil n0
  show Go p e below s ({ frames := 0, cells := 0, slots := 0, locals := 0 } : Room).cells ({ frames := 0, cells := 0, slots := 0, locals := 0 } : Room).slots (Q2 Z p1 p2 h0 n0) s₁ (entryFrame m #[(.int p1), (.int p2)] 2)
  rw [ef_rm2 m p1 p2]
  refine g_iloadN 1 X0 hx (hb hby d2_0) rfl (v := p1) rfl ?_
  refine g_iloadN 2 X0 hx (hb hby d2_1) rfl (v := p2) rfl ?_
  by_cases hc2_0 : p1 < p2
  ·
    refine g_icmpYes 9 X0 hx (hb hby d2_2)  (tlt hc2_0).1 (by decide) (by decide) ?_
    refine g_iloadN 10 X0 hx (hb hby d2_9) rfl (v := p2) rfl ?_
    exact g_retI X0 hx Bd.returns hlk (hb hby d2_10) (by decide) (by decide) ⟨p2, rfl, (Or.inl ⟨hc2_0, rfl⟩), N0, e0⟩
  ·
    refine g_icmpNo 5 X0 hx (hb hby d2_2)  (flt hc2_0).1 rfl ?_
    refine g_iloadN 6 X0 hx (hb hby d2_5) rfl (v := p1) rfl ?_
    refine g_goto 10 X0 hx (hb hby d2_6) (by decide) (by decide) ?_
    exact g_retI X0 hx Bd.returns hlk (hb hby d2_10) (by decide) (by decide) ⟨p1, rfl, (Or.inr ⟨hc2_0, rfl⟩), N0, e0⟩
theorem pn_0 : plainName "java/lang/Record" = true := by first | (simp [plainName, overriddenIn]; done) | decide +kernel
theorem d4_0 : decode jdk_30_method_1_code 0 = .ok (.aload_n 0, 1) := by decide +kernel
theorem d4_1 : decode jdk_30_method_1_code 1 = .ok (.invokespecial 1, 3) := by decide +kernel
theorem d4_4 : decode jdk_30_method_1_code 4 = .ok (.return_, 1) := by decide +kernel
def Q4 (Z : State) (a1 : Addr) (h0 : Heap) (n0 : Nat) (v : Option Value) (h : Heap) (L : List Loc) : Prop := v = none ∧ Fr n0 L ∧ h = h0
theorem ef_rm4 (m : MethodId) (a1 : Addr) : entryFrame m #[(.ref a1)] 1 = mkF m 0 #[.val (.ref a1)] [] := by first | (simp [entryFrame, mkF, argsToLocals, Value.category]; done) | rfl
set_option maxRecDepth 65536 in
set_option maxHeartbeats 40000000 in
theorem rm4 (l : Launch) (Z : State) (a0 : Array Value) (hw : ∀ d ∈ tables_1, d.before a0 Z = true) (ws : List Jvm.Cond) (a1 : Addr) (h0 : Heap) (n0 : Nat) (Z0 : n0 ≤ h0.size)  :
    MetFree l (⟨"java/lang/Record", "<init>", "()V"⟩ : MethodName) (head1 (Jvm.Cond.code (⟨"java/lang/Record", "<init>", "()V"⟩ : MethodName) jdk_30_method_1_code 1 none :: ws) ({ frames := 1, cells := 0, slots := 0, locals := 12 } : Room)) (fun a U => a = #[(.ref a1)] ∧ Z.Warmed39 U.vm ∧ U.heap = h0) (fun _ _ _ _ _ => True) (fun _ U o U' => ∃ v L, o = .returned v ∧ (Q4 Z a1 h0 n0) v U'.heap L ∧ FrameEnd U o U' L ({ frames := 1, cells := 0, slots := 0, locals := 12 } : Room).cells ({ frames := 1, cells := 0, slots := 0, locals := 12 } : Room).slots) := by
  refine MetFree.of_bodySF (plainFor_of_name pn_0) hisR ?_
  intro p e s m args below meth c s₁ Bd hml0 hP hK
  obtain ⟨rfl, hZ, hh⟩ := hP
  have hx := Bd.exec
  have hby := Bd.bytes
  have hml : c.maxLocals = 1 := hml0
  have hown : s.vm.findClass "java/lang/Record" = some m.cls := findClass_of_methodNamed Bd.named
  have hnm := (name_of_methodNamed Bd.named Bd.method).1
  have hlk : meth.locks = false := BodyLoose.notSynchronized Bd
  have X0 : Stand p l e ({ frames := 1, cells := 0, slots := 0, locals := 12 } : Room) s m #[(.ref a1)] below meth c s₁ [] 0 0 := Stand.of_body Bd
  have e0 : s₁.heap = h0 := by rw [← hh, Bd.state]; rfl
  have N0 := Fr.nil n0
  show Go p e below s ({ frames := 1, cells := 0, slots := 0, locals := 12 } : Room).cells ({ frames := 1, cells := 0, slots := 0, locals := 12 } : Room).slots (Q4 Z a1 h0 n0) s₁ (entryFrame m #[(.ref a1)] 1)
  rw [ef_rm4 m a1]
  refine g_aloadN 1 X0 hx (hb hby d4_0) rfl (v := (.ref a1)) rfl rfl ?_
  refine g_initO 4 X0 hx hZ hown (hw _ (List.mem_of_getElem? (i := 19) rfl)) (hw _ (List.mem_of_getElem? (i := 20) rfl)) (hw _ (List.mem_of_getElem? (i := 21) rfl)) e0 (by rw [hml]; rfl) (hb hby d4_1) (by decide) 0 (Nat.le_of_eq rfl) (by decide) rfl ?_
  intro T1 X1 e1
  exact g_ret0 X1 hx Bd.returns hlk (hb hby d4_4) (by decide) (by decide) ⟨rfl, N0, e1⟩
theorem pd_0 : parseMethodDescriptor "()V" = some ⟨[], none⟩ := by decide +kernel
theorem d3_0 : decode prog_2_method_1_code 0 = .ok (.aload_n 0, 1) := by decide +kernel
theorem d3_1 : decode prog_2_method_1_code 1 = .ok (.invokespecial 1, 3) := by decide +kernel
theorem d3_4 : decode prog_2_method_1_code 4 = .ok (.iload_n 1, 1) := by decide +kernel
theorem d3_5 : decode prog_2_method_1_code 5 = .ok (.ifCond .lt 7, 3) := by decide +kernel
theorem d3_8 : decode prog_2_method_1_code 8 = .ok (.iload_n 2, 1) := by decide +kernel
theorem d3_9 : decode prog_2_method_1_code 9 = .ok (.ifCond .ge 19, 3) := by decide +kernel
theorem d3_12 : decode prog_2_method_1_code 12 = .ok (.new 7, 3) := by decide +kernel
theorem d3_15 : decode prog_2_method_1_code 15 = .ok (.dup, 1) := by decide +kernel
theorem d3_16 : decode prog_2_method_1_code 16 = .ok (.iload_n 1, 1) := by decide +kernel
theorem d3_17 : decode prog_2_method_1_code 17 = .ok (.iload_n 2, 1) := by decide +kernel
theorem d3_18 : decode prog_2_method_1_code 18 = .ok (.iload_n 3, 1) := by decide +kernel
theorem d3_24 : decode prog_2_method_1_code 24 = .ok (.invokespecial 13, 3) := by decide +kernel
theorem d3_27 : decode prog_2_method_1_code 27 = .ok (.athrow, 1) := by decide +kernel
theorem d3_28 : decode prog_2_method_1_code 28 = .ok (.iload_n 3, 1) := by decide +kernel
theorem d3_29 : decode prog_2_method_1_code 29 = .ok (.iload_n 2, 1) := by decide +kernel
theorem d3_30 : decode prog_2_method_1_code 30 = .ok (.if_icmp .ge 18, 3) := by decide +kernel
theorem d3_33 : decode prog_2_method_1_code 33 = .ok (.new 7, 3) := by decide +kernel
theorem d3_36 : decode prog_2_method_1_code 36 = .ok (.dup, 1) := by decide +kernel
theorem d3_37 : decode prog_2_method_1_code 37 = .ok (.iload_n 2, 1) := by decide +kernel
theorem d3_38 : decode prog_2_method_1_code 38 = .ok (.iload_n 3, 1) := by decide +kernel
theorem d3_44 : decode prog_2_method_1_code 44 = .ok (.invokespecial 13, 3) := by decide +kernel
theorem d3_47 : decode prog_2_method_1_code 47 = .ok (.athrow, 1) := by decide +kernel
theorem d3_48 : decode prog_2_method_1_code 48 = .ok (.aload_n 0, 1) := by decide +kernel
theorem d3_49 : decode prog_2_method_1_code 49 = .ok (.iload_n 1, 1) := by decide +kernel
theorem d3_50 : decode prog_2_method_1_code 50 = .ok (.putfield 19, 3) := by decide +kernel
theorem d3_53 : decode prog_2_method_1_code 53 = .ok (.aload_n 0, 1) := by decide +kernel
theorem d3_54 : decode prog_2_method_1_code 54 = .ok (.iload_n 2, 1) := by decide +kernel
theorem d3_55 : decode prog_2_method_1_code 55 = .ok (.putfield 25, 3) := by decide +kernel
theorem d3_58 : decode prog_2_method_1_code 58 = .ok (.aload_n 0, 1) := by decide +kernel
theorem d3_59 : decode prog_2_method_1_code 59 = .ok (.iload_n 3, 1) := by decide +kernel
theorem d3_60 : decode prog_2_method_1_code 60 = .ok (.putfield 28, 3) := by decide +kernel
theorem d3_63 : decode prog_2_method_1_code 63 = .ok (.return_, 1) := by decide +kernel
def Q3 (Z : State) (a1 : Addr) (p2 : Int32) (p3 : Int32) (p4 : Int32) (h0 : Heap) (n0 : Nat) (v : Option Value) (h : Heap) (L : List Loc) : Prop := v = none ∧ Fr n0 L ∧ Keep h0 h [a1] ∧ Exa Z h a1 "com/example/bar_visibility/barvisibility/Bar" ∧ Fld Z h a1 "com/example/bar_visibility/barvisibility/Bar" "y" "I" (.int p2) ∧ Fld Z h a1 "com/example/bar_visibility/barvisibility/Bar" "x1" "I" (.int p3) ∧ Fld Z h a1 "com/example/bar_visibility/barvisibility/Bar" "x2" "I" (.int p4)
theorem pn_1 : plainName "com/example/bar_visibility/barvisibility/Bar" = true := by first | (simp [plainName, overriddenIn]; done) | decide +kernel
theorem ef_rm3 (m : MethodId) (a1 : Addr) (p2 : Int32) (p3 : Int32) (p4 : Int32) : entryFrame m #[(.ref a1), (.int p2), (.int p3), (.int p4)] 4 = mkF m 0 #[.val (.ref a1), .val (.int p2), .val (.int p3), .val (.int p4)] [] := by first | (simp [entryFrame, mkF, argsToLocals, Value.category]; done) | rfl
set_option maxRecDepth 65536 in
set_option maxHeartbeats 40000000 in
theorem rm3 (l : Launch) (Z : State) (a0 : Array Value) (hw : ∀ d ∈ tables_1, d.before a0 Z = true) (ws : List Jvm.Cond) (a1 : Addr) (p2 : Int32) (p3 : Int32) (p4 : Int32) (h0 : Heap) (n0 : Nat) (Z0 : n0 ≤ h0.size) (E_a1 : Exa Z h0 a1 "com/example/bar_visibility/barvisibility/Bar") (F_y : Fld Z h0 a1 "com/example/bar_visibility/barvisibility/Bar" "y" "I" (.int (0 : Int32))) (F_x1 : Fld Z h0 a1 "com/example/bar_visibility/barvisibility/Bar" "x1" "I" (.int (0 : Int32))) (F_x2 : Fld Z h0 a1 "com/example/bar_visibility/barvisibility/Bar" "x2" "I" (.int (0 : Int32))) (g_a1 : n0 ≤ a1) (hy : ¬ (p2 < (0 : Int32))) (hx1 : ¬ (p3 < (0 : Int32))) (hx2 : ¬ (p4 < p3)) :
    MetFree l (⟨"com/example/bar_visibility/barvisibility/Bar", "<init>", "(III)V"⟩ : MethodName) (head1 (Jvm.Cond.code (⟨"com/example/bar_visibility/barvisibility/Bar", "<init>", "(III)V"⟩ : MethodName) prog_2_method_1_code 4 none :: ws) ({ frames := 2, cells := 0, slots := 0, locals := 24 } : Room)) (fun a U => a = #[(.ref a1), (.int p2), (.int p3), (.int p4)] ∧ Z.Warmed39 U.vm ∧ U.heap = h0) (fun _ _ _ _ _ => True) (fun _ U o U' => ∃ v L, o = .returned v ∧ (Q3 Z a1 p2 p3 p4 h0 n0) v U'.heap L ∧ FrameEnd U o U' L ({ frames := 2, cells := 0, slots := 0, locals := 24 } : Room).cells ({ frames := 2, cells := 0, slots := 0, locals := 24 } : Room).slots) := by
  refine MetFree.of_bodySF (plainFor_of_name pn_1) hisR ?_
  intro p e s m args below meth c s₁ Bd hml0 hP hK
  obtain ⟨rfl, hZ, hh⟩ := hP
  have hx := Bd.exec
  have hby := Bd.bytes
  have hml : c.maxLocals = 4 := hml0
  have hown : s.vm.findClass "com/example/bar_visibility/barvisibility/Bar" = some m.cls := findClass_of_methodNamed Bd.named
  have hnm := (name_of_methodNamed Bd.named Bd.method).1
  have hlk : meth.locks = false := BodyLoose.notSynchronized Bd
  have X0 : Stand p l e ({ frames := 2, cells := 0, slots := 0, locals := 24 } : Room) s m #[(.ref a1), (.int p2), (.int p3), (.int p4)] below meth c s₁ [] 0 0 := Stand.of_body Bd
  have e0 : s₁.heap = h0 := by rw [← hh, Bd.state]; rfl
  have N0 := Fr.nil n0
  have K0 := Keep.refl h0 [a1]
  show Go p e below s ({ frames := 2, cells := 0, slots := 0, locals := 24 } : Room).cells ({ frames := 2, cells := 0, slots := 0, locals := 24 } : Room).slots (Q3 Z a1 p2 p3 p4 h0 n0) s₁ (entryFrame m #[(.ref a1), (.int p2), (.int p3), (.int p4)] 4)
  rw [ef_rm3 m a1 p2 p3 p4]
  refine g_aloadN 1 X0 hx (hb hby d3_0) rfl (v := (.ref a1)) rfl rfl ?_
  refine g_callI 4 X0 hx hZ (y := (⟨"java/lang/Record", "<init>", "()V"⟩ : MethodName)) rfl hown (hw _ (List.mem_of_getElem? (i := 14) rfl)) (hw _ (List.mem_of_getElem? (i := 15) rfl)) (hw _ (List.mem_of_getElem? (i := 17) rfl)) (hw _ (List.mem_of_getElem? (i := 18) rfl)) (by decide) e0 (rm4 l Z a0 hw [] a1  h0 n0 Z0 ) (by rw [hml]; rfl) a1 [] [] rfl rfl (lenOf pd_0 rfl) 0 (Nat.le_of_eq rfl) (hb hby d3_1) (by decide) (by decide) (by decide) (by decide) rfl ?_
  intro v1 T1 L1 X1 hQ1
  obtain ⟨rfl, N1q, e1⟩ := hQ1
  have N1 := Fr.app N0 N1q
  show Go p e below s ({ frames := 2, cells := 0, slots := 0, locals := 24 } : Room).cells ({ frames := 2, cells := 0, slots := 0, locals := 24 } : Room).slots (Q3 Z a1 p2 p3 p4 h0 n0) T1 (mkF m 4 #[.val (.ref a1), .val (.int p2), .val (.int p3), .val (.int p4)] [])
  refine g_iloadN 5 X1 hx (hb hby d3_4) rfl (v := p2) rfl ?_
  have hc5_1 : ¬ (p2 < (0 : Int32)) := hy
  refine g_ifNo 8 X1 hx (hb hby d3_5)  ((if0 _ _).trans (flt hc5_1).1) rfl ?_
  refine g_iloadN 9 X1 hx (hb hby d3_8) rfl (v := p3) rfl ?_
  have hc9_2 : ¬ (p3 < (0 : Int32)) := hx1
  refine g_ifYes 28 X1 hx (hb hby d3_9)  ((if0 _ _).trans (flt hc9_2).2.1) (by decide) (by decide) ?_
  refine g_iloadN 29 X1 hx (hb hby d3_28) rfl (v := p4) rfl ?_
  refine g_iloadN 30 X1 hx (hb hby d3_29) rfl (v := p3) rfl ?_
  have hc30_3 : ¬ (p4 < p3) := hx2
  refine g_icmpYes 48 X1 hx (hb hby d3_30)  (flt hc30_3).2.1 (by decide) (by decide) ?_
  refine g_aloadN 49 X1 hx (hb hby d3_48) rfl (v := (.ref a1)) rfl rfl ?_
  refine g_iloadN 50 X1 hx (hb hby d3_49) rfl (v := p2) rfl ?_
  refine g_putF 53 X1 hx hZ hown (hw _ (List.mem_of_getElem? (i := 22) rfl)) Via.refl e1 F_y E_a1 (Or.inr ⟨(hw _ (List.mem_of_getElem? (i := 23) rfl)), rfl, hnm⟩) (hw _ (List.mem_of_getElem? (i := 9) rfl)) (ty := .int) (by decide) rfl rfl (hb hby d3_50) rfl ?_
  intro T5 h5 X5 e5 W5
  have f6 := E_a1.wr W5
  have f7 := F_x1.other W5 (Or.inr (slot_ne (Or.inr (hw _ (List.mem_of_getElem? (i := 25) rfl))) (Or.inr (hw _ (List.mem_of_getElem? (i := 23) rfl))) (by decide) (t := .int) (t' := .int) (by decide) (by decide)))
  have f8 := F_x2.other W5 (Or.inr (slot_ne (Or.inr (hw _ (List.mem_of_getElem? (i := 27) rfl))) (Or.inr (hw _ (List.mem_of_getElem? (i := 23) rfl))) (by decide) (t := .int) (t' := .int) (by decide) (by decide)))
  have Zs9 : n0 ≤ h5.size := (Nat.le_trans Z0 (Keep.of_wr W5).1)
  have K10 : Keep h0 h5 [a1] := K0.wr W5 (Or.inl (List.mem_of_getElem? (i := 0) rfl))
  have f11 := F_y.same W5
  have N12 := Fr.snoc X5 N1 g_a1
  refine g_aloadN 54 X5 hx (hb hby d3_53) rfl (v := (.ref a1)) rfl rfl ?_
  refine g_iloadN 55 X5 hx (hb hby d3_54) rfl (v := p3) rfl ?_
  refine g_putF 58 X5 hx hZ hown (hw _ (List.mem_of_getElem? (i := 24) rfl)) Via.refl e5 f7 f6 (Or.inr ⟨(hw _ (List.mem_of_getElem? (i := 25) rfl)), rfl, hnm⟩) (hw _ (List.mem_of_getElem? (i := 9) rfl)) (ty := .int) (by decide) rfl rfl (hb hby d3_55) rfl ?_
  intro T13 h13 X13 e13 W13
  have f14 := f6.wr W13
  have f15 := f11.other W13 (Or.inr (slot_ne (Or.inr (hw _ (List.mem_of_getElem? (i := 23) rfl))) (Or.inr (hw _ (List.mem_of_getElem? (i := 25) rfl))) (by decide) (t := .int) (t' := .int) (by decide) (by decide)))
  have f16 := f8.other W13 (Or.inr (slot_ne (Or.inr (hw _ (List.mem_of_getElem? (i := 27) rfl))) (Or.inr (hw _ (List.mem_of_getElem? (i := 25) rfl))) (by decide) (t := .int) (t' := .int) (by decide) (by decide)))
  have Zs17 : n0 ≤ h13.size := (Nat.le_trans Zs9 (Keep.of_wr W13).1)
  have K18 : Keep h0 h13 [a1] := K10.wr W13 (Or.inl (List.mem_of_getElem? (i := 0) rfl))
  have f19 := f7.same W13
  have N20 := Fr.snoc X13 N12 g_a1
  refine g_aloadN 59 X13 hx (hb hby d3_58) rfl (v := (.ref a1)) rfl rfl ?_
  refine g_iloadN 60 X13 hx (hb hby d3_59) rfl (v := p4) rfl ?_
  refine g_putF 63 X13 hx hZ hown (hw _ (List.mem_of_getElem? (i := 26) rfl)) Via.refl e13 f16 f14 (Or.inr ⟨(hw _ (List.mem_of_getElem? (i := 27) rfl)), rfl, hnm⟩) (hw _ (List.mem_of_getElem? (i := 9) rfl)) (ty := .int) (by decide) rfl rfl (hb hby d3_60) rfl ?_
  intro T21 h21 X21 e21 W21
  have f22 := f14.wr W21
  have f23 := f15.other W21 (Or.inr (slot_ne (Or.inr (hw _ (List.mem_of_getElem? (i := 23) rfl))) (Or.inr (hw _ (List.mem_of_getElem? (i := 27) rfl))) (by decide) (t := .int) (t' := .int) (by decide) (by decide)))
  have f24 := f19.other W21 (Or.inr (slot_ne (Or.inr (hw _ (List.mem_of_getElem? (i := 25) rfl))) (Or.inr (hw _ (List.mem_of_getElem? (i := 27) rfl))) (by decide) (t := .int) (t' := .int) (by decide) (by decide)))
  have Zs25 : n0 ≤ h21.size := (Nat.le_trans Zs17 (Keep.of_wr W21).1)
  have K26 : Keep h0 h21 [a1] := K18.wr W21 (Or.inl (List.mem_of_getElem? (i := 0) rfl))
  have f27 := f16.same W21
  have N28 := Fr.snoc X21 N20 g_a1
  exact g_ret0 X21 hx Bd.returns hlk (hb hby d3_63) (by decide) (by decide) (by
      show Q3 Z a1 p2 p3 p4 h0 n0 _ T21.heap _
      rw [e21]
      exact ⟨rfl, N28, K26, f22, f23, f24, f27⟩)
theorem d6_0 : decode prog_2_method_3_code 0 = .ok (.aload_n 0, 1) := by decide +kernel
theorem d6_1 : decode prog_2_method_3_code 1 = .ok (.getfield 19, 3) := by decide +kernel
theorem d6_4 : decode prog_2_method_3_code 4 = .ok (.aload_n 1, 1) := by decide +kernel
theorem d6_5 : decode prog_2_method_3_code 5 = .ok (.getfield 19, 3) := by decide +kernel
theorem d6_8 : decode prog_2_method_3_code 8 = .ok (.if_icmp .ne 29, 3) := by decide +kernel
theorem d6_11 : decode prog_2_method_3_code 11 = .ok (.aload_n 0, 1) := by decide +kernel
theorem d6_12 : decode prog_2_method_3_code 12 = .ok (.getfield 25, 3) := by decide +kernel
theorem d6_15 : decode prog_2_method_3_code 15 = .ok (.aload_n 1, 1) := by decide +kernel
theorem d6_16 : decode prog_2_method_3_code 16 = .ok (.getfield 28, 3) := by decide +kernel
theorem d6_19 : decode prog_2_method_3_code 19 = .ok (.if_icmp .gt 18, 3) := by decide +kernel
theorem d6_22 : decode prog_2_method_3_code 22 = .ok (.aload_n 1, 1) := by decide +kernel
theorem d6_23 : decode prog_2_method_3_code 23 = .ok (.getfield 25, 3) := by decide +kernel
theorem d6_26 : decode prog_2_method_3_code 26 = .ok (.aload_n 0, 1) := by decide +kernel
theorem d6_27 : decode prog_2_method_3_code 27 = .ok (.getfield 28, 3) := by decide +kernel
theorem d6_30 : decode prog_2_method_3_code 30 = .ok (.if_icmp .gt 7, 3) := by decide +kernel
theorem d6_33 : decode prog_2_method_3_code 33 = .ok (.iconst 1, 1) := by decide +kernel
theorem d6_34 : decode prog_2_method_3_code 34 = .ok (.goto 4, 3) := by decide +kernel
theorem d6_37 : decode prog_2_method_3_code 37 = .ok (.iconst 0, 1) := by decide +kernel
theorem d6_38 : decode prog_2_method_3_code 38 = .ok (.ireturn, 1) := by decide +kernel
def Rel6 (w_y_a1 : Int32) (w_x1_a1 : Int32) (w_x2_a1 : Int32) (w_y_a2 : Int32) (w_x1_a2 : Int32) (w_x2_a2 : Int32) (r : Int32) : Prop := (w_y_a1 = w_y_a2 ∧ w_x2_a2 < w_x1_a1 ∧ r = (0 : Int32)) ∨ (w_y_a1 = w_y_a2 ∧ ¬ (w_x2_a2 < w_x1_a1) ∧ w_x2_a1 < w_x1_a2 ∧ r = (0 : Int32)) ∨ (w_y_a1 = w_y_a2 ∧ ¬ (w_x2_a2 < w_x1_a1) ∧ ¬ (w_x2_a1 < w_x1_a2) ∧ r = (1 : Int32)) ∨ (¬ (w_y_a1 = w_y_a2) ∧ r = (0 : Int32))
def Q6 (Z : State) (a1 : Addr) (a2 : Addr) (w_y_a1 : Int32) (w_x1_a1 : Int32) (w_x2_a1 : Int32) (w_y_a2 : Int32) (w_x1_a2 : Int32) (w_x2_a2 : Int32) (h0 : Heap) (n0 : Nat) (v : Option Value) (h : Heap) (L : List Loc) : Prop := ∃ r : Int32, v = some (.int r) ∧ Rel6 w_y_a1 w_x1_a1 w_x2_a1 w_y_a2 w_x1_a2 w_x2_a2 r ∧ Fr n0 L ∧ h = h0
theorem ef_rm6 (m : MethodId) (a1 : Addr) (a2 : Addr) : entryFrame m #[(.ref a1), (.ref a2)] 2 = mkF m 0 #[.val (.ref a1), .val (.ref a2)] [] := by first | (simp [entryFrame, mkF, argsToLocals, Value.category]; done) | rfl
set_option maxRecDepth 65536 in
set_option maxHeartbeats 40000000 in
theorem rm6 (l : Launch) (Z : State) (a0 : Array Value) (hw : ∀ d ∈ tables_1, d.before a0 Z = true) (ws : List Jvm.Cond) (a1 : Addr) (a2 : Addr) (w_y_a1 : Int32) (w_x1_a1 : Int32) (w_x2_a1 : Int32) (w_y_a2 : Int32) (w_x1_a2 : Int32) (w_x2_a2 : Int32) (h0 : Heap) (n0 : Nat) (Z0 : n0 ≤ h0.size) (F_y_a1 : Fld Z h0 a1 "com/example/bar_visibility/barvisibility/Bar" "y" "I" (.int w_y_a1)) (F_x1_a1 : Fld Z h0 a1 "com/example/bar_visibility/barvisibility/Bar" "x1" "I" (.int w_x1_a1)) (F_x2_a1 : Fld Z h0 a1 "com/example/bar_visibility/barvisibility/Bar" "x2" "I" (.int w_x2_a1)) (F_y_a2 : Fld Z h0 a2 "com/example/bar_visibility/barvisibility/Bar" "y" "I" (.int w_y_a2)) (F_x1_a2 : Fld Z h0 a2 "com/example/bar_visibility/barvisibility/Bar" "x1" "I" (.int w_x1_a2)) (F_x2_a2 : Fld Z h0 a2 "com/example/bar_visibility/barvisibility/Bar" "x2" "I" (.int w_x2_a2)) :
    MetFree l (⟨"com/example/bar_visibility/barvisibility/Bar", "overlaps", "(Lcom/example/bar_visibility/barvisibility/Bar;)Z"⟩ : MethodName) (head1 (Jvm.Cond.code (⟨"com/example/bar_visibility/barvisibility/Bar", "overlaps", "(Lcom/example/bar_visibility/barvisibility/Bar;)Z"⟩ : MethodName) prog_2_method_3_code 2 (some .boolean) :: ws) ({ frames := 0, cells := 0, slots := 0, locals := 0 } : Room)) (fun a U => a = #[(.ref a1), (.ref a2)] ∧ Z.Warmed39 U.vm ∧ U.heap = h0) (fun _ _ _ _ _ => True) (fun _ U o U' => ∃ v L, o = .returned v ∧ (Q6 Z a1 a2 w_y_a1 w_x1_a1 w_x2_a1 w_y_a2 w_x1_a2 w_x2_a2 h0 n0) v U'.heap L ∧ FrameEnd U o U' L ({ frames := 0, cells := 0, slots := 0, locals := 0 } : Room).cells ({ frames := 0, cells := 0, slots := 0, locals := 0 } : Room).slots) := by
  refine MetFree.of_bodySF (plainFor_of_name pn_1) hisR ?_
  intro p e s m args below meth c s₁ Bd hml0 hP hK
  obtain ⟨rfl, hZ, hh⟩ := hP
  have hx := Bd.exec
  have hby := Bd.bytes
  have hml : c.maxLocals = 2 := hml0
  have hown : s.vm.findClass "com/example/bar_visibility/barvisibility/Bar" = some m.cls := findClass_of_methodNamed Bd.named
  have hnm := (name_of_methodNamed Bd.named Bd.method).1
  have hlk : meth.locks = false := BodyLoose.notSynchronized Bd
  have X0 : Stand p l e ({ frames := 0, cells := 0, slots := 0, locals := 0 } : Room) s m #[(.ref a1), (.ref a2)] below meth c s₁ [] 0 0 := Stand.of_body Bd
  have e0 : s₁.heap = h0 := by rw [← hh, Bd.state]; rfl
  have N0 := Fr.nil n0
  show Go p e below s ({ frames := 0, cells := 0, slots := 0, locals := 0 } : Room).cells ({ frames := 0, cells := 0, slots := 0, locals := 0 } : Room).slots (Q6 Z a1 a2 w_y_a1 w_x1_a1 w_x2_a1 w_y_a2 w_x1_a2 w_x2_a2 h0 n0) s₁ (entryFrame m #[(.ref a1), (.ref a2)] 2)
  rw [ef_rm6 m a1 a2]
  refine g_aloadN 1 X0 hx (hb hby d6_0) rfl (v := (.ref a1)) rfl rfl ?_
  refine g_getF 4 X0 hx hZ hown (hw _ (List.mem_of_getElem? (i := 22) rfl)) Via.refl e0 F_y_a1 (hb hby d6_1) rfl ?_
  intro T1 X1 e1
  refine g_aloadN 5 X1 hx (hb hby d6_4) rfl (v := (.ref a2)) rfl rfl ?_
  refine g_getF 8 X1 hx hZ hown (hw _ (List.mem_of_getElem? (i := 22) rfl)) Via.refl e1 F_y_a2 (hb hby d6_5) rfl ?_
  intro T2 X2 e2
  by_cases hc8_2 : w_y_a1 = w_y_a2
  ·
    refine g_icmpNo 11 X2 hx (hb hby d6_8)  (teq hc8_2).2 rfl ?_
    refine g_aloadN 12 X2 hx (hb hby d6_11) rfl (v := (.ref a1)) rfl rfl ?_
    refine g_getF 15 X2 hx hZ hown (hw _ (List.mem_of_getElem? (i := 24) rfl)) Via.refl e2 F_x1_a1 (hb hby d6_12) rfl ?_
    intro T4 X4 e4
    refine g_aloadN 16 X4 hx (hb hby d6_15) rfl (v := (.ref a2)) rfl rfl ?_
    refine g_getF 19 X4 hx hZ hown (hw _ (List.mem_of_getElem? (i := 26) rfl)) Via.refl e4 F_x2_a2 (hb hby d6_16) rfl ?_
    intro T5 X5 e5
    by_cases hc19_5 : w_x2_a2 < w_x1_a1
    ·
      refine g_icmpYes 37 X5 hx (hb hby d6_19)  (tlt hc19_5).2.2.1 (by decide) (by decide) ?_
      refine g_iconst 38 X5 hx (hb hby d6_37) rfl (z := (0 : Int32)) rfl ?_
      exact g_retN X5 hx (t := .boolean) Bd.returns hlk (by simp) rfl (hb hby d6_38) (by decide) (by decide) ⟨(0 : Int32), rfl, (Or.inl ⟨hc8_2, hc19_5, rfl⟩), N0, e5⟩
    ·
      refine g_icmpNo 22 X5 hx (hb hby d6_19)  (flt hc19_5).2.2.1 rfl ?_
      refine g_aloadN 23 X5 hx (hb hby d6_22) rfl (v := (.ref a2)) rfl rfl ?_
      refine g_getF 26 X5 hx hZ hown (hw _ (List.mem_of_getElem? (i := 24) rfl)) Via.refl e5 F_x1_a2 (hb hby d6_23) rfl ?_
      intro T7 X7 e7
      refine g_aloadN 27 X7 hx (hb hby d6_26) rfl (v := (.ref a1)) rfl rfl ?_
      refine g_getF 30 X7 hx hZ hown (hw _ (List.mem_of_getElem? (i := 26) rfl)) Via.refl e7 F_x2_a1 (hb hby d6_27) rfl ?_
      intro T8 X8 e8
      by_cases hc30_8 : w_x2_a1 < w_x1_a2
      ·
        refine g_icmpYes 37 X8 hx (hb hby d6_30)  (tlt hc30_8).2.2.1 (by decide) (by decide) ?_
        refine g_iconst 38 X8 hx (hb hby d6_37) rfl (z := (0 : Int32)) rfl ?_
        exact g_retN X8 hx (t := .boolean) Bd.returns hlk (by simp) rfl (hb hby d6_38) (by decide) (by decide) ⟨(0 : Int32), rfl, (Or.inr (Or.inl ⟨hc8_2, hc19_5, hc30_8, rfl⟩)), N0, e8⟩
      ·
        refine g_icmpNo 33 X8 hx (hb hby d6_30)  (flt hc30_8).2.2.1 rfl ?_
        refine g_iconst 34 X8 hx (hb hby d6_33) rfl (z := (1 : Int32)) rfl ?_
        refine g_goto 38 X8 hx (hb hby d6_34) (by decide) (by decide) ?_
        exact g_retN X8 hx (t := .boolean) Bd.returns hlk (by simp) rfl (hb hby d6_38) (by decide) (by decide) ⟨(1 : Int32), rfl, (Or.inr (Or.inr (Or.inl ⟨hc8_2, hc19_5, hc30_8, rfl⟩))), N0, e8⟩
  ·
    refine g_icmpYes 37 X2 hx (hb hby d6_8)  (feq hc8_2).2 (by decide) (by decide) ?_
    refine g_iconst 38 X2 hx (hb hby d6_37) rfl (z := (0 : Int32)) rfl ?_
    exact g_retN X2 hx (t := .boolean) Bd.returns hlk (by simp) rfl (hb hby d6_38) (by decide) (by decide) ⟨(0 : Int32), rfl, (Or.inr (Or.inr (Or.inr ⟨hc8_2, rfl⟩))), N0, e2⟩
theorem pd_1 : parseMethodDescriptor "(II)I" = some ⟨[.int, .int], some .int⟩ := by decide +kernel
theorem pd_2 : parseMethodDescriptor "(III)V" = some ⟨[.int, .int, .int], none⟩ := by decide +kernel
theorem pd_3 : parseMethodDescriptor "(Lcom/example/bar_visibility/barvisibility/Bar;)Z" = some ⟨[(.object "com/example/bar_visibility/barvisibility/Bar")], some .boolean⟩ := by decide +kernel
theorem ask0_0 (p1 : Int32) (p2 : Int32) (p3 : Int32) (p4 : Int32) (p5 : Int32) (p6 : Int32) (z1 : Int32) (z2 : Int32) (z3 : Int32) (r4 : Int32) (r5 : Int32) (z6 : Int32) (z8 : Int32) (z10 : Int32) (z11 : Int32) (r12 : Int32) (r13 : Int32) (hz1 : p1 &&& (2147483647 : Int32) = z1) (hz2 : p2 &&& (2147483647 : Int32) = z2) (hz3 : p3 &&& (2147483647 : Int32) = z3) (hr4 : Rel1 z2 z3 r4) (hr5 : Rel2 z2 z3 r5) (hz6 : p4 &&& (1 : Int32) = z6) (hj9 : (z6 = (0 : Int32) ∧ z8 = z1) ∨ (¬ (z6 = (0 : Int32)) ∧ z8 = ((p4.toUInt32 >>> ((1 : Int32) &&& 31).toUInt32).toInt32))) (hz10 : p5 &&& (2147483647 : Int32) = z10) (hz11 : p6 &&& (2147483647 : Int32) = z11) (hr12 : Rel1 z10 z11 r12) (hr13 : Rel2 z10 z11 r13) : ¬ (z1 < (0 : Int32)) := by
  simp only [Rel1] at hr4
  simp only [Rel2] at hr5
  simp only [Rel1] at hr12
  simp only [Rel2] at hr13
  have o0 := rng32 p1
  have o1 := rng32 (p1 &&& (2147483647 : Int32))
  have o2 := c_mask p1 (2147483647 : Int32) 31 (by decide) (by decide)
  have o3 := rng32 z1
  have o4 := rng32 p2
  have o5 := rng32 (p2 &&& (2147483647 : Int32))
  have o6 := c_mask p2 (2147483647 : Int32) 31 (by decide) (by decide)
  have o7 := rng32 z2
  have o8 := rng32 p3
  have o9 := rng32 (p3 &&& (2147483647 : Int32))
  have o10 := c_mask p3 (2147483647 : Int32) 31 (by decide) (by decide)
  have o11 := rng32 z3
  have o12 := rng32 r4
  have o13 := rng32 r5
  have o14 := rng32 p4
  have o15 := rng32 (p4 &&& (1 : Int32))
  have o16 := c_mask p4 (1 : Int32) 1 (by decide) (by decide)
  have o17 := rng32 z6
  have o18 := rng32 z8
  have o19 := rng32 (p4.toUInt32 >>> ((1 : Int32) &&& 31).toUInt32).toInt32
  have o20 := c_iushr p4 (1 : Int32) 1 (by decide) (by decide)
  have o21 := rng32 p5
  have o22 := rng32 (p5 &&& (2147483647 : Int32))
  have o23 := c_mask p5 (2147483647 : Int32) 31 (by decide) (by decide)
  have o24 := rng32 z10
  have o25 := rng32 p6
  have o26 := rng32 (p6 &&& (2147483647 : Int32))
  have o27 := c_mask p6 (2147483647 : Int32) 31 (by decide) (by decide)
  have o28 := rng32 z11
  have o29 := rng32 r12
  have o30 := rng32 r13
  simp only [Int32.lt_iff_toInt_lt, Int64.lt_iff_toInt_lt, Int32.le_iff_toInt_le, Int64.le_iff_toInt_le, ← Int32.toInt_inj, ← Int64.toInt_inj, Int32.reduceToInt, Int64.reduceToInt, Int32.toInt_toInt64, ne_eq] at * <;> omega
theorem ask0_1 (p1 : Int32) (p2 : Int32) (p3 : Int32) (p4 : Int32) (p5 : Int32) (p6 : Int32) (z1 : Int32) (z2 : Int32) (z3 : Int32) (r4 : Int32) (r5 : Int32) (z6 : Int32) (z8 : Int32) (z10 : Int32) (z11 : Int32) (r12 : Int32) (r13 : Int32) (hz1 : p1 &&& (2147483647 : Int32) = z1) (hz2 : p2 &&& (2147483647 : Int32) = z2) (hz3 : p3 &&& (2147483647 : Int32) = z3) (hr4 : Rel1 z2 z3 r4) (hr5 : Rel2 z2 z3 r5) (hz6 : p4 &&& (1 : Int32) = z6) (hj9 : (z6 = (0 : Int32) ∧ z8 = z1) ∨ (¬ (z6 = (0 : Int32)) ∧ z8 = ((p4.toUInt32 >>> ((1 : Int32) &&& 31).toUInt32).toInt32))) (hz10 : p5 &&& (2147483647 : Int32) = z10) (hz11 : p6 &&& (2147483647 : Int32) = z11) (hr12 : Rel1 z10 z11 r12) (hr13 : Rel2 z10 z11 r13) : ¬ (r4 < (0 : Int32)) := by
  simp only [Rel1] at hr4
  simp only [Rel2] at hr5
  simp only [Rel1] at hr12
  simp only [Rel2] at hr13
  have o0 := rng32 p1
  have o1 := rng32 (p1 &&& (2147483647 : Int32))
  have o2 := c_mask p1 (2147483647 : Int32) 31 (by decide) (by decide)
  have o3 := rng32 z1
  have o4 := rng32 p2
  have o5 := rng32 (p2 &&& (2147483647 : Int32))
  have o6 := c_mask p2 (2147483647 : Int32) 31 (by decide) (by decide)
  have o7 := rng32 z2
  have o8 := rng32 p3
  have o9 := rng32 (p3 &&& (2147483647 : Int32))
  have o10 := c_mask p3 (2147483647 : Int32) 31 (by decide) (by decide)
  have o11 := rng32 z3
  have o12 := rng32 r4
  have o13 := rng32 r5
  have o14 := rng32 p4
  have o15 := rng32 (p4 &&& (1 : Int32))
  have o16 := c_mask p4 (1 : Int32) 1 (by decide) (by decide)
  have o17 := rng32 z6
  have o18 := rng32 z8
  have o19 := rng32 (p4.toUInt32 >>> ((1 : Int32) &&& 31).toUInt32).toInt32
  have o20 := c_iushr p4 (1 : Int32) 1 (by decide) (by decide)
  have o21 := rng32 p5
  have o22 := rng32 (p5 &&& (2147483647 : Int32))
  have o23 := c_mask p5 (2147483647 : Int32) 31 (by decide) (by decide)
  have o24 := rng32 z10
  have o25 := rng32 p6
  have o26 := rng32 (p6 &&& (2147483647 : Int32))
  have o27 := c_mask p6 (2147483647 : Int32) 31 (by decide) (by decide)
  have o28 := rng32 z11
  have o29 := rng32 r12
  have o30 := rng32 r13
  simp only [Int32.lt_iff_toInt_lt, Int64.lt_iff_toInt_lt, Int32.le_iff_toInt_le, Int64.le_iff_toInt_le, ← Int32.toInt_inj, ← Int64.toInt_inj, Int32.reduceToInt, Int64.reduceToInt, Int32.toInt_toInt64, ne_eq] at * <;> omega
theorem ask0_2 (p1 : Int32) (p2 : Int32) (p3 : Int32) (p4 : Int32) (p5 : Int32) (p6 : Int32) (z1 : Int32) (z2 : Int32) (z3 : Int32) (r4 : Int32) (r5 : Int32) (z6 : Int32) (z8 : Int32) (z10 : Int32) (z11 : Int32) (r12 : Int32) (r13 : Int32) (hz1 : p1 &&& (2147483647 : Int32) = z1) (hz2 : p2 &&& (2147483647 : Int32) = z2) (hz3 : p3 &&& (2147483647 : Int32) = z3) (hr4 : Rel1 z2 z3 r4) (hr5 : Rel2 z2 z3 r5) (hz6 : p4 &&& (1 : Int32) = z6) (hj9 : (z6 = (0 : Int32) ∧ z8 = z1) ∨ (¬ (z6 = (0 : Int32)) ∧ z8 = ((p4.toUInt32 >>> ((1 : Int32) &&& 31).toUInt32).toInt32))) (hz10 : p5 &&& (2147483647 : Int32) = z10) (hz11 : p6 &&& (2147483647 : Int32) = z11) (hr12 : Rel1 z10 z11 r12) (hr13 : Rel2 z10 z11 r13) : ¬ (r5 < r4) := by
  simp only [Rel1] at hr4
  simp only [Rel2] at hr5
  simp only [Rel1] at hr12
  simp only [Rel2] at hr13
  have o0 := rng32 p1
  have o1 := rng32 (p1 &&& (2147483647 : Int32))
  have o2 := c_mask p1 (2147483647 : Int32) 31 (by decide) (by decide)
  have o3 := rng32 z1
  have o4 := rng32 p2
  have o5 := rng32 (p2 &&& (2147483647 : Int32))
  have o6 := c_mask p2 (2147483647 : Int32) 31 (by decide) (by decide)
  have o7 := rng32 z2
  have o8 := rng32 p3
  have o9 := rng32 (p3 &&& (2147483647 : Int32))
  have o10 := c_mask p3 (2147483647 : Int32) 31 (by decide) (by decide)
  have o11 := rng32 z3
  have o12 := rng32 r4
  have o13 := rng32 r5
  have o14 := rng32 p4
  have o15 := rng32 (p4 &&& (1 : Int32))
  have o16 := c_mask p4 (1 : Int32) 1 (by decide) (by decide)
  have o17 := rng32 z6
  have o18 := rng32 z8
  have o19 := rng32 (p4.toUInt32 >>> ((1 : Int32) &&& 31).toUInt32).toInt32
  have o20 := c_iushr p4 (1 : Int32) 1 (by decide) (by decide)
  have o21 := rng32 p5
  have o22 := rng32 (p5 &&& (2147483647 : Int32))
  have o23 := c_mask p5 (2147483647 : Int32) 31 (by decide) (by decide)
  have o24 := rng32 z10
  have o25 := rng32 p6
  have o26 := rng32 (p6 &&& (2147483647 : Int32))
  have o27 := c_mask p6 (2147483647 : Int32) 31 (by decide) (by decide)
  have o28 := rng32 z11
  have o29 := rng32 r12
  have o30 := rng32 r13
  simp only [Int32.lt_iff_toInt_lt, Int64.lt_iff_toInt_lt, Int32.le_iff_toInt_le, Int64.le_iff_toInt_le, ← Int32.toInt_inj, ← Int64.toInt_inj, Int32.reduceToInt, Int64.reduceToInt, Int32.toInt_toInt64, ne_eq] at * <;> omega
theorem ask0_3 (p1 : Int32) (p2 : Int32) (p3 : Int32) (p4 : Int32) (p5 : Int32) (p6 : Int32) (z1 : Int32) (z2 : Int32) (z3 : Int32) (r4 : Int32) (r5 : Int32) (z6 : Int32) (z8 : Int32) (z10 : Int32) (z11 : Int32) (r12 : Int32) (r13 : Int32) (hz1 : p1 &&& (2147483647 : Int32) = z1) (hz2 : p2 &&& (2147483647 : Int32) = z2) (hz3 : p3 &&& (2147483647 : Int32) = z3) (hr4 : Rel1 z2 z3 r4) (hr5 : Rel2 z2 z3 r5) (hz6 : p4 &&& (1 : Int32) = z6) (hj9 : (z6 = (0 : Int32) ∧ z8 = z1) ∨ (¬ (z6 = (0 : Int32)) ∧ z8 = ((p4.toUInt32 >>> ((1 : Int32) &&& 31).toUInt32).toInt32))) (hz10 : p5 &&& (2147483647 : Int32) = z10) (hz11 : p6 &&& (2147483647 : Int32) = z11) (hr12 : Rel1 z10 z11 r12) (hr13 : Rel2 z10 z11 r13) : ¬ (z8 < (0 : Int32)) := by
  simp only [Rel1] at hr4
  simp only [Rel2] at hr5
  simp only [Rel1] at hr12
  simp only [Rel2] at hr13
  have o0 := rng32 p1
  have o1 := rng32 (p1 &&& (2147483647 : Int32))
  have o2 := c_mask p1 (2147483647 : Int32) 31 (by decide) (by decide)
  have o3 := rng32 z1
  have o4 := rng32 p2
  have o5 := rng32 (p2 &&& (2147483647 : Int32))
  have o6 := c_mask p2 (2147483647 : Int32) 31 (by decide) (by decide)
  have o7 := rng32 z2
  have o8 := rng32 p3
  have o9 := rng32 (p3 &&& (2147483647 : Int32))
  have o10 := c_mask p3 (2147483647 : Int32) 31 (by decide) (by decide)
  have o11 := rng32 z3
  have o12 := rng32 r4
  have o13 := rng32 r5
  have o14 := rng32 p4
  have o15 := rng32 (p4 &&& (1 : Int32))
  have o16 := c_mask p4 (1 : Int32) 1 (by decide) (by decide)
  have o17 := rng32 z6
  have o18 := rng32 z8
  have o19 := rng32 (p4.toUInt32 >>> ((1 : Int32) &&& 31).toUInt32).toInt32
  have o20 := c_iushr p4 (1 : Int32) 1 (by decide) (by decide)
  have o21 := rng32 p5
  have o22 := rng32 (p5 &&& (2147483647 : Int32))
  have o23 := c_mask p5 (2147483647 : Int32) 31 (by decide) (by decide)
  have o24 := rng32 z10
  have o25 := rng32 p6
  have o26 := rng32 (p6 &&& (2147483647 : Int32))
  have o27 := c_mask p6 (2147483647 : Int32) 31 (by decide) (by decide)
  have o28 := rng32 z11
  have o29 := rng32 r12
  have o30 := rng32 r13
  simp only [Int32.lt_iff_toInt_lt, Int64.lt_iff_toInt_lt, Int32.le_iff_toInt_le, Int64.le_iff_toInt_le, ← Int32.toInt_inj, ← Int64.toInt_inj, Int32.reduceToInt, Int64.reduceToInt, Int32.toInt_toInt64, ne_eq] at * <;> omega
theorem ask0_4 (p1 : Int32) (p2 : Int32) (p3 : Int32) (p4 : Int32) (p5 : Int32) (p6 : Int32) (z1 : Int32) (z2 : Int32) (z3 : Int32) (r4 : Int32) (r5 : Int32) (z6 : Int32) (z8 : Int32) (z10 : Int32) (z11 : Int32) (r12 : Int32) (r13 : Int32) (hz1 : p1 &&& (2147483647 : Int32) = z1) (hz2 : p2 &&& (2147483647 : Int32) = z2) (hz3 : p3 &&& (2147483647 : Int32) = z3) (hr4 : Rel1 z2 z3 r4) (hr5 : Rel2 z2 z3 r5) (hz6 : p4 &&& (1 : Int32) = z6) (hj9 : (z6 = (0 : Int32) ∧ z8 = z1) ∨ (¬ (z6 = (0 : Int32)) ∧ z8 = ((p4.toUInt32 >>> ((1 : Int32) &&& 31).toUInt32).toInt32))) (hz10 : p5 &&& (2147483647 : Int32) = z10) (hz11 : p6 &&& (2147483647 : Int32) = z11) (hr12 : Rel1 z10 z11 r12) (hr13 : Rel2 z10 z11 r13) : ¬ (r12 < (0 : Int32)) := by
  simp only [Rel1] at hr4
  simp only [Rel2] at hr5
  simp only [Rel1] at hr12
  simp only [Rel2] at hr13
  have o0 := rng32 p1
  have o1 := rng32 (p1 &&& (2147483647 : Int32))
  have o2 := c_mask p1 (2147483647 : Int32) 31 (by decide) (by decide)
  have o3 := rng32 z1
  have o4 := rng32 p2
  have o5 := rng32 (p2 &&& (2147483647 : Int32))
  have o6 := c_mask p2 (2147483647 : Int32) 31 (by decide) (by decide)
  have o7 := rng32 z2
  have o8 := rng32 p3
  have o9 := rng32 (p3 &&& (2147483647 : Int32))
  have o10 := c_mask p3 (2147483647 : Int32) 31 (by decide) (by decide)
  have o11 := rng32 z3
  have o12 := rng32 r4
  have o13 := rng32 r5
  have o14 := rng32 p4
  have o15 := rng32 (p4 &&& (1 : Int32))
  have o16 := c_mask p4 (1 : Int32) 1 (by decide) (by decide)
  have o17 := rng32 z6
  have o18 := rng32 z8
  have o19 := rng32 (p4.toUInt32 >>> ((1 : Int32) &&& 31).toUInt32).toInt32
  have o20 := c_iushr p4 (1 : Int32) 1 (by decide) (by decide)
  have o21 := rng32 p5
  have o22 := rng32 (p5 &&& (2147483647 : Int32))
  have o23 := c_mask p5 (2147483647 : Int32) 31 (by decide) (by decide)
  have o24 := rng32 z10
  have o25 := rng32 p6
  have o26 := rng32 (p6 &&& (2147483647 : Int32))
  have o27 := c_mask p6 (2147483647 : Int32) 31 (by decide) (by decide)
  have o28 := rng32 z11
  have o29 := rng32 r12
  have o30 := rng32 r13
  simp only [Int32.lt_iff_toInt_lt, Int64.lt_iff_toInt_lt, Int32.le_iff_toInt_le, Int64.le_iff_toInt_le, ← Int32.toInt_inj, ← Int64.toInt_inj, Int32.reduceToInt, Int64.reduceToInt, Int32.toInt_toInt64, ne_eq] at * <;> omega
theorem ask0_5 (p1 : Int32) (p2 : Int32) (p3 : Int32) (p4 : Int32) (p5 : Int32) (p6 : Int32) (z1 : Int32) (z2 : Int32) (z3 : Int32) (r4 : Int32) (r5 : Int32) (z6 : Int32) (z8 : Int32) (z10 : Int32) (z11 : Int32) (r12 : Int32) (r13 : Int32) (hz1 : p1 &&& (2147483647 : Int32) = z1) (hz2 : p2 &&& (2147483647 : Int32) = z2) (hz3 : p3 &&& (2147483647 : Int32) = z3) (hr4 : Rel1 z2 z3 r4) (hr5 : Rel2 z2 z3 r5) (hz6 : p4 &&& (1 : Int32) = z6) (hj9 : (z6 = (0 : Int32) ∧ z8 = z1) ∨ (¬ (z6 = (0 : Int32)) ∧ z8 = ((p4.toUInt32 >>> ((1 : Int32) &&& 31).toUInt32).toInt32))) (hz10 : p5 &&& (2147483647 : Int32) = z10) (hz11 : p6 &&& (2147483647 : Int32) = z11) (hr12 : Rel1 z10 z11 r12) (hr13 : Rel2 z10 z11 r13) : ¬ (r13 < r12) := by
  simp only [Rel1] at hr4
  simp only [Rel2] at hr5
  simp only [Rel1] at hr12
  simp only [Rel2] at hr13
  have o0 := rng32 p1
  have o1 := rng32 (p1 &&& (2147483647 : Int32))
  have o2 := c_mask p1 (2147483647 : Int32) 31 (by decide) (by decide)
  have o3 := rng32 z1
  have o4 := rng32 p2
  have o5 := rng32 (p2 &&& (2147483647 : Int32))
  have o6 := c_mask p2 (2147483647 : Int32) 31 (by decide) (by decide)
  have o7 := rng32 z2
  have o8 := rng32 p3
  have o9 := rng32 (p3 &&& (2147483647 : Int32))
  have o10 := c_mask p3 (2147483647 : Int32) 31 (by decide) (by decide)
  have o11 := rng32 z3
  have o12 := rng32 r4
  have o13 := rng32 r5
  have o14 := rng32 p4
  have o15 := rng32 (p4 &&& (1 : Int32))
  have o16 := c_mask p4 (1 : Int32) 1 (by decide) (by decide)
  have o17 := rng32 z6
  have o18 := rng32 z8
  have o19 := rng32 (p4.toUInt32 >>> ((1 : Int32) &&& 31).toUInt32).toInt32
  have o20 := c_iushr p4 (1 : Int32) 1 (by decide) (by decide)
  have o21 := rng32 p5
  have o22 := rng32 (p5 &&& (2147483647 : Int32))
  have o23 := c_mask p5 (2147483647 : Int32) 31 (by decide) (by decide)
  have o24 := rng32 z10
  have o25 := rng32 p6
  have o26 := rng32 (p6 &&& (2147483647 : Int32))
  have o27 := c_mask p6 (2147483647 : Int32) 31 (by decide) (by decide)
  have o28 := rng32 z11
  have o29 := rng32 r12
  have o30 := rng32 r13
  simp only [Int32.lt_iff_toInt_lt, Int64.lt_iff_toInt_lt, Int32.le_iff_toInt_le, Int64.le_iff_toInt_le, ← Int32.toInt_inj, ← Int64.toInt_inj, Int32.reduceToInt, Int64.reduceToInt, Int32.toInt_toInt64, ne_eq] at * <;> omega
theorem leaf_0 (p1 : Int32) (p2 : Int32) (p3 : Int32) (p4 : Int32) (p5 : Int32) (p6 : Int32) (z1 : Int32) (z2 : Int32) (z3 : Int32) (r4 : Int32) (r5 : Int32) (z6 : Int32) (z8 : Int32) (z10 : Int32) (z11 : Int32) (r12 : Int32) (r13 : Int32) (r43 : Int32) (r44 : Int32) (z46 : Int32) (r48 : Int32) (r50 : Int32) (z52 : Int32) (hz1 : p1 &&& (2147483647 : Int32) = z1) (hz2 : p2 &&& (2147483647 : Int32) = z2) (hz3 : p3 &&& (2147483647 : Int32) = z3) (hr4 : Rel1 z2 z3 r4) (hr5 : Rel2 z2 z3 r5) (hz6 : p4 &&& (1 : Int32) = z6) (hj9 : (z6 = (0 : Int32) ∧ z8 = z1) ∨ (¬ (z6 = (0 : Int32)) ∧ z8 = ((p4.toUInt32 >>> ((1 : Int32) &&& 31).toUInt32).toInt32))) (hz10 : p5 &&& (2147483647 : Int32) = z10) (hz11 : p6 &&& (2147483647 : Int32) = z11) (hr12 : Rel1 z10 z11 r12) (hr13 : Rel2 z10 z11 r13) (hc118_41 : z1 = z8) (hr43 : Rel2 r4 r12 r43) (hr44 : Rel1 r5 r13 r44) (hj47 : (r44 < r43 ∧ z46 = (0 : Int32)) ∨ (¬ (r44 < r43) ∧ z46 = (1 : Int32))) (hr48 : Rel6 z1 r4 r5 z8 r12 r13 r48) (hc154_48 : r48 = z46) (hr50 : Rel6 z8 r12 r13 z1 r4 r5 r50) (hj53 : (r50 = z46 ∧ z52 = (1 : Int32)) ∨ (¬ (r50 = z46) ∧ z52 = (0 : Int32))) : z52 = 1 := by
  simp only [Rel1] at hr4
  simp only [Rel2] at hr5
  simp only [Rel1] at hr12
  simp only [Rel2] at hr13
  simp only [Rel2] at hr43
  simp only [Rel1] at hr44
  simp only [Rel6] at hr48
  simp only [Rel6] at hr50
  have o0 := rng32 p1
  have o1 := rng32 (p1 &&& (2147483647 : Int32))
  have o2 := c_mask p1 (2147483647 : Int32) 31 (by decide) (by decide)
  have o3 := rng32 z1
  have o4 := rng32 p2
  have o5 := rng32 (p2 &&& (2147483647 : Int32))
  have o6 := c_mask p2 (2147483647 : Int32) 31 (by decide) (by decide)
  have o7 := rng32 z2
  have o8 := rng32 p3
  have o9 := rng32 (p3 &&& (2147483647 : Int32))
  have o10 := c_mask p3 (2147483647 : Int32) 31 (by decide) (by decide)
  have o11 := rng32 z3
  have o12 := rng32 r4
  have o13 := rng32 r5
  have o14 := rng32 p4
  have o15 := rng32 (p4 &&& (1 : Int32))
  have o16 := c_mask p4 (1 : Int32) 1 (by decide) (by decide)
  have o17 := rng32 z6
  have o18 := rng32 z8
  have o19 := rng32 (p4.toUInt32 >>> ((1 : Int32) &&& 31).toUInt32).toInt32
  have o20 := c_iushr p4 (1 : Int32) 1 (by decide) (by decide)
  have o21 := rng32 p5
  have o22 := rng32 (p5 &&& (2147483647 : Int32))
  have o23 := c_mask p5 (2147483647 : Int32) 31 (by decide) (by decide)
  have o24 := rng32 z10
  have o25 := rng32 p6
  have o26 := rng32 (p6 &&& (2147483647 : Int32))
  have o27 := c_mask p6 (2147483647 : Int32) 31 (by decide) (by decide)
  have o28 := rng32 z11
  have o29 := rng32 r12
  have o30 := rng32 r13
  have o31 := rng32 r43
  have o32 := rng32 r44
  have o33 := rng32 z46
  have o34 := rng32 r48
  have o35 := rng32 r50
  have o36 := rng32 z52
  simp only [Int32.lt_iff_toInt_lt, Int64.lt_iff_toInt_lt, Int32.le_iff_toInt_le, Int64.le_iff_toInt_le, ← Int32.toInt_inj, ← Int64.toInt_inj, Int32.reduceToInt, Int64.reduceToInt, Int32.toInt_toInt64, ne_eq] at * <;> omega
theorem leaf_1 (p1 : Int32) (p2 : Int32) (p3 : Int32) (p4 : Int32) (p5 : Int32) (p6 : Int32) (z1 : Int32) (z2 : Int32) (z3 : Int32) (r4 : Int32) (r5 : Int32) (z6 : Int32) (z8 : Int32) (z10 : Int32) (z11 : Int32) (r12 : Int32) (r13 : Int32) (r43 : Int32) (r44 : Int32) (z46 : Int32) (r48 : Int32) (hz1 : p1 &&& (2147483647 : Int32) = z1) (hz2 : p2 &&& (2147483647 : Int32) = z2) (hz3 : p3 &&& (2147483647 : Int32) = z3) (hr4 : Rel1 z2 z3 r4) (hr5 : Rel2 z2 z3 r5) (hz6 : p4 &&& (1 : Int32) = z6) (hj9 : (z6 = (0 : Int32) ∧ z8 = z1) ∨ (¬ (z6 = (0 : Int32)) ∧ z8 = ((p4.toUInt32 >>> ((1 : Int32) &&& 31).toUInt32).toInt32))) (hz10 : p5 &&& (2147483647 : Int32) = z10) (hz11 : p6 &&& (2147483647 : Int32) = z11) (hr12 : Rel1 z10 z11 r12) (hr13 : Rel2 z10 z11 r13) (hc118_41 : z1 = z8) (hr43 : Rel2 r4 r12 r43) (hr44 : Rel1 r5 r13 r44) (hj47 : (r44 < r43 ∧ z46 = (0 : Int32)) ∨ (¬ (r44 < r43) ∧ z46 = (1 : Int32))) (hr48 : Rel6 z1 r4 r5 z8 r12 r13 r48) (hc154_48 : ¬ (r48 = z46)) : False := by
  simp only [Rel1] at hr4
  simp only [Rel2] at hr5
  simp only [Rel1] at hr12
  simp only [Rel2] at hr13
  simp only [Rel2] at hr43
  simp only [Rel1] at hr44
  simp only [Rel6] at hr48
  have o0 := rng32 p1
  have o1 := rng32 (p1 &&& (2147483647 : Int32))
  have o2 := c_mask p1 (2147483647 : Int32) 31 (by decide) (by decide)
  have o3 := rng32 z1
  have o4 := rng32 p2
  have o5 := rng32 (p2 &&& (2147483647 : Int32))
  have o6 := c_mask p2 (2147483647 : Int32) 31 (by decide) (by decide)
  have o7 := rng32 z2
  have o8 := rng32 p3
  have o9 := rng32 (p3 &&& (2147483647 : Int32))
  have o10 := c_mask p3 (2147483647 : Int32) 31 (by decide) (by decide)
  have o11 := rng32 z3
  have o12 := rng32 r4
  have o13 := rng32 r5
  have o14 := rng32 p4
  have o15 := rng32 (p4 &&& (1 : Int32))
  have o16 := c_mask p4 (1 : Int32) 1 (by decide) (by decide)
  have o17 := rng32 z6
  have o18 := rng32 z8
  have o19 := rng32 (p4.toUInt32 >>> ((1 : Int32) &&& 31).toUInt32).toInt32
  have o20 := c_iushr p4 (1 : Int32) 1 (by decide) (by decide)
  have o21 := rng32 p5
  have o22 := rng32 (p5 &&& (2147483647 : Int32))
  have o23 := c_mask p5 (2147483647 : Int32) 31 (by decide) (by decide)
  have o24 := rng32 z10
  have o25 := rng32 p6
  have o26 := rng32 (p6 &&& (2147483647 : Int32))
  have o27 := c_mask p6 (2147483647 : Int32) 31 (by decide) (by decide)
  have o28 := rng32 z11
  have o29 := rng32 r12
  have o30 := rng32 r13
  have o31 := rng32 r43
  have o32 := rng32 r44
  have o33 := rng32 z46
  have o34 := rng32 r48
  simp only [Int32.lt_iff_toInt_lt, Int64.lt_iff_toInt_lt, Int32.le_iff_toInt_le, Int64.le_iff_toInt_le, ← Int32.toInt_inj, ← Int64.toInt_inj, Int32.reduceToInt, Int64.reduceToInt, Int32.toInt_toInt64, ne_eq] at * <;> omega
theorem leaf_2 (p1 : Int32) (p2 : Int32) (p3 : Int32) (p4 : Int32) (p5 : Int32) (p6 : Int32) (z1 : Int32) (z2 : Int32) (z3 : Int32) (r4 : Int32) (r5 : Int32) (z6 : Int32) (z8 : Int32) (z10 : Int32) (z11 : Int32) (r12 : Int32) (r13 : Int32) (r54 : Int32) (r56 : Int32) (z58 : Int32) (hz1 : p1 &&& (2147483647 : Int32) = z1) (hz2 : p2 &&& (2147483647 : Int32) = z2) (hz3 : p3 &&& (2147483647 : Int32) = z3) (hr4 : Rel1 z2 z3 r4) (hr5 : Rel2 z2 z3 r5) (hz6 : p4 &&& (1 : Int32) = z6) (hj9 : (z6 = (0 : Int32) ∧ z8 = z1) ∨ (¬ (z6 = (0 : Int32)) ∧ z8 = ((p4.toUInt32 >>> ((1 : Int32) &&& 31).toUInt32).toInt32))) (hz10 : p5 &&& (2147483647 : Int32) = z10) (hz11 : p6 &&& (2147483647 : Int32) = z11) (hr12 : Rel1 z10 z11 r12) (hr13 : Rel2 z10 z11 r13) (hc118_41 : ¬ (z1 = z8)) (hr54 : Rel6 z1 r4 r5 z8 r12 r13 r54) (hc154_54 : r54 = (0 : Int32)) (hr56 : Rel6 z8 r12 r13 z1 r4 r5 r56) (hj59 : (r56 = (0 : Int32) ∧ z58 = (1 : Int32)) ∨ (¬ (r56 = (0 : Int32)) ∧ z58 = (0 : Int32))) : z58 = 1 := by
  simp only [Rel1] at hr4
  simp only [Rel2] at hr5
  simp only [Rel1] at hr12
  simp only [Rel2] at hr13
  simp only [Rel6] at hr54
  simp only [Rel6] at hr56
  have o0 := rng32 p1
  have o1 := rng32 (p1 &&& (2147483647 : Int32))
  have o2 := c_mask p1 (2147483647 : Int32) 31 (by decide) (by decide)
  have o3 := rng32 z1
  have o4 := rng32 p2
  have o5 := rng32 (p2 &&& (2147483647 : Int32))
  have o6 := c_mask p2 (2147483647 : Int32) 31 (by decide) (by decide)
  have o7 := rng32 z2
  have o8 := rng32 p3
  have o9 := rng32 (p3 &&& (2147483647 : Int32))
  have o10 := c_mask p3 (2147483647 : Int32) 31 (by decide) (by decide)
  have o11 := rng32 z3
  have o12 := rng32 r4
  have o13 := rng32 r5
  have o14 := rng32 p4
  have o15 := rng32 (p4 &&& (1 : Int32))
  have o16 := c_mask p4 (1 : Int32) 1 (by decide) (by decide)
  have o17 := rng32 z6
  have o18 := rng32 z8
  have o19 := rng32 (p4.toUInt32 >>> ((1 : Int32) &&& 31).toUInt32).toInt32
  have o20 := c_iushr p4 (1 : Int32) 1 (by decide) (by decide)
  have o21 := rng32 p5
  have o22 := rng32 (p5 &&& (2147483647 : Int32))
  have o23 := c_mask p5 (2147483647 : Int32) 31 (by decide) (by decide)
  have o24 := rng32 z10
  have o25 := rng32 p6
  have o26 := rng32 (p6 &&& (2147483647 : Int32))
  have o27 := c_mask p6 (2147483647 : Int32) 31 (by decide) (by decide)
  have o28 := rng32 z11
  have o29 := rng32 r12
  have o30 := rng32 r13
  have o31 := rng32 r54
  have o32 := rng32 r56
  have o33 := rng32 z58
  simp only [Int32.lt_iff_toInt_lt, Int64.lt_iff_toInt_lt, Int32.le_iff_toInt_le, Int64.le_iff_toInt_le, ← Int32.toInt_inj, ← Int64.toInt_inj, Int32.reduceToInt, Int64.reduceToInt, Int32.toInt_toInt64, ne_eq] at * <;> omega
theorem leaf_3 (p1 : Int32) (p2 : Int32) (p3 : Int32) (p4 : Int32) (p5 : Int32) (p6 : Int32) (z1 : Int32) (z2 : Int32) (z3 : Int32) (r4 : Int32) (r5 : Int32) (z6 : Int32) (z8 : Int32) (z10 : Int32) (z11 : Int32) (r12 : Int32) (r13 : Int32) (r54 : Int32) (hz1 : p1 &&& (2147483647 : Int32) = z1) (hz2 : p2 &&& (2147483647 : Int32) = z2) (hz3 : p3 &&& (2147483647 : Int32) = z3) (hr4 : Rel1 z2 z3 r4) (hr5 : Rel2 z2 z3 r5) (hz6 : p4 &&& (1 : Int32) = z6) (hj9 : (z6 = (0 : Int32) ∧ z8 = z1) ∨ (¬ (z6 = (0 : Int32)) ∧ z8 = ((p4.toUInt32 >>> ((1 : Int32) &&& 31).toUInt32).toInt32))) (hz10 : p5 &&& (2147483647 : Int32) = z10) (hz11 : p6 &&& (2147483647 : Int32) = z11) (hr12 : Rel1 z10 z11 r12) (hr13 : Rel2 z10 z11 r13) (hc118_41 : ¬ (z1 = z8)) (hr54 : Rel6 z1 r4 r5 z8 r12 r13 r54) (hc154_54 : ¬ (r54 = (0 : Int32))) : False := by
  simp only [Rel1] at hr4
  simp only [Rel2] at hr5
  simp only [Rel1] at hr12
  simp only [Rel2] at hr13
  simp only [Rel6] at hr54
  have o0 := rng32 p1
  have o1 := rng32 (p1 &&& (2147483647 : Int32))
  have o2 := c_mask p1 (2147483647 : Int32) 31 (by decide) (by decide)
  have o3 := rng32 z1
  have o4 := rng32 p2
  have o5 := rng32 (p2 &&& (2147483647 : Int32))
  have o6 := c_mask p2 (2147483647 : Int32) 31 (by decide) (by decide)
  have o7 := rng32 z2
  have o8 := rng32 p3
  have o9 := rng32 (p3 &&& (2147483647 : Int32))
  have o10 := c_mask p3 (2147483647 : Int32) 31 (by decide) (by decide)
  have o11 := rng32 z3
  have o12 := rng32 r4
  have o13 := rng32 r5
  have o14 := rng32 p4
  have o15 := rng32 (p4 &&& (1 : Int32))
  have o16 := c_mask p4 (1 : Int32) 1 (by decide) (by decide)
  have o17 := rng32 z6
  have o18 := rng32 z8
  have o19 := rng32 (p4.toUInt32 >>> ((1 : Int32) &&& 31).toUInt32).toInt32
  have o20 := c_iushr p4 (1 : Int32) 1 (by decide) (by decide)
  have o21 := rng32 p5
  have o22 := rng32 (p5 &&& (2147483647 : Int32))
  have o23 := c_mask p5 (2147483647 : Int32) 31 (by decide) (by decide)
  have o24 := rng32 z10
  have o25 := rng32 p6
  have o26 := rng32 (p6 &&& (2147483647 : Int32))
  have o27 := c_mask p6 (2147483647 : Int32) 31 (by decide) (by decide)
  have o28 := rng32 z11
  have o29 := rng32 r12
  have o30 := rng32 r13
  have o31 := rng32 r54
  simp only [Int32.lt_iff_toInt_lt, Int64.lt_iff_toInt_lt, Int32.le_iff_toInt_le, Int64.le_iff_toInt_le, ← Int32.toInt_inj, ← Int64.toInt_inj, Int32.reduceToInt, Int64.reduceToInt, Int32.toInt_toInt64, ne_eq] at * <;> omega
def Q0 (Z : State) (p1 : Int32) (p2 : Int32) (p3 : Int32) (p4 : Int32) (p5 : Int32) (p6 : Int32) (h0 : Heap) (n0 : Nat) (v : Option Value) (h : Heap) (L : List Loc) : Prop := v = some (.int (1 : Int32)) ∧ Fr n0 L
theorem pn_2 : plainName "com/example/bar_visibility/barvisibility/BarOverlapsPinLaw" = true := by first | (simp [plainName, overriddenIn]; done) | decide +kernel
theorem ef_rm0 (m : MethodId) (p1 : Int32) (p2 : Int32) (p3 : Int32) (p4 : Int32) (p5 : Int32) (p6 : Int32) : entryFrame m #[(.int p1), (.int p2), (.int p3), (.int p4), (.int p5), (.int p6)] maxLocals = mkF m 0 #[.val (.int p1), .val (.int p2), .val (.int p3), .val (.int p4), .val (.int p5), .val (.int p6), .unset, .unset, .unset, .unset, .unset, .unset, .unset, .unset, .unset, .unset, .unset, .unset, .unset] [] := by first | (simp [entryFrame, mkF, argsToLocals, Value.category, maxLocals]; done) | rfl
set_option maxRecDepth 65536 in
set_option maxHeartbeats 40000000 in
theorem rm0 (l : Launch) (Z : State) (a0 : Array Value) (hw : ∀ d ∈ tables_1, d.before a0 Z = true) (ws : List Jvm.Cond) (p1 : Int32) (p2 : Int32) (p3 : Int32) (p4 : Int32) (p5 : Int32) (p6 : Int32) (h0 : Heap) (n0 : Nat) (Z0 : n0 ≤ h0.size)  :
    MetFree l x (head1 (Jvm.Cond.code x code maxLocals ret :: ws) room_1) (fun a U => a = #[(.int p1), (.int p2), (.int p3), (.int p4), (.int p5), (.int p6)] ∧ Z.Warmed39 U.vm ∧ U.heap = h0) (fun _ _ _ _ _ => True) (fun _ U o U' => ∃ v L, o = .returned v ∧ (Q0 Z p1 p2 p3 p4 p5 p6 h0 n0) v U'.heap L ∧ FrameEnd U o U' L 16 128) := by
  refine MetFree.of_bodySF (plainFor_of_name pn_2) hisR ?_
  intro p e s m args below meth c s₁ Bd hml0 hP hK
  obtain ⟨rfl, hZ, hh⟩ := hP
  have hx := Bd.exec
  have hby := Bd.bytes
  have hml : c.maxLocals = 19 := hml0
  have hown : s.vm.findClass "com/example/bar_visibility/barvisibility/BarOverlapsPinLaw" = some m.cls := findClass_of_methodNamed Bd.named
  have hnm := (name_of_methodNamed Bd.named Bd.method).1
  have hlk : meth.locks = false := BodyLoose.notSynchronized Bd
  have X0 : Stand p l e room_1 s m #[(.int p1), (.int p2), (.int p3), (.int p4), (.int p5), (.int p6)] below meth c s₁ [] 0 0 := Stand.of_body Bd
  have e0 : s₁.heap = h0 := by rw [← hh, Bd.state]; rfl
  have N0 := Fr.nil n0
  show Go p e below s 16 128 (Q0 Z p1 p2 p3 p4 p5 p6 h0 n0) s₁ (entryFrame m #[(.int p1), (.int p2), (.int p3), (.int p4), (.int p5), (.int p6)] maxLocals)
  rw [ef_rm0 m p1 p2 p3 p4 p5 p6]
  refine g_iloadN 1 X0 hx (hb hby at_0) rfl (v := p1) rfl ?_
  refine g_ldc 3 X0 hx hZ hown (hw _ (List.mem_of_getElem? (i := 0) rfl)) (hb hby at_1) rfl ?_
  obtain ⟨z1, hz1⟩ : ∃ z : Int32, p1 &&& (2147483647 : Int32) = z := ⟨_, rfl⟩
  refine g_iand 4 X0 hx (hb hby at_3) rfl (z := z1) hz1 ?_
  refine g_istore 6 X0 hx (hb hby at_4) rfl (Ls' := #[.val (.int p1), .val (.int p2), .val (.int p3), .val (.int p4), .val (.int p5), .val (.int p6), .val (.int z1), .unset, .unset, .unset, .unset, .unset, .unset, .unset, .unset, .unset, .unset, .unset, .unset]) rfl ?_
  refine g_iloadN 7 X0 hx (hb hby at_6) rfl (v := p2) rfl ?_
  refine g_ldc 9 X0 hx hZ hown (hw _ (List.mem_of_getElem? (i := 0) rfl)) (hb hby at_7) rfl ?_
  obtain ⟨z2, hz2⟩ : ∃ z : Int32, p2 &&& (2147483647 : Int32) = z := ⟨_, rfl⟩
  refine g_iand 10 X0 hx (hb hby at_9) rfl (z := z2) hz2 ?_
  refine g_istore 12 X0 hx (hb hby at_10) rfl (Ls' := #[.val (.int p1), .val (.int p2), .val (.int p3), .val (.int p4), .val (.int p5), .val (.int p6), .val (.int z1), .val (.int z2), .unset, .unset, .unset, .unset, .unset, .unset, .unset, .unset, .unset, .unset, .unset]) rfl ?_
  refine g_iloadN 13 X0 hx (hb hby at_12) rfl (v := p3) rfl ?_
  refine g_ldc 15 X0 hx hZ hown (hw _ (List.mem_of_getElem? (i := 0) rfl)) (hb hby at_13) rfl ?_
  obtain ⟨z3, hz3⟩ : ∃ z : Int32, p3 &&& (2147483647 : Int32) = z := ⟨_, rfl⟩
  refine g_iand 16 X0 hx (hb hby at_15) rfl (z := z3) hz3 ?_
  refine g_istore 18 X0 hx (hb hby at_16) rfl (Ls' := #[.val (.int p1), .val (.int p2), .val (.int p3), .val (.int p4), .val (.int p5), .val (.int p6), .val (.int z1), .val (.int z2), .val (.int z3), .unset, .unset, .unset, .unset, .unset, .unset, .unset, .unset, .unset, .unset]) rfl ?_
  refine g_iload 20 X0 hx (hb hby at_18) rfl (v := z2) rfl ?_
  refine g_iload 22 X0 hx (hb hby at_20) rfl (v := z3) rfl ?_
  refine g_callS 25 X0 hx hZ (y := (⟨"java/lang/Math", "min", "(II)I"⟩ : MethodName)) hown (hw _ (List.mem_of_getElem? (i := 1) rfl)) (hw _ (List.mem_of_getElem? (i := 2) rfl)) (hw _ (List.mem_of_getElem? (i := 3) rfl)) (hw _ (List.mem_of_getElem? (i := 4) rfl)) (by decide) e0 (rm1 l Z a0 hw [] z2 z3  h0 n0 Z0 ) (by rw [hml]; rfl) [(.int z2), (.int z3)] [] rfl rfl (lenOf pd_1 rfl) 0 (Nat.le_of_eq rfl) (hb hby at_22) (by decide) (by decide) (by decide) (by decide) rfl ?_
  intro v4 T4 L4 X4 hQ4
  obtain ⟨r4, rfl, hr4, N4q, e4⟩ := hQ4
  have N4 := Fr.app N0 N4q
  show Go p e below s 16 128 (Q0 Z p1 p2 p3 p4 p5 p6 h0 n0) T4 (mkF m 25 #[.val (.int p1), .val (.int p2), .val (.int p3), .val (.int p4), .val (.int p5), .val (.int p6), .val (.int z1), .val (.int z2), .val (.int z3), .unset, .unset, .unset, .unset, .unset, .unset, .unset, .unset, .unset, .unset] [(.int r4)])
  refine g_istore 27 X4 hx (hb hby at_25) rfl (Ls' := #[.val (.int p1), .val (.int p2), .val (.int p3), .val (.int p4), .val (.int p5), .val (.int p6), .val (.int z1), .val (.int z2), .val (.int z3), .val (.int r4), .unset, .unset, .unset, .unset, .unset, .unset, .unset, .unset, .unset]) rfl ?_
  refine g_iload 29 X4 hx (hb hby at_27) rfl (v := z2) rfl ?_
  refine g_iload 31 X4 hx (hb hby at_29) rfl (v := z3) rfl ?_
  refine g_callS 34 X4 hx hZ (y := (⟨"java/lang/Math", "max", "(II)I"⟩ : MethodName)) hown (hw _ (List.mem_of_getElem? (i := 5) rfl)) (hw _ (List.mem_of_getElem? (i := 6) rfl)) (hw _ (List.mem_of_getElem? (i := 3) rfl)) (hw _ (List.mem_of_getElem? (i := 7) rfl)) (by decide) e4 (rm2 l Z a0 hw [] z2 z3  h0 n0 Z0 ) (by rw [hml]; rfl) [(.int z2), (.int z3)] [] rfl rfl (lenOf pd_1 rfl) 0 (Nat.le_of_eq rfl) (hb hby at_31) (by decide) (by decide) (by decide) (by decide) rfl ?_
  intro v5 T5 L5 X5 hQ5
  obtain ⟨r5, rfl, hr5, N5q, e5⟩ := hQ5
  have N5 := Fr.app N4 N5q
  show Go p e below s 16 128 (Q0 Z p1 p2 p3 p4 p5 p6 h0 n0) T5 (mkF m 34 #[.val (.int p1), .val (.int p2), .val (.int p3), .val (.int p4), .val (.int p5), .val (.int p6), .val (.int z1), .val (.int z2), .val (.int z3), .val (.int r4), .unset, .unset, .unset, .unset, .unset, .unset, .unset, .unset, .unset] [(.int r5)])
  refine g_istore 36 X5 hx (hb hby at_34) rfl (Ls' := #[.val (.int p1), .val (.int p2), .val (.int p3), .val (.int p4), .val (.int p5), .val (.int p6), .val (.int z1), .val (.int z2), .val (.int z3), .val (.int r4), .val (.int r5), .unset, .unset, .unset, .unset, .unset, .unset, .unset, .unset]) rfl ?_
  refine g_iloadN 37 X5 hx (hb hby at_36) rfl (v := p4) rfl ?_
  refine g_iconst 38 X5 hx (hb hby at_37) rfl (z := (1 : Int32)) rfl ?_
  obtain ⟨z6, hz6⟩ : ∃ z : Int32, p4 &&& (1 : Int32) = z := ⟨_, rfl⟩
  refine g_iand 39 X5 hx (hb hby at_38) rfl (z := z6) hz6 ?_
  suffices Jhj9 : ∀ (z8 : Int32), ((z6 = (0 : Int32) ∧ z8 = z1) ∨ (¬ (z6 = (0 : Int32)) ∧ z8 = ((p4.toUInt32 >>> ((1 : Int32) &&& 31).toUInt32).toInt32))) → Go p e below s 16 128 (Q0 Z p1 p2 p3 p4 p5 p6 h0 n0) T5 (mkF m 50 #[.val (.int p1), .val (.int p2), .val (.int p3), .val (.int p4), .val (.int p5), .val (.int p6), .val (.int z1), .val (.int z2), .val (.int z3), .val (.int r4), .val (.int r5), .unset, .unset, .unset, .unset, .unset, .unset, .unset, .unset] [(.int z8)]) by
    by_cases hc39_6 : z6 = (0 : Int32)
    ·
      refine g_ifNo 42 X5 hx (hb hby at_39)  ((if0 _ _).trans (teq hc39_6).2) rfl ?_
      refine g_iload 44 X5 hx (hb hby at_42) rfl (v := z1) rfl ?_
      refine g_goto 50 X5 hx (hb hby at_44) (by decide) (by decide) ?_
      exact Jhj9 z1 (Or.inl ⟨hc39_6, rfl⟩)
    ·
      refine g_ifYes 47 X5 hx (hb hby at_39)  ((if0 _ _).trans (feq hc39_6).2) (by decide) (by decide) ?_
      refine g_iloadN 48 X5 hx (hb hby at_47) rfl (v := p4) rfl ?_
      refine g_iconst 49 X5 hx (hb hby at_48) rfl (z := (1 : Int32)) rfl ?_
      refine g_iushr 50 X5 hx (hb hby at_49) rfl (z := ((p4.toUInt32 >>> ((1 : Int32) &&& 31).toUInt32).toInt32)) rfl ?_
      exact Jhj9 ((p4.toUInt32 >>> ((1 : Int32) &&& 31).toUInt32).toInt32) (Or.inr (⟨hc39_6, rfl⟩))
  intro z8 hj9
  refine g_istore 52 X5 hx (hb hby at_50) rfl (Ls' := #[.val (.int p1), .val (.int p2), .val (.int p3), .val (.int p4), .val (.int p5), .val (.int p6), .val (.int z1), .val (.int z2), .val (.int z3), .val (.int r4), .val (.int r5), .val (.int z8), .unset, .unset, .unset, .unset, .unset, .unset, .unset]) rfl ?_
  refine g_iload 54 X5 hx (hb hby at_52) rfl (v := p5) rfl ?_
  refine g_ldc 56 X5 hx hZ hown (hw _ (List.mem_of_getElem? (i := 0) rfl)) (hb hby at_54) rfl ?_
  obtain ⟨z10, hz10⟩ : ∃ z : Int32, p5 &&& (2147483647 : Int32) = z := ⟨_, rfl⟩
  refine g_iand 57 X5 hx (hb hby at_56) rfl (z := z10) hz10 ?_
  refine g_istore 59 X5 hx (hb hby at_57) rfl (Ls' := #[.val (.int p1), .val (.int p2), .val (.int p3), .val (.int p4), .val (.int p5), .val (.int p6), .val (.int z1), .val (.int z2), .val (.int z3), .val (.int r4), .val (.int r5), .val (.int z8), .val (.int z10), .unset, .unset, .unset, .unset, .unset, .unset]) rfl ?_
  refine g_iload 61 X5 hx (hb hby at_59) rfl (v := p6) rfl ?_
  refine g_ldc 63 X5 hx hZ hown (hw _ (List.mem_of_getElem? (i := 0) rfl)) (hb hby at_61) rfl ?_
  obtain ⟨z11, hz11⟩ : ∃ z : Int32, p6 &&& (2147483647 : Int32) = z := ⟨_, rfl⟩
  refine g_iand 64 X5 hx (hb hby at_63) rfl (z := z11) hz11 ?_
  refine g_istore 66 X5 hx (hb hby at_64) rfl (Ls' := #[.val (.int p1), .val (.int p2), .val (.int p3), .val (.int p4), .val (.int p5), .val (.int p6), .val (.int z1), .val (.int z2), .val (.int z3), .val (.int r4), .val (.int r5), .val (.int z8), .val (.int z10), .val (.int z11), .unset, .unset, .unset, .unset, .unset]) rfl ?_
  refine g_iload 68 X5 hx (hb hby at_66) rfl (v := z10) rfl ?_
  refine g_iload 70 X5 hx (hb hby at_68) rfl (v := z11) rfl ?_
  refine g_callS 73 X5 hx hZ (y := (⟨"java/lang/Math", "min", "(II)I"⟩ : MethodName)) hown (hw _ (List.mem_of_getElem? (i := 1) rfl)) (hw _ (List.mem_of_getElem? (i := 2) rfl)) (hw _ (List.mem_of_getElem? (i := 3) rfl)) (hw _ (List.mem_of_getElem? (i := 4) rfl)) (by decide) e5 (rm1 l Z a0 hw [] z10 z11  h0 n0 Z0 ) (by rw [hml]; rfl) [(.int z10), (.int z11)] [] rfl rfl (lenOf pd_1 rfl) 0 (Nat.le_of_eq rfl) (hb hby at_70) (by decide) (by decide) (by decide) (by decide) rfl ?_
  intro v12 T12 L12 X12 hQ12
  obtain ⟨r12, rfl, hr12, N12q, e12⟩ := hQ12
  have N12 := Fr.app N5 N12q
  show Go p e below s 16 128 (Q0 Z p1 p2 p3 p4 p5 p6 h0 n0) T12 (mkF m 73 #[.val (.int p1), .val (.int p2), .val (.int p3), .val (.int p4), .val (.int p5), .val (.int p6), .val (.int z1), .val (.int z2), .val (.int z3), .val (.int r4), .val (.int r5), .val (.int z8), .val (.int z10), .val (.int z11), .unset, .unset, .unset, .unset, .unset] [(.int r12)])
  refine g_istore 75 X12 hx (hb hby at_73) rfl (Ls' := #[.val (.int p1), .val (.int p2), .val (.int p3), .val (.int p4), .val (.int p5), .val (.int p6), .val (.int z1), .val (.int z2), .val (.int z3), .val (.int r4), .val (.int r5), .val (.int z8), .val (.int z10), .val (.int z11), .val (.int r12), .unset, .unset, .unset, .unset]) rfl ?_
  refine g_iload 77 X12 hx (hb hby at_75) rfl (v := z10) rfl ?_
  refine g_iload 79 X12 hx (hb hby at_77) rfl (v := z11) rfl ?_
  refine g_callS 82 X12 hx hZ (y := (⟨"java/lang/Math", "max", "(II)I"⟩ : MethodName)) hown (hw _ (List.mem_of_getElem? (i := 5) rfl)) (hw _ (List.mem_of_getElem? (i := 6) rfl)) (hw _ (List.mem_of_getElem? (i := 3) rfl)) (hw _ (List.mem_of_getElem? (i := 7) rfl)) (by decide) e12 (rm2 l Z a0 hw [] z10 z11  h0 n0 Z0 ) (by rw [hml]; rfl) [(.int z10), (.int z11)] [] rfl rfl (lenOf pd_1 rfl) 0 (Nat.le_of_eq rfl) (hb hby at_79) (by decide) (by decide) (by decide) (by decide) rfl ?_
  intro v13 T13 L13 X13 hQ13
  obtain ⟨r13, rfl, hr13, N13q, e13⟩ := hQ13
  have N13 := Fr.app N12 N13q
  show Go p e below s 16 128 (Q0 Z p1 p2 p3 p4 p5 p6 h0 n0) T13 (mkF m 82 #[.val (.int p1), .val (.int p2), .val (.int p3), .val (.int p4), .val (.int p5), .val (.int p6), .val (.int z1), .val (.int z2), .val (.int z3), .val (.int r4), .val (.int r5), .val (.int z8), .val (.int z10), .val (.int z11), .val (.int r12), .unset, .unset, .unset, .unset] [(.int r13)])
  refine g_istore 84 X13 hx (hb hby at_82) rfl (Ls' := #[.val (.int p1), .val (.int p2), .val (.int p3), .val (.int p4), .val (.int p5), .val (.int p6), .val (.int z1), .val (.int z2), .val (.int z3), .val (.int r4), .val (.int r5), .val (.int z8), .val (.int z10), .val (.int z11), .val (.int r12), .val (.int r13), .unset, .unset, .unset]) rfl ?_
  refine g_newO 87 X13 hx hZ hown (hw _ (List.mem_of_getElem? (i := 8) rfl)) (hw _ (List.mem_of_getElem? (i := 9) rfl)) (hw _ (List.mem_of_getElem? (i := 10) rfl)) e13 (hb hby at_84) (by decide) (by decide) rfl ?_
  intro T14 h14 b14 X14 e14 E14 g14 A14 D14
  have Zs15 : n0 ≤ h14.size := (Nat.le_trans Z0 E14.1)
  have g_b14 : n0 ≤ b14 := Nat.le_trans Z0 (Nat.le_of_eq g14.symm)
  have f16 : Fld Z h14 b14 "com/example/bar_visibility/barvisibility/Bar" "y" "I" (.int (0 : Int32)) := D14 (Or.inr (hw _ (List.mem_of_getElem? (i := 23) rfl))) (ty := .int) (by decide)
  have f17 : Fld Z h14 b14 "com/example/bar_visibility/barvisibility/Bar" "x1" "I" (.int (0 : Int32)) := D14 (Or.inr (hw _ (List.mem_of_getElem? (i := 25) rfl))) (ty := .int) (by decide)
  have f18 : Fld Z h14 b14 "com/example/bar_visibility/barvisibility/Bar" "x2" "I" (.int (0 : Int32)) := D14 (Or.inr (hw _ (List.mem_of_getElem? (i := 27) rfl))) (ty := .int) (by decide)
  refine g_dup 88 X14 hx (hb hby at_87) rfl rfl ?_
  refine g_iload 90 X14 hx (hb hby at_88) rfl (v := z1) rfl ?_
  refine g_iload 92 X14 hx (hb hby at_90) rfl (v := r4) rfl ?_
  refine g_iload 94 X14 hx (hb hby at_92) rfl (v := r5) rfl ?_
  have hq94_hy_19 : ¬ (z1 < (0 : Int32)) := (ask0_0 p1 p2 p3 p4 p5 p6 z1 z2 z3 r4 r5 z6 z8 z10 z11 r12 r13 hz1 hz2 hz3 hr4 hr5 hz6 hj9 hz10 hz11 hr12 hr13)
  have hq94_hx1_20 : ¬ (r4 < (0 : Int32)) := (ask0_1 p1 p2 p3 p4 p5 p6 z1 z2 z3 r4 r5 z6 z8 z10 z11 r12 r13 hz1 hz2 hz3 hr4 hr5 hz6 hj9 hz10 hz11 hr12 hr13)
  have hq94_hx2_21 : ¬ (r5 < r4) := (ask0_2 p1 p2 p3 p4 p5 p6 z1 z2 z3 r4 r5 z6 z8 z10 z11 r12 r13 hz1 hz2 hz3 hr4 hr5 hz6 hj9 hz10 hz11 hr12 hr13)
  refine g_callI 97 X14 hx hZ (y := (⟨"com/example/bar_visibility/barvisibility/Bar", "<init>", "(III)V"⟩ : MethodName)) rfl hown (hw _ (List.mem_of_getElem? (i := 11) rfl)) (hw _ (List.mem_of_getElem? (i := 12) rfl)) (hw _ (List.mem_of_getElem? (i := 10) rfl)) (hw _ (List.mem_of_getElem? (i := 13) rfl)) (by decide) e14 (rm3 l Z a0 hw [] b14 z1 r4 r5 h14 n0 Zs15 A14 f16 f17 f18 g_b14 hq94_hy_19 hq94_hx1_20 hq94_hx2_21) (by rw [hml]; rfl) b14 [(.int z1), (.int r4), (.int r5)] [(.ref b14)] rfl rfl (lenOf pd_2 rfl) 1 (Nat.le_of_eq rfl) (hb hby at_94) (by decide) (by decide) (by decide) (by decide) rfl ?_
  intro v19 T19 L19 X19 hQ19
  obtain ⟨rfl, N19q, K19, E19, F19_0, F19_1, F19_2⟩ := hQ19
  have N19 := Fr.app N13 N19q
  have Zs23 : n0 ≤ T19.heap.size := (Nat.le_trans Zs15 K19.1)
  show Go p e below s 16 128 (Q0 Z p1 p2 p3 p4 p5 p6 h0 n0) T19 (mkF m 97 #[.val (.int p1), .val (.int p2), .val (.int p3), .val (.int p4), .val (.int p5), .val (.int p6), .val (.int z1), .val (.int z2), .val (.int z3), .val (.int r4), .val (.int r5), .val (.int z8), .val (.int z10), .val (.int z11), .val (.int r12), .val (.int r13), .unset, .unset, .unset] [(.ref b14)])
  refine g_astore 99 X19 hx (hb hby at_97) rfl (Ls' := #[.val (.int p1), .val (.int p2), .val (.int p3), .val (.int p4), .val (.int p5), .val (.int p6), .val (.int z1), .val (.int z2), .val (.int z3), .val (.int r4), .val (.int r5), .val (.int z8), .val (.int z10), .val (.int z11), .val (.int r12), .val (.int r13), .val (.ref b14), .unset, .unset]) rfl rfl ?_
  refine g_newO 102 X19 hx hZ hown (hw _ (List.mem_of_getElem? (i := 8) rfl)) (hw _ (List.mem_of_getElem? (i := 9) rfl)) (hw _ (List.mem_of_getElem? (i := 10) rfl)) rfl (hb hby at_99) (by decide) (by decide) rfl ?_
  intro T24 h24 b24 X24 e24 E24 g24 A24 D24
  have f25 := E19.ext E24
  have f26 := F19_0.ext E24
  have f27 := F19_1.ext E24
  have f28 := F19_2.ext E24
  have Zs29 : n0 ≤ h24.size := (Nat.le_trans Zs23 E24.1)
  have g_b24 : n0 ≤ b24 := Nat.le_trans Zs23 (Nat.le_of_eq g24.symm)
  have f30 : Fld Z h24 b24 "com/example/bar_visibility/barvisibility/Bar" "y" "I" (.int (0 : Int32)) := D24 (Or.inr (hw _ (List.mem_of_getElem? (i := 23) rfl))) (ty := .int) (by decide)
  have f31 : Fld Z h24 b24 "com/example/bar_visibility/barvisibility/Bar" "x1" "I" (.int (0 : Int32)) := D24 (Or.inr (hw _ (List.mem_of_getElem? (i := 25) rfl))) (ty := .int) (by decide)
  have f32 : Fld Z h24 b24 "com/example/bar_visibility/barvisibility/Bar" "x2" "I" (.int (0 : Int32)) := D24 (Or.inr (hw _ (List.mem_of_getElem? (i := 27) rfl))) (ty := .int) (by decide)
  refine g_dup 103 X24 hx (hb hby at_102) rfl rfl ?_
  refine g_iload 105 X24 hx (hb hby at_103) rfl (v := z8) rfl ?_
  refine g_iload 107 X24 hx (hb hby at_105) rfl (v := r12) rfl ?_
  refine g_iload 109 X24 hx (hb hby at_107) rfl (v := r13) rfl ?_
  have hq109_hy_33 : ¬ (z8 < (0 : Int32)) := (ask0_3 p1 p2 p3 p4 p5 p6 z1 z2 z3 r4 r5 z6 z8 z10 z11 r12 r13 hz1 hz2 hz3 hr4 hr5 hz6 hj9 hz10 hz11 hr12 hr13)
  have hq109_hx1_34 : ¬ (r12 < (0 : Int32)) := (ask0_4 p1 p2 p3 p4 p5 p6 z1 z2 z3 r4 r5 z6 z8 z10 z11 r12 r13 hz1 hz2 hz3 hr4 hr5 hz6 hj9 hz10 hz11 hr12 hr13)
  have hq109_hx2_35 : ¬ (r13 < r12) := (ask0_5 p1 p2 p3 p4 p5 p6 z1 z2 z3 r4 r5 z6 z8 z10 z11 r12 r13 hz1 hz2 hz3 hr4 hr5 hz6 hj9 hz10 hz11 hr12 hr13)
  refine g_callI 112 X24 hx hZ (y := (⟨"com/example/bar_visibility/barvisibility/Bar", "<init>", "(III)V"⟩ : MethodName)) rfl hown (hw _ (List.mem_of_getElem? (i := 11) rfl)) (hw _ (List.mem_of_getElem? (i := 12) rfl)) (hw _ (List.mem_of_getElem? (i := 10) rfl)) (hw _ (List.mem_of_getElem? (i := 13) rfl)) (by decide) e24 (rm3 l Z a0 hw [] b24 z8 r12 r13 h24 n0 Zs29 A24 f30 f31 f32 g_b24 hq109_hy_33 hq109_hx1_34 hq109_hx2_35) (by rw [hml]; rfl) b24 [(.int z8), (.int r12), (.int r13)] [(.ref b24)] rfl rfl (lenOf pd_2 rfl) 1 (Nat.le_of_eq rfl) (hb hby at_109) (by decide) (by decide) (by decide) (by decide) rfl ?_
  intro v33 T33 L33 X33 hQ33
  obtain ⟨rfl, N33q, K33, E33, F33_0, F33_1, F33_2⟩ := hQ33
  have N33 := Fr.app N19 N33q
  have f37 := f25.keep K33
  have f38 := f26.keep K33 (ninS (Nat.ne_of_lt (Nat.lt_of_lt_of_le F19_2.lt (Nat.le_of_eq g24.symm))) nin0)
  have f39 := f27.keep K33 (ninS (Nat.ne_of_lt (Nat.lt_of_lt_of_le F19_2.lt (Nat.le_of_eq g24.symm))) nin0)
  have f40 := f28.keep K33 (ninS (Nat.ne_of_lt (Nat.lt_of_lt_of_le F19_2.lt (Nat.le_of_eq g24.symm))) nin0)
  have Zs41 : n0 ≤ T33.heap.size := (Nat.le_trans Zs29 K33.1)
  show Go p e below s 16 128 (Q0 Z p1 p2 p3 p4 p5 p6 h0 n0) T33 (mkF m 112 #[.val (.int p1), .val (.int p2), .val (.int p3), .val (.int p4), .val (.int p5), .val (.int p6), .val (.int z1), .val (.int z2), .val (.int z3), .val (.int r4), .val (.int r5), .val (.int z8), .val (.int z10), .val (.int z11), .val (.int r12), .val (.int r13), .val (.ref b14), .unset, .unset] [(.ref b24)])
  refine g_astore 114 X33 hx (hb hby at_112) rfl (Ls' := #[.val (.int p1), .val (.int p2), .val (.int p3), .val (.int p4), .val (.int p5), .val (.int p6), .val (.int z1), .val (.int z2), .val (.int z3), .val (.int r4), .val (.int r5), .val (.int z8), .val (.int z10), .val (.int z11), .val (.int r12), .val (.int r13), .val (.ref b14), .val (.ref b24), .unset]) rfl rfl ?_
  refine g_iload 116 X33 hx (hb hby at_114) rfl (v := z1) rfl ?_
  refine g_iload 118 X33 hx (hb hby at_116) rfl (v := z8) rfl ?_
  by_cases hc118_41 : z1 = z8
  ·
    refine g_icmpNo 121 X33 hx (hb hby at_118)  (teq hc118_41).2 rfl ?_
    refine g_iload 123 X33 hx (hb hby at_121) rfl (v := r4) rfl ?_
    refine g_iload 125 X33 hx (hb hby at_123) rfl (v := r12) rfl ?_
    refine g_callS 128 X33 hx hZ (y := (⟨"java/lang/Math", "max", "(II)I"⟩ : MethodName)) hown (hw _ (List.mem_of_getElem? (i := 5) rfl)) (hw _ (List.mem_of_getElem? (i := 6) rfl)) (hw _ (List.mem_of_getElem? (i := 3) rfl)) (hw _ (List.mem_of_getElem? (i := 7) rfl)) (by decide) rfl (rm2 l Z a0 hw [] r4 r12  T33.heap n0 Zs41 ) (by rw [hml]; rfl) [(.int r4), (.int r12)] [] rfl rfl (lenOf pd_1 rfl) 0 (Nat.le_of_eq rfl) (hb hby at_125) (by decide) (by decide) (by decide) (by decide) rfl ?_
    intro v43 T43 L43 X43 hQ43
    obtain ⟨r43, rfl, hr43, N43q, e43⟩ := hQ43
    have N43 := Fr.app N33 N43q
    show Go p e below s 16 128 (Q0 Z p1 p2 p3 p4 p5 p6 h0 n0) T43 (mkF m 128 #[.val (.int p1), .val (.int p2), .val (.int p3), .val (.int p4), .val (.int p5), .val (.int p6), .val (.int z1), .val (.int z2), .val (.int z3), .val (.int r4), .val (.int r5), .val (.int z8), .val (.int z10), .val (.int z11), .val (.int r12), .val (.int r13), .val (.ref b14), .val (.ref b24), .unset] [(.int r43)])
    refine g_iload 130 X43 hx (hb hby at_128) rfl (v := r5) rfl ?_
    refine g_iload 132 X43 hx (hb hby at_130) rfl (v := r13) rfl ?_
    refine g_callS 135 X43 hx hZ (y := (⟨"java/lang/Math", "min", "(II)I"⟩ : MethodName)) hown (hw _ (List.mem_of_getElem? (i := 1) rfl)) (hw _ (List.mem_of_getElem? (i := 2) rfl)) (hw _ (List.mem_of_getElem? (i := 3) rfl)) (hw _ (List.mem_of_getElem? (i := 4) rfl)) (by decide) e43 (rm1 l Z a0 hw [] r5 r13  T33.heap n0 Zs41 ) (by rw [hml]; rfl) [(.int r5), (.int r13)] [(.int r43)] rfl rfl (lenOf pd_1 rfl) 1 (Nat.le_of_eq rfl) (hb hby at_132) (by decide) (by decide) (by decide) (by decide) rfl ?_
    intro v44 T44 L44 X44 hQ44
    obtain ⟨r44, rfl, hr44, N44q, e44⟩ := hQ44
    have N44 := Fr.app N43 N44q
    show Go p e below s 16 128 (Q0 Z p1 p2 p3 p4 p5 p6 h0 n0) T44 (mkF m 135 #[.val (.int p1), .val (.int p2), .val (.int p3), .val (.int p4), .val (.int p5), .val (.int p6), .val (.int z1), .val (.int z2), .val (.int z3), .val (.int r4), .val (.int r5), .val (.int z8), .val (.int z10), .val (.int z11), .val (.int r12), .val (.int r13), .val (.ref b14), .val (.ref b24), .unset] [(.int r44), (.int r43)])
    suffices Jhj47 : ∀ (z46 : Int32), ((r44 < r43 ∧ z46 = (0 : Int32)) ∨ (¬ (r44 < r43) ∧ z46 = (1 : Int32))) → Go p e below s 16 128 (Q0 Z p1 p2 p3 p4 p5 p6 h0 n0) T44 (mkF m 143 #[.val (.int p1), .val (.int p2), .val (.int p3), .val (.int p4), .val (.int p5), .val (.int p6), .val (.int z1), .val (.int z2), .val (.int z3), .val (.int r4), .val (.int r5), .val (.int z8), .val (.int z10), .val (.int z11), .val (.int r12), .val (.int r13), .val (.ref b14), .val (.ref b24), .unset] [(.int z46)]) by
      by_cases hc135_44 : r44 < r43
      ·
        refine g_icmpYes 142 X44 hx (hb hby at_135)  (tlt hc135_44).2.2.1 (by decide) (by decide) ?_
        refine g_iconst 143 X44 hx (hb hby at_142) rfl (z := (0 : Int32)) rfl ?_
        exact Jhj47 (0 : Int32) (Or.inl ⟨hc135_44, rfl⟩)
      ·
        refine g_icmpNo 138 X44 hx (hb hby at_135)  (flt hc135_44).2.2.1 rfl ?_
        refine g_iconst 139 X44 hx (hb hby at_138) rfl (z := (1 : Int32)) rfl ?_
        refine g_goto 143 X44 hx (hb hby at_139) (by decide) (by decide) ?_
        exact Jhj47 (1 : Int32) (Or.inr (⟨hc135_44, rfl⟩))
    intro z46 hj47
    refine g_istore 145 X44 hx (hb hby at_143) rfl (Ls' := #[.val (.int p1), .val (.int p2), .val (.int p3), .val (.int p4), .val (.int p5), .val (.int p6), .val (.int z1), .val (.int z2), .val (.int z3), .val (.int r4), .val (.int r5), .val (.int z8), .val (.int z10), .val (.int z11), .val (.int r12), .val (.int r13), .val (.ref b14), .val (.ref b24), .val (.int z46)]) rfl ?_
    refine g_aload 147 X44 hx (hb hby at_145) rfl (v := (.ref b14)) rfl rfl ?_
    refine g_aload 149 X44 hx (hb hby at_147) rfl (v := (.ref b24)) rfl rfl ?_
    refine g_callV 152 X44 hx hZ (y := (⟨"com/example/bar_visibility/barvisibility/Bar", "overlaps", "(Lcom/example/bar_visibility/barvisibility/Bar;)Z"⟩ : MethodName)) hown (hw _ (List.mem_of_getElem? (i := 28) rfl)) (hw _ (List.mem_of_getElem? (i := 29) rfl)) (hw _ (List.mem_of_getElem? (i := 31) rfl)) (hw _ (List.mem_of_getElem? (i := 30) rfl)) (hw _ (List.mem_of_getElem? (i := 10) rfl)) (hw _ (List.mem_of_getElem? (i := 32) rfl)) (by decide) e44 f37 (rm6 l Z a0 hw [] b14 b24 z1 r4 r5 z8 r12 r13 T33.heap n0 Zs41 f38 f39 f40 F33_0 F33_1 F33_2) (by rw [hml]; rfl) [(.ref b24)] [] rfl rfl (lenOf pd_3 rfl) 0 (Nat.le_of_eq rfl) (hb hby at_149) (by decide) (by decide) (by decide) (by decide) rfl ?_
    intro v48 T48 L48 X48 hQ48
    obtain ⟨r48, rfl, hr48, N48q, e48⟩ := hQ48
    have N48 := Fr.app N44 N48q
    show Go p e below s 16 128 (Q0 Z p1 p2 p3 p4 p5 p6 h0 n0) T48 (mkF m 152 #[.val (.int p1), .val (.int p2), .val (.int p3), .val (.int p4), .val (.int p5), .val (.int p6), .val (.int z1), .val (.int z2), .val (.int z3), .val (.int r4), .val (.int r5), .val (.int z8), .val (.int z10), .val (.int z11), .val (.int r12), .val (.int r13), .val (.ref b14), .val (.ref b24), .val (.int z46)] [(.int r48)])
    refine g_iload 154 X48 hx (hb hby at_152) rfl (v := z46) rfl ?_
    by_cases hc154_48 : r48 = z46
    ·
      refine g_icmpNo 157 X48 hx (hb hby at_154)  (teq hc154_48).2 rfl ?_
      refine g_aload 159 X48 hx (hb hby at_157) rfl (v := (.ref b24)) rfl rfl ?_
      refine g_aload 161 X48 hx (hb hby at_159) rfl (v := (.ref b14)) rfl rfl ?_
      refine g_callV 164 X48 hx hZ (y := (⟨"com/example/bar_visibility/barvisibility/Bar", "overlaps", "(Lcom/example/bar_visibility/barvisibility/Bar;)Z"⟩ : MethodName)) hown (hw _ (List.mem_of_getElem? (i := 28) rfl)) (hw _ (List.mem_of_getElem? (i := 29) rfl)) (hw _ (List.mem_of_getElem? (i := 31) rfl)) (hw _ (List.mem_of_getElem? (i := 30) rfl)) (hw _ (List.mem_of_getElem? (i := 10) rfl)) (hw _ (List.mem_of_getElem? (i := 32) rfl)) (by decide) e48 E33 (rm6 l Z a0 hw [] b24 b14 z8 r12 r13 z1 r4 r5 T33.heap n0 Zs41 F33_0 F33_1 F33_2 f38 f39 f40) (by rw [hml]; rfl) [(.ref b14)] [] rfl rfl (lenOf pd_3 rfl) 0 (Nat.le_of_eq rfl) (hb hby at_161) (by decide) (by decide) (by decide) (by decide) rfl ?_
      intro v50 T50 L50 X50 hQ50
      obtain ⟨r50, rfl, hr50, N50q, e50⟩ := hQ50
      have N50 := Fr.app N48 N50q
      show Go p e below s 16 128 (Q0 Z p1 p2 p3 p4 p5 p6 h0 n0) T50 (mkF m 164 #[.val (.int p1), .val (.int p2), .val (.int p3), .val (.int p4), .val (.int p5), .val (.int p6), .val (.int z1), .val (.int z2), .val (.int z3), .val (.int r4), .val (.int r5), .val (.int z8), .val (.int z10), .val (.int z11), .val (.int r12), .val (.int r13), .val (.ref b14), .val (.ref b24), .val (.int z46)] [(.int r50)])
      refine g_iload 166 X50 hx (hb hby at_164) rfl (v := z46) rfl ?_
      suffices Jhj53 : ∀ (z52 : Int32), ((r50 = z46 ∧ z52 = (1 : Int32)) ∨ (¬ (r50 = z46) ∧ z52 = (0 : Int32))) → Go p e below s 16 128 (Q0 Z p1 p2 p3 p4 p5 p6 h0 n0) T50 (mkF m 174 #[.val (.int p1), .val (.int p2), .val (.int p3), .val (.int p4), .val (.int p5), .val (.int p6), .val (.int z1), .val (.int z2), .val (.int z3), .val (.int r4), .val (.int r5), .val (.int z8), .val (.int z10), .val (.int z11), .val (.int r12), .val (.int r13), .val (.ref b14), .val (.ref b24), .val (.int z46)] [(.int z52)]) by
        by_cases hc166_50 : r50 = z46
        ·
          refine g_icmpNo 169 X50 hx (hb hby at_166)  (teq hc166_50).2 rfl ?_
          refine g_iconst 170 X50 hx (hb hby at_169) rfl (z := (1 : Int32)) rfl ?_
          refine g_goto 174 X50 hx (hb hby at_170) (by decide) (by decide) ?_
          exact Jhj53 (1 : Int32) (Or.inl ⟨hc166_50, rfl⟩)
        ·
          refine g_icmpYes 173 X50 hx (hb hby at_166)  (feq hc166_50).2 (by decide) (by decide) ?_
          refine g_iconst 174 X50 hx (hb hby at_173) rfl (z := (0 : Int32)) rfl ?_
          exact Jhj53 (0 : Int32) (Or.inr (⟨hc166_50, rfl⟩))
      intro z52 hj53
      have hl0 : z52 = 1 := leaf_0 p1 p2 p3 p4 p5 p6 z1 z2 z3 r4 r5 z6 z8 z10 z11 r12 r13 r43 r44 z46 r48 r50 z52 hz1 hz2 hz3 hr4 hr5 hz6 hj9 hz10 hz11 hr12 hr13 hc118_41 hr43 hr44 hj47 hr48 hc154_48 hr50 hj53
      subst hl0
      exact g_retN X50 hx (t := .boolean) Bd.returns hlk (by simp) rfl (hb hby at_174) (by decide) (by decide) ⟨rfl, N50⟩
    ·
      refine g_icmpYes 173 X48 hx (hb hby at_154)  (feq hc154_48).2 (by decide) (by decide) ?_
      refine g_iconst 174 X48 hx (hb hby at_173) rfl (z := (0 : Int32)) rfl ?_
      exact (leaf_1 p1 p2 p3 p4 p5 p6 z1 z2 z3 r4 r5 z6 z8 z10 z11 r12 r13 r43 r44 z46 r48 hz1 hz2 hz3 hr4 hr5 hz6 hj9 hz10 hz11 hr12 hr13 hc118_41 hr43 hr44 hj47 hr48 hc154_48).elim
  ·
    refine g_icmpYes 142 X33 hx (hb hby at_118)  (feq hc118_41).2 (by decide) (by decide) ?_
    refine g_iconst 143 X33 hx (hb hby at_142) rfl (z := (0 : Int32)) rfl ?_
    refine g_istore 145 X33 hx (hb hby at_143) rfl (Ls' := #[.val (.int p1), .val (.int p2), .val (.int p3), .val (.int p4), .val (.int p5), .val (.int p6), .val (.int z1), .val (.int z2), .val (.int z3), .val (.int r4), .val (.int r5), .val (.int z8), .val (.int z10), .val (.int z11), .val (.int r12), .val (.int r13), .val (.ref b14), .val (.ref b24), .val (.int (0 : Int32))]) rfl ?_
    refine g_aload 147 X33 hx (hb hby at_145) rfl (v := (.ref b14)) rfl rfl ?_
    refine g_aload 149 X33 hx (hb hby at_147) rfl (v := (.ref b24)) rfl rfl ?_
    refine g_callV 152 X33 hx hZ (y := (⟨"com/example/bar_visibility/barvisibility/Bar", "overlaps", "(Lcom/example/bar_visibility/barvisibility/Bar;)Z"⟩ : MethodName)) hown (hw _ (List.mem_of_getElem? (i := 28) rfl)) (hw _ (List.mem_of_getElem? (i := 29) rfl)) (hw _ (List.mem_of_getElem? (i := 31) rfl)) (hw _ (List.mem_of_getElem? (i := 30) rfl)) (hw _ (List.mem_of_getElem? (i := 10) rfl)) (hw _ (List.mem_of_getElem? (i := 32) rfl)) (by decide) rfl f37 (rm6 l Z a0 hw [] b14 b24 z1 r4 r5 z8 r12 r13 T33.heap n0 Zs41 f38 f39 f40 F33_0 F33_1 F33_2) (by rw [hml]; rfl) [(.ref b24)] [] rfl rfl (lenOf pd_3 rfl) 0 (Nat.le_of_eq rfl) (hb hby at_149) (by decide) (by decide) (by decide) (by decide) rfl ?_
    intro v54 T54 L54 X54 hQ54
    obtain ⟨r54, rfl, hr54, N54q, e54⟩ := hQ54
    have N54 := Fr.app N33 N54q
    show Go p e below s 16 128 (Q0 Z p1 p2 p3 p4 p5 p6 h0 n0) T54 (mkF m 152 #[.val (.int p1), .val (.int p2), .val (.int p3), .val (.int p4), .val (.int p5), .val (.int p6), .val (.int z1), .val (.int z2), .val (.int z3), .val (.int r4), .val (.int r5), .val (.int z8), .val (.int z10), .val (.int z11), .val (.int r12), .val (.int r13), .val (.ref b14), .val (.ref b24), .val (.int (0 : Int32))] [(.int r54)])
    refine g_iload 154 X54 hx (hb hby at_152) rfl (v := (0 : Int32)) rfl ?_
    by_cases hc154_54 : r54 = (0 : Int32)
    ·
      refine g_icmpNo 157 X54 hx (hb hby at_154)  (teq hc154_54).2 rfl ?_
      refine g_aload 159 X54 hx (hb hby at_157) rfl (v := (.ref b24)) rfl rfl ?_
      refine g_aload 161 X54 hx (hb hby at_159) rfl (v := (.ref b14)) rfl rfl ?_
      refine g_callV 164 X54 hx hZ (y := (⟨"com/example/bar_visibility/barvisibility/Bar", "overlaps", "(Lcom/example/bar_visibility/barvisibility/Bar;)Z"⟩ : MethodName)) hown (hw _ (List.mem_of_getElem? (i := 28) rfl)) (hw _ (List.mem_of_getElem? (i := 29) rfl)) (hw _ (List.mem_of_getElem? (i := 31) rfl)) (hw _ (List.mem_of_getElem? (i := 30) rfl)) (hw _ (List.mem_of_getElem? (i := 10) rfl)) (hw _ (List.mem_of_getElem? (i := 32) rfl)) (by decide) e54 E33 (rm6 l Z a0 hw [] b24 b14 z8 r12 r13 z1 r4 r5 T33.heap n0 Zs41 F33_0 F33_1 F33_2 f38 f39 f40) (by rw [hml]; rfl) [(.ref b14)] [] rfl rfl (lenOf pd_3 rfl) 0 (Nat.le_of_eq rfl) (hb hby at_161) (by decide) (by decide) (by decide) (by decide) rfl ?_
      intro v56 T56 L56 X56 hQ56
      obtain ⟨r56, rfl, hr56, N56q, e56⟩ := hQ56
      have N56 := Fr.app N54 N56q
      show Go p e below s 16 128 (Q0 Z p1 p2 p3 p4 p5 p6 h0 n0) T56 (mkF m 164 #[.val (.int p1), .val (.int p2), .val (.int p3), .val (.int p4), .val (.int p5), .val (.int p6), .val (.int z1), .val (.int z2), .val (.int z3), .val (.int r4), .val (.int r5), .val (.int z8), .val (.int z10), .val (.int z11), .val (.int r12), .val (.int r13), .val (.ref b14), .val (.ref b24), .val (.int (0 : Int32))] [(.int r56)])
      refine g_iload 166 X56 hx (hb hby at_164) rfl (v := (0 : Int32)) rfl ?_
      suffices Jhj59 : ∀ (z58 : Int32), ((r56 = (0 : Int32) ∧ z58 = (1 : Int32)) ∨ (¬ (r56 = (0 : Int32)) ∧ z58 = (0 : Int32))) → Go p e below s 16 128 (Q0 Z p1 p2 p3 p4 p5 p6 h0 n0) T56 (mkF m 174 #[.val (.int p1), .val (.int p2), .val (.int p3), .val (.int p4), .val (.int p5), .val (.int p6), .val (.int z1), .val (.int z2), .val (.int z3), .val (.int r4), .val (.int r5), .val (.int z8), .val (.int z10), .val (.int z11), .val (.int r12), .val (.int r13), .val (.ref b14), .val (.ref b24), .val (.int (0 : Int32))] [(.int z58)]) by
        by_cases hc166_56 : r56 = (0 : Int32)
        ·
          refine g_icmpNo 169 X56 hx (hb hby at_166)  (teq hc166_56).2 rfl ?_
          refine g_iconst 170 X56 hx (hb hby at_169) rfl (z := (1 : Int32)) rfl ?_
          refine g_goto 174 X56 hx (hb hby at_170) (by decide) (by decide) ?_
          exact Jhj59 (1 : Int32) (Or.inl ⟨hc166_56, rfl⟩)
        ·
          refine g_icmpYes 173 X56 hx (hb hby at_166)  (feq hc166_56).2 (by decide) (by decide) ?_
          refine g_iconst 174 X56 hx (hb hby at_173) rfl (z := (0 : Int32)) rfl ?_
          exact Jhj59 (0 : Int32) (Or.inr (⟨hc166_56, rfl⟩))
      intro z58 hj59
      have hl2 : z58 = 1 := leaf_2 p1 p2 p3 p4 p5 p6 z1 z2 z3 r4 r5 z6 z8 z10 z11 r12 r13 r54 r56 z58 hz1 hz2 hz3 hr4 hr5 hz6 hj9 hz10 hz11 hr12 hr13 hc118_41 hr54 hc154_54 hr56 hj59
      subst hl2
      exact g_retN X56 hx (t := .boolean) Bd.returns hlk (by simp) rfl (hb hby at_174) (by decide) (by decide) ⟨rfl, N56⟩
    ·
      refine g_icmpYes 173 X54 hx (hb hby at_154)  (feq hc154_54).2 (by decide) (by decide) ?_
      refine g_iconst 174 X54 hx (hb hby at_173) rfl (z := (0 : Int32)) rfl ?_
      exact (leaf_3 p1 p2 p3 p4 p5 p6 z1 z2 z3 r4 r5 z6 z8 z10 z11 r12 r13 r54 hz1 hz2 hz3 hr4 hr5 hz6 hj9 hz10 hz11 hr12 hr13 hc118_41 hr54 hc154_54).elim
set_option maxRecDepth 65536 in
set_option maxHeartbeats 40000000 in
theorem comes_1 {Post : Tables → Env → Array Value → State → Outcome → State → Prop} (hpost : ∀ tb e args s v u, (limb_1_1.after args s (.returned v) u = true ∧ limb_1_2.after args s (.returned v) u = true ∧ True) → FrameEnd s (.returned v) u (Jvm.fieldLocs frame_1_writes args s ++ Jvm.arrayLocs frame_1_arrays args s ++ Jvm.staticLocs frame_1_statics s) 16 128 → Post tb e args s (.returned v) u) :
    ArmFor flags0 classFile x code maxLocals ret World_1 tables_1 room_1 Calls_1 rest_1 Pre_1 Post := by
  intro l hfl _ _ p e ha hc hk s m args below hf hA hF happ hP
  obtain ⟨hcalls, hrest, hpre⟩ := hP
  obtain ⟨-, -, -, hnamed, -, -, -, hat⟩ := (Spec.applies_iff hf).mp happ
  obtain ⟨hg, hn⟩ := and_e (Cond.before_iff.mp (show (Jvm.Cond.and given_1 narrow_1).before args s = true from hpre))
  obtain ⟨hcount, r0⟩ := and_e hg
  obtain ⟨ga0, r1⟩ := and_e r0
  obtain ⟨ga1, r2⟩ := and_e r1
  obtain ⟨ga2, r3⟩ := and_e r2
  obtain ⟨ga3, r4⟩ := and_e r3
  obtain ⟨ga4, r5⟩ := and_e r4
  obtain ⟨w0, w1, w2, w3, w4, w5, rfl⟩ : ∃ w0 w1 w2 w3 w4 w5 : Value, args = #[w0, w1, w2, w3, w4, w5] := by
    have hs : args.size = 6 := by simpa [Cond.value, given_1] using hcount
    obtain ⟨L⟩ := args
    match L, hs with
    | [w0, w1, w2, w3, w4, w5], _ => exact ⟨w0, w1, w2, w3, w4, w5, rfl⟩
  have hw := fun d (hd : d ∈ tables_1) => atoms_spec (ws := Jvm.Cond.code x code maxLocals ret :: tables_1) hat d (List.mem_cons_of_mem _ hd)
  obtain ⟨i0, ei0⟩ := is_v ga0
  obtain rfl : w0 = (.int i0) := Option.some.inj ei0
  obtain ⟨i1, ei1⟩ := is_v ga1
  obtain rfl : w1 = (.int i1) := Option.some.inj ei1
  obtain ⟨i2, ei2⟩ := is_v ga2
  obtain rfl : w2 = (.int i2) := Option.some.inj ei2
  obtain ⟨i3, ei3⟩ := is_v ga3
  obtain rfl : w3 = (.int i3) := Option.some.inj ei3
  obtain ⟨i4, ei4⟩ := is_v ga4
  obtain rfl : w4 = (.int i4) := Option.some.inj ei4
  obtain ⟨i5, ei5⟩ := is_v r5
  obtain rfl : w5 = (.int i5) := Option.some.inj ei5
  obtain ⟨n, o, h1, h2, h3, _, L, rfl, ⟨rfl, N⟩, hq⟩ := rm0 l s _ hw tables_1 i0 i1 i2 i3 i4 i5 s.heap s.heap.size (Nat.le_refl _)  p e ha hc hk s m _ below hf ((Spec.applies_iff_loose hf).mp happ).1 ⟨rfl, State.Warmed39.refl s, rfl⟩ trivial
  exact ⟨n, _, h1, h2, h3, hpost _ _ _ _ _ _ ⟨Cond.after_iff.mpr rfl, Cond.after_iff.mpr (eq_i res_at (Term.int_eval (1)) rfl), trivial⟩ ⟨hq.1, hq.2.1, (hq.2.2.sift fun y hy => Or.inr (N y hy)).mono (by decide) (by decide)⟩⟩
theorem main_1_1 : Claimed_1_1 := comes_1 fun _ _ _ _ _ _ h hF => ⟨h.1, hF⟩
theorem main_1_2 : Claimed_1_2 := comes_1 fun _ _ _ _ _ _ h hF => ⟨h.2.1, hF⟩
end Jvm.Pilot.@@N@@
namespace Jvm.Pilot.@@N@@
open Jvm Jvm.ClassFile Sem Op Lib Jvm.Free Jvm.Stand Jvm.Pilot.@@N@@.Jvm.D
/-! MADE BY PROGRAM (witnessworld.py) out of the Statement's table words and the real class files: 11 classes; the members and pool entries that the words name. The judged class is class 1, her method 1. -/
namespace start1
open Jvm.ClassFile
def u (s : String) : CpInfo := .utf8 (stringToUtf16 s)
/-- a pool by its gaps: so many unusable entries, then the entry; so many at the end -/
def gap : Nat → List CpInfo → List CpInfo
  | 0, r => r
  | n + 1, r => .unusable :: gap n r
def poolList (es : List (Nat × CpInfo)) (last : Nat) : List CpInfo := es.foldr (fun e r => gap e.1 (e.2 :: r)) (gap last [])
def pool (es : List (Nat × CpInfo)) (last : Nat) : Array CpInfo := ⟨poolList es last⟩
def fileOf (pool : Array CpInfo) (this : Nat) (attrs : Array Attribute := #[]) (ms : Array MethodInfo := #[]) (fl : Nat := 33) (sup : Nat := 0) (ifs : Array Nat := #[]) (fds : Array FieldInfo := #[]) : ClassFile where
  minorVersion := 0
  majorVersion := 65
  constantPool := pool
  accessFlags := fl
  thisClass := this
  superClass := sup
  interfaces := ifs
  fields := fds
  methods := ms
  attributes := attrs
def plain (name : String) (sup : Option ClassId) : Class where
  name := name
  kind := .ordinary
  loader := none
  accessFlags := 33
  super := sup
  interfaces := #[]
  cf := none
  fields := #[]
  methods := #[]
  instanceTypes := #[]
  staticTypes := #[]
  resolved := #[]
  callSites := []
  init := .initialized
  statics := none
  mirror := none

def pool0 : Array CpInfo := pool [(5, u "<init>"), (0, u "()V"), (1, .class_ 10), (1, u "java/lang/Object")] 113

def k0c0 : Code := { maxStack := 0, maxLocals := 1, code := object_method_1_code, exceptionTable := #[], attributes := #[] }
def k0m0 : Method := { name := "<init>", desc := "()V", sig := { parameters := [], returnType := none }, accessFlags := 1, code := some k0c0 }
/-- java/lang/Object -/
def k0 : Class := { plain "java/lang/Object" none with
  accessFlags := 33
  interfaces := #[]
  cf := some (fileOf pool0 8 #[] #[{ accessFlags := 1, nameIndex := 5, descriptorIndex := 6, attributes := #[] }] 33 0 #[] #[])
  fields := #[]
  methods := #[k0m0]
  instanceTypes := #[]
  staticTypes := #[]
  resolved := Array.replicate 124 none
  statics := none }

def pool1 : Array CpInfo := pool [(2, .class_ 4), (1, u "java/lang/Object"), (0, u "<init>"), (0, u "()V"), (0, .integer 2147483647), (0, .methodref 9 10), (0, .class_ 11), (0, .nameAndType 12 13), (0, u "java/lang/Math"), (0, u "min"), (0, u "(II)I"), (0, .methodref 9 15), (0, .nameAndType 16 13), (0, u "max"), (0, .class_ 18), (0, u "com/example/bar_visibility/barvisibility/Bar"), (0, .methodref 17 20), (0, .nameAndType 5 21), (0, u "(III)V"), (0, .methodref 17 23), (0, .nameAndType 24 25), (0, u "overlaps"), (0, u "(Lcom/example/bar_visibility/barvisibility/Bar;)Z"), (0, .class_ 27), (0, u "com/example/bar_visibility/barvisibility/BarOverlapsPinLaw"), (2, u "law"), (0, u "(IIIIII)Z")] 3

def k1m0 : Method := { name := "<init>", desc := "()V", sig := { parameters := [], returnType := none }, accessFlags := 1, code := none }
def k1c1 : Code := { maxStack := 5, maxLocals := 19, code := code, exceptionTable := #[], attributes := #[] }
def k1m1 : Method := { name := "law", desc := "(IIIIII)Z", sig := { parameters := [.int, .int, .int, .int, .int, .int], returnType := some .boolean }, accessFlags := 9, code := some k1c1 }
/-- com/example/bar_visibility/barvisibility/BarOverlapsPinLaw -/
def k1 : Class := { plain "com/example/bar_visibility/barvisibility/BarOverlapsPinLaw" (some 0) with
  accessFlags := 49
  interfaces := #[]
  cf := some (fileOf pool1 26 #[] #[{ accessFlags := 1, nameIndex := 5, descriptorIndex := 6, attributes := #[] }, { accessFlags := 9, nameIndex := 30, descriptorIndex := 31, attributes := #[] }] 49 2 #[] #[])
  fields := #[]
  methods := #[k1m0, k1m1]
  instanceTypes := #[]
  staticTypes := #[]
  resolved := Array.replicate 35 none
  statics := none }

def pool2 : Array CpInfo := pool [(1, .class_ 2), (0, u "java/lang/Math"), (1, .class_ 6), (1, u "java/lang/Object"), (0, u "<init>"), (0, u "()V"), (89, .class_ 100), (1, u "java/lang/Math$RandomNumberGeneratorHolder"), (71, u "negativeZeroFloatBits"), (0, u "J"), (2, u "negativeZeroDoubleBits"), (21, u "max"), (2, u "min"), (43, u "$assertionsDisabled"), (0, u "Z"), (88, u "(II)I"), (2, u "twoToTheDoubleScaleDown"), (0, u "D"), (4, u "twoToTheDoubleScaleUp"), (9, u "E"), (3, u "PI"), (2, u "TAU"), (2, u "DEGREES_TO_RADIANS"), (0, u "RADIANS_TO_DEGREES")] 94

def k2m0 : Method := { name := "<init>", desc := "()V", sig := { parameters := [], returnType := none }, accessFlags := 2, code := none }
def k2c1 : Code := { maxStack := 2, maxLocals := 2, code := jdk_29_method_65_code, exceptionTable := #[], attributes := #[] }
def k2m1 : Method := { name := "max", desc := "(II)I", sig := { parameters := [.int, .int], returnType := some .int }, accessFlags := 9, code := some k2c1 }
def k2c2 : Code := { maxStack := 2, maxLocals := 2, code := jdk_29_method_69_code, exceptionTable := #[], attributes := #[] }
def k2m2 : Method := { name := "min", desc := "(II)I", sig := { parameters := [.int, .int], returnType := some .int }, accessFlags := 9, code := some k2c2 }
/-- java/lang/Math -/
def k2 : Class := { plain "java/lang/Math" (some 0) with
  accessFlags := 49
  interfaces := #[]
  cf := some (fileOf pool2 1 #[.nestMembers #[98]] #[{ accessFlags := 2, nameIndex := 7, descriptorIndex := 8, attributes := #[] }, { accessFlags := 9, nameIndex := 198, descriptorIndex := 335, attributes := #[] }, { accessFlags := 9, nameIndex := 201, descriptorIndex := 335, attributes := #[] }] 49 4 #[] #[{ accessFlags := 25, nameIndex := 354, descriptorIndex := 339, attributes := #[] }, { accessFlags := 25, nameIndex := 358, descriptorIndex := 339, attributes := #[] }, { accessFlags := 25, nameIndex := 361, descriptorIndex := 339, attributes := #[] }, { accessFlags := 26, nameIndex := 364, descriptorIndex := 339, attributes := #[] }, { accessFlags := 26, nameIndex := 365, descriptorIndex := 339, attributes := #[] }, { accessFlags := 26, nameIndex := 172, descriptorIndex := 173, attributes := #[] }, { accessFlags := 26, nameIndex := 176, descriptorIndex := 173, attributes := #[] }, { accessFlags := 8, nameIndex := 344, descriptorIndex := 339, attributes := #[] }, { accessFlags := 8, nameIndex := 338, descriptorIndex := 339, attributes := #[] }, { accessFlags := 4120, nameIndex := 245, descriptorIndex := 246, attributes := #[] }])
  fields := #[{ name := "E", type := .double, accessFlags := 25, slot := 0, constantValue := 0 }, { name := "PI", type := .double, accessFlags := 25, slot := 1, constantValue := 0 }, { name := "TAU", type := .double, accessFlags := 25, slot := 2, constantValue := 0 }, { name := "DEGREES_TO_RADIANS", type := .double, accessFlags := 26, slot := 3, constantValue := 0 }, { name := "RADIANS_TO_DEGREES", type := .double, accessFlags := 26, slot := 4, constantValue := 0 }, { name := "negativeZeroFloatBits", type := .long, accessFlags := 26, slot := 5, constantValue := 0 }, { name := "negativeZeroDoubleBits", type := .long, accessFlags := 26, slot := 6, constantValue := 0 }, { name := "twoToTheDoubleScaleUp", type := .double, accessFlags := 8, slot := 7, constantValue := 0 }, { name := "twoToTheDoubleScaleDown", type := .double, accessFlags := 8, slot := 8, constantValue := 0 }, { name := "$assertionsDisabled", type := .boolean, accessFlags := 4120, slot := 9, constantValue := 0 }]
  methods := #[k2m0, k2m1, k2m2]
  instanceTypes := #[]
  staticTypes := #[.double, .double, .double, .double, .double, .long, .long, .double, .double, .boolean]
  resolved := Array.replicate 460 none
  statics := none }

def pool3 : Array CpInfo := pool [(1, .methodref 2 3), (0, .class_ 4), (0, .nameAndType 5 6), (0, u "java/lang/Object"), (0, u "<init>"), (0, u "()V"), (0, .class_ 8), (0, u "java/lang/Record")] 13

def k3c0 : Code := { maxStack := 1, maxLocals := 1, code := jdk_30_method_1_code, exceptionTable := #[], attributes := #[] }
def k3m0 : Method := { name := "<init>", desc := "()V", sig := { parameters := [], returnType := none }, accessFlags := 4, code := some k3c0 }
/-- java/lang/Record -/
def k3 : Class := { plain "java/lang/Record" (some 0) with
  accessFlags := 1057
  interfaces := #[]
  cf := some (fileOf pool3 7 #[] #[{ accessFlags := 4, nameIndex := 5, descriptorIndex := 6, attributes := #[] }] 1057 2 #[] #[])
  fields := #[]
  methods := #[k3m0]
  instanceTypes := #[]
  staticTypes := #[]
  resolved := Array.replicate 22 none
  statics := none }

def pool4 : Array CpInfo := pool [(1, .methodref 2 3), (0, .class_ 4), (0, .nameAndType 5 6), (0, u "java/lang/Record"), (0, u "<init>"), (0, u "()V"), (12, .fieldref 20 21), (0, .class_ 22), (0, .nameAndType 23 24), (0, u "com/example/bar_visibility/barvisibility/Bar"), (0, u "y"), (0, u "I"), (0, .fieldref 20 26), (0, .nameAndType 27 24), (0, u "x1"), (0, .fieldref 20 29), (0, .nameAndType 30 24), (0, u "x2"), (12, u "(III)V"), (6, u "overlaps"), (0, u "(Lcom/example/bar_visibility/barvisibility/Bar;)Z")] 35

def k4c0 : Code := { maxStack := 5, maxLocals := 4, code := prog_2_method_1_code, exceptionTable := #[], attributes := #[] }
def k4m0 : Method := { name := "<init>", desc := "(III)V", sig := { parameters := [.int, .int, .int], returnType := none }, accessFlags := 1, code := some k4c0 }
def k4c1 : Code := { maxStack := 2, maxLocals := 2, code := prog_2_method_3_code, exceptionTable := #[], attributes := #[] }
def k4m1 : Method := { name := "overlaps", desc := "(Lcom/example/bar_visibility/barvisibility/Bar;)Z", sig := { parameters := [(.object "com/example/bar_visibility/barvisibility/Bar")], returnType := some .boolean }, accessFlags := 1, code := some k4c1 }
/-- com/example/bar_visibility/barvisibility/Bar -/
def k4 : Class := { plain "com/example/bar_visibility/barvisibility/Bar" (some 3) with
  accessFlags := 49
  interfaces := #[]
  cf := some (fileOf pool4 20 #[] #[{ accessFlags := 1, nameIndex := 5, descriptorIndex := 43, attributes := #[] }, { accessFlags := 1, nameIndex := 50, descriptorIndex := 51, attributes := #[] }] 49 2 #[] #[{ accessFlags := 18, nameIndex := 23, descriptorIndex := 24, attributes := #[] }, { accessFlags := 18, nameIndex := 27, descriptorIndex := 24, attributes := #[] }, { accessFlags := 18, nameIndex := 30, descriptorIndex := 24, attributes := #[] }])
  fields := #[{ name := "y", type := .int, accessFlags := 18, slot := 0, constantValue := 0 }, { name := "x1", type := .int, accessFlags := 18, slot := 1, constantValue := 0 }, { name := "x2", type := .int, accessFlags := 18, slot := 2, constantValue := 0 }]
  methods := #[k4m0, k4m1]
  instanceTypes := #[.int, .int, .int]
  staticTypes := #[]
  resolved := Array.replicate 87 none
  statics := none }

def pool5 : Array CpInfo := pool [(1, u "java/lang/Cloneable"), (0, .class_ 1), (0, u "java/lang/Object"), (0, .class_ 3)] 3

/-- java/lang/Cloneable -/
def k5 : Class := { plain "java/lang/Cloneable" (some 0) with
  accessFlags := 1537
  interfaces := #[]
  cf := some (fileOf pool5 2 #[] #[] 1537 4 #[] #[])
  fields := #[]
  methods := #[]
  instanceTypes := #[]
  staticTypes := #[]
  resolved := Array.replicate 8 none
  statics := none }

def pool6 : Array CpInfo := pool [(1, u "java/io/Serializable"), (0, .class_ 1), (0, u "java/lang/Object"), (0, .class_ 3)] 3

/-- java/io/Serializable -/
def k6 : Class := { plain "java/io/Serializable" (some 0) with
  accessFlags := 1537
  interfaces := #[]
  cf := some (fileOf pool6 2 #[] #[] 1537 4 #[] #[])
  fields := #[]
  methods := #[]
  instanceTypes := #[]
  staticTypes := #[]
  resolved := Array.replicate 8 none
  statics := none }

/-- the primitive byte -/
def k7 : Class := { plain "byte" none with kind := .primitive 'B', accessFlags := 0x411 }
/-- [B -/
def k8 : Class := { plain "[B" (some 0) with kind := .array 7 .byte, interfaces := #[5, 6], accessFlags := 1041 }

/-- the primitive int -/
def k9 : Class := { plain "int" none with kind := .primitive 'I', accessFlags := 0x411 }
/-- [I -/
def k10 : Class := { plain "[I" (some 0) with kind := .array 9 .int, interfaces := #[5, 6], accessFlags := 1041 }

def heap : Heap := #[]
def classes : Array Class := #[k0, k1, k2, k3, k4, k5, k6, k7, k8, k9, k10]
def interned : List (Array UInt16 × Addr) := []
def slotsUsed : Nat := 0
def theMethod : MethodId := ⟨1, 1⟩
def args0 : Array Value := #[.int 5, .int 7, .int 9, .int 11, .int 13, .int 15]
def aboutOver (below : List Frame) : State where
  vm := { classes := classes, interned := interned.toArray }
  heap := heap
  slotsUsed := slotsUsed
  threads := #[{ frames := .invoking theMethod args0 :: below }]
def below0 : List Frame := [.native { method := ⟨0, 0⟩, args := #[] }]
def about1 : State := aboutOver below0
def p0 : Program := .bare "" "" ""
def e0 : Env := launch0.env 0 0 0
theorem w_frames : about1.frames = Frame.invoking theMethod args0 :: below0 := rfl
set_option maxRecDepth 65536 in
theorem w_args : argsFit about1.vm theMethod args0 = true := by decide +kernel
set_option maxRecDepth 65536 in
theorem w_heap : heapFits about1 = true := by decide +kernel
set_option maxRecDepth 65536 in
theorem w_runnable : about1.curStatus? = some .runnable := by decide +kernel
set_option maxRecDepth 65536 in
theorem w_alone : about1.alone = true := by decide +kernel
set_option maxRecDepth 65536 in
theorem w_named : about1.methodNamed? x = some theMethod := by decide +kernel
set_option maxRecDepth 65536 in
theorem w_hears : about1.hears theMethod below0 = true := by decide +kernel
set_option maxRecDepth 65536 in
theorem w_ripe : about1.ripe theMethod args0 below0 = true := by decide +kernel
theorem w_running : about1.status = .running := rfl
set_option maxRecDepth 65536 in
theorem w_room : about1.hasRoom e0.platform room_1 = true :=
  launch0.hasRoom_least _ room_1 (by decide +kernel) (by decide +kernel) (by decide +kernel) (by decide +kernel) (by decide +kernel) (by decide +kernel)
theorem allAtoms_all (ts : List Jvm.Cond) (a : Array Jvm.Value) (st : Jvm.State) : (allAtoms ts).before a st = ts.all (fun c => c.before a st) := by
  induction ts with
  | nil => rfl
  | cons c t ih =>
    show (Jvm.Cond.and c (allAtoms t)).before a st = _
    rw [Jvm.Cond.before_and, ih, List.all_cons]
def words1 : List Jvm.Cond := Jvm.Cond.code x code maxLocals ret :: tables_1
/-- a 'code' word, met by the world's own term for the bytes: nothing is compared byte by byte -/
theorem code_word {y : MethodName} {bytes : ByteArray} {mx : Nat} {rt : Option FieldType} {a : Array Value} {s : State} {m : MethodId} {meth : Method} {c : Code} (h1 : s.methodNamed? y = some m) (h2 : s.vm.method? m = some meth) (h3 : meth.code = some c) (h4 : c.code = bytes)
    (h5 : (c.maxLocals == mx && c.exceptionTable.isEmpty && decide (c.maxStack ≤ mostOperands) && decide (meth.sig.returnType = rt) && !meth.locks && decide (parseMethodDescriptor y.desc = some meth.sig)) = true) : (Jvm.Cond.code y bytes mx rt).before a s = true := by
  simp only [Bool.and_eq_true, beq_iff_eq, Bool.not_eq_true', decide_eq_true_eq] at h5
  obtain ⟨⟨⟨⟨⟨g1, g2⟩, g3⟩, g4⟩, g5⟩, g6⟩ := h5
  simp [Cond.before, Cond.holds, Cond.value, h1, h2, h3, h4, g1, g2, g3, g4, g5, g6]
def isCode : Jvm.Cond → Bool
  | .code _ _ _ _ => true
  | _ => false
theorem all_split {L : List Jvm.Cond} {P : Jvm.Cond → Bool} (h1 : L.all (fun c => isCode c || P c) = true) (h2 : ∀ c ∈ L.filter isCode, P c = true) : L.all P = true := by
  refine List.all_eq_true.mpr fun c hc => ?_
  have h := List.all_eq_true.mp h1 c hc
  rcases Bool.eq_false_or_eq_true (isCode c) with hi | hi
  · exact h2 c (List.mem_filter.mpr ⟨hc, hi⟩)
  · simpa [hi] using h
set_option maxRecDepth 65536 in
theorem w_c0 : (Jvm.Cond.code x code maxLocals ret).before args0 about1 = true := code_word (m := ⟨1, 1⟩) (meth := k1m1) (c := k1c1) (by decide +kernel) rfl rfl rfl (by decide +kernel)
set_option maxRecDepth 65536 in
theorem w_c1 : (Jvm.Cond.code ({ cls := "java/lang/Math", name := "min", desc := "(II)I" } : Jvm.MethodName) jdk_29_method_69_code (2 : Nat) (Option.some Jvm.ClassFile.FieldType.int)).before args0 about1 = true := code_word (m := ⟨2, 2⟩) (meth := k2m2) (c := k2c2) (by decide +kernel) rfl rfl rfl (by decide +kernel)
set_option maxRecDepth 65536 in
theorem w_c2 : (Jvm.Cond.code ({ cls := "java/lang/Math", name := "max", desc := "(II)I" } : Jvm.MethodName) jdk_29_method_65_code (2 : Nat) (Option.some Jvm.ClassFile.FieldType.int)).before args0 about1 = true := code_word (m := ⟨2, 1⟩) (meth := k2m1) (c := k2c1) (by decide +kernel) rfl rfl rfl (by decide +kernel)
set_option maxRecDepth 65536 in
theorem w_c3 : (Jvm.Cond.code ({ cls := "com/example/bar_visibility/barvisibility/Bar", name := "<init>", desc := "(III)V" } : Jvm.MethodName) prog_2_method_1_code (4 : Nat) (Option.none : Option Jvm.ClassFile.FieldType)).before args0 about1 = true := code_word (m := ⟨4, 0⟩) (meth := k4m0) (c := k4c0) (by decide +kernel) rfl rfl rfl (by decide +kernel)
set_option maxRecDepth 65536 in
theorem w_c4 : (Jvm.Cond.code ({ cls := "java/lang/Record", name := "<init>", desc := "()V" } : Jvm.MethodName) jdk_30_method_1_code (1 : Nat) (Option.none : Option Jvm.ClassFile.FieldType)).before args0 about1 = true := code_word (m := ⟨3, 0⟩) (meth := k3m0) (c := k3c0) (by decide +kernel) rfl rfl rfl (by decide +kernel)
set_option maxRecDepth 65536 in
theorem w_c5 : (Jvm.Cond.code ({ cls := "java/lang/Object", name := "<init>", desc := "()V" } : Jvm.MethodName) object_method_1_code (1 : Nat) (Option.none : Option Jvm.ClassFile.FieldType)).before args0 about1 = true := code_word (m := ⟨0, 0⟩) (meth := k0m0) (c := k0c0) (by decide +kernel) rfl rfl rfl (by decide +kernel)
set_option maxRecDepth 65536 in
theorem w_c6 : (Jvm.Cond.code ({ cls := "com/example/bar_visibility/barvisibility/Bar", name := "overlaps", desc := "(Lcom/example/bar_visibility/barvisibility/Bar;)Z" } : Jvm.MethodName) prog_2_method_3_code (2 : Nat) (Option.some Jvm.ClassFile.FieldType.boolean)).before args0 about1 = true := code_word (m := ⟨4, 1⟩) (meth := k4m1) (c := k4c1) (by decide +kernel) rfl rfl rfl (by decide +kernel)
def codes1 : List Jvm.Cond := [Jvm.Cond.code x code maxLocals ret, Jvm.Cond.code ({ cls := "java/lang/Math", name := "min", desc := "(II)I" } : Jvm.MethodName) jdk_29_method_69_code (2 : Nat) (Option.some Jvm.ClassFile.FieldType.int), Jvm.Cond.code ({ cls := "java/lang/Math", name := "max", desc := "(II)I" } : Jvm.MethodName) jdk_29_method_65_code (2 : Nat) (Option.some Jvm.ClassFile.FieldType.int), Jvm.Cond.code ({ cls := "com/example/bar_visibility/barvisibility/Bar", name := "<init>", desc := "(III)V" } : Jvm.MethodName) prog_2_method_1_code (4 : Nat) (Option.none : Option Jvm.ClassFile.FieldType), Jvm.Cond.code ({ cls := "java/lang/Record", name := "<init>", desc := "()V" } : Jvm.MethodName) jdk_30_method_1_code (1 : Nat) (Option.none : Option Jvm.ClassFile.FieldType), Jvm.Cond.code ({ cls := "java/lang/Object", name := "<init>", desc := "()V" } : Jvm.MethodName) object_method_1_code (1 : Nat) (Option.none : Option Jvm.ClassFile.FieldType), Jvm.Cond.code ({ cls := "com/example/bar_visibility/barvisibility/Bar", name := "overlaps", desc := "(Lcom/example/bar_visibility/barvisibility/Bar;)Z" } : Jvm.MethodName) prog_2_method_3_code (2 : Nat) (Option.some Jvm.ClassFile.FieldType.boolean)]
set_option maxRecDepth 65536 in
theorem codes_eq : words1.filter isCode = codes1 := rfl
theorem w_codes : ∀ c ∈ words1.filter isCode, c.before args0 about1 = true := by
  rw [codes_eq]
  intro c hc
  simp only [codes1, List.mem_cons, List.not_mem_nil, or_false] at hc
  rcases hc with rfl | rfl | rfl | rfl | rfl | rfl | rfl
  · exact w_c0
  · exact w_c1
  · exact w_c2
  · exact w_c3
  · exact w_c4
  · exact w_c5
  · exact w_c6
set_option maxRecDepth 65536 in
theorem w_t1 : (words1.take 24).all (fun c => isCode c || c.before args0 about1) = true := by decide +kernel
set_option maxRecDepth 65536 in
theorem w_t2 : (words1.drop 24).all (fun c => isCode c || c.before args0 about1) = true := by decide +kernel
theorem w_tables : (allAtoms (Jvm.Cond.code x code maxLocals ret :: tables_1)).before args0 about1 = true := by
  rw [allAtoms_all]
  show words1.all (fun c => c.before args0 about1) = true
  refine all_split ?_ w_codes
  rw [← List.take_append_drop 24 words1, List.all_append, w_t1, w_t2]
  rfl
set_option maxRecDepth 65536 in
theorem w_case : (Jvm.Cond.and given_1 narrow_1).before args0 about1 = true := by decide +kernel
theorem w_applies : (headSpec (Jvm.Cond.code x code maxLocals ret :: tables_1) room_1).applies x e0.platform about1 = true :=
  (Spec.applies_iff w_frames).mpr ⟨w_running, w_runnable, w_alone, w_named, w_hears, w_ripe, w_room, w_tables⟩
theorem atStart : AtStart classFile x code maxLocals ret World_1 tables_1 room_1 Calls_1 rest_1 Pre_1 launch0 p0 e0 about1 theMethod args0 below0 :=
  ⟨lists_1, trivial, launch0.admits_env _ _ _, launch0.least_env, fairChoices_fair.cas, fairChoices_fair.clock, w_frames, w_args, w_heap, w_applies, trivial, trivial, w_case⟩
end start1
theorem witness_1 : WitnessClaimed_1 := ⟨start1.p0, start1.e0, start1.about1, start1.theMethod, start1.args0, start1.below0, start1.atStart⟩
end Jvm.Pilot.@@N@@
