import JvmDerived
import JvmDerived.Pilot.@@N@@Statement
import JvmDerived.Pilot.@@N@@Code
set_option linter.unusedVariables false
set_option linter.unusedSimpArgs false
namespace Jvm.Pilot.@@N@@
open Jvm Jvm.ClassFile Sem Op Lib Jvm.Free Jvm.Stand Jvm.LawKit Jvm.RoadKit Bundle Jvm.Pilot.@@N@@.Jvm.D
section OwnKit
/-- the run goes on from here to the method's end; what it leaves is Q -/
def Go (p : Program) (e : Env) (below : List Frame) (s : State) (k n : Nat) (Q : Option Value → Heap → List Loc → Prop) (T : State) (g : JFrame) : Prop :=
  ∃ s₂ o, Steps p.tables e below (T.setTop g) s₂ ∧ s₂.status = .running ∧ Ended s₂ below o ∧ ∃ v L, o = .returned v ∧ Q v s₂.heap L ∧ FrameEnd s o s₂ L k n
variable {p : Program} {l : Launch} {e : Env} {R : Room} {s : State} {m : MethodId} {args : Array Value} {below : List Frame} {meth : Method} {c : Code} {T : State} {locs : List Loc} {cells slots : Nat} {k n : Nat} {Q : Option Value → Heap → List Loc → Prop} {pc : Nat} {Ls : Array Slot} {st : List Value} {Z : State} {a0 : Array Value} {h h' : Heap}
theorem Go.via {T' : State} {g g' : JFrame} (q : ∀ t, Steps p.tables e below (T'.setTop g') t → Steps p.tables e below (T.setTop g) t) (H : Go p e below s k n Q T' g') : Go p e below s k n Q T g := by
  obtain ⟨s₂, o, h1, r⟩ := H
  exact ⟨s₂, o, q _ h1, r⟩
theorem tltL {x y : Int64} (q : x < y) : ifCond.holds .lt (lcmpW x y) = true ∧ ifCond.holds .ge (lcmpW x y) = false ∧ ifCond.holds .gt (lcmpW y x) = true ∧ ifCond.holds .le (lcmpW y x) = false := by
  simp only [if0]
  exact ⟨(tlt ((lw_lt x y).mpr q)).1, (tlt ((lw_lt x y).mpr q)).2.1, (tlt ((lw_gt y x).mpr q)).2.2.1, (tlt ((lw_gt y x).mpr q)).2.2.2⟩
theorem fltL {x y : Int64} (q : ¬ x < y) : ifCond.holds .lt (lcmpW x y) = false ∧ ifCond.holds .ge (lcmpW x y) = true ∧ ifCond.holds .gt (lcmpW y x) = false ∧ ifCond.holds .le (lcmpW y x) = true := by
  simp only [if0]
  exact ⟨(flt (mt (lw_lt x y).mp q)).1, (flt (mt (lw_lt x y).mp q)).2.1, (flt (mt (lw_gt y x).mp q)).2.2.1, (flt (mt (lw_gt y x).mp q)).2.2.2⟩
theorem teqL {x y : Int64} (q : x = y) : ifCond.holds .eq (lcmpW x y) = true ∧ ifCond.holds .ne (lcmpW x y) = false := by
  simp only [if0]
  exact ⟨(teq ((lw_eq x y).mpr q)).1, (teq ((lw_eq x y).mpr q)).2⟩
theorem feqL {x y : Int64} (q : ¬ x = y) : ifCond.holds .eq (lcmpW x y) = false ∧ ifCond.holds .ne (lcmpW x y) = true := by
  simp only [if0]
  exact ⟨(feq (mt (lw_eq x y).mp q)).1, (feq (mt (lw_eq x y).mp q)).2⟩
theorem tlt0 {x y : Int32} (q : x < y) : (y = 0 → ifCond.holds .lt x = true ∧ ifCond.holds .ge x = false) ∧ (x = 0 → ifCond.holds .gt y = true ∧ ifCond.holds .le y = false) := by
  refine ⟨fun r => ?_, fun r => ?_⟩ <;> subst r <;> simp only [if0]
  · exact ⟨(tlt q).1, (tlt q).2.1⟩
  · exact ⟨(tlt q).2.2.1, (tlt q).2.2.2⟩
theorem g_iloadN (pc' : Nat) (X : Stand p l e R s m args below meth c T locs cells slots) (hx : p.tables.exec = Jvm.exec) {i : Fin 4} {v : Int32} (hd : decode c.code pc = .ok (.iload_n i, 1)) (hp : pc + 1 = pc') (hl : Ls[i.val]? = some (.val (.int v))) (H : Go p e below s k n Q T (mkF m pc' Ls (.int v :: st))) : Go p e below s k n Q T (mkF m pc Ls st) := by
  subst hp
  exact H.via fun t q => XS.iloadN X.here hx rfl hd hl q
theorem g_iload (pc' : Nat) (X : Stand p l e R s m args below meth c T locs cells slots) (hx : p.tables.exec = Jvm.exec) {i : Nat} {v : Int32} (hd : decode c.code pc = .ok (.iload i, 2)) (hp : pc + 2 = pc') (hl : Ls[i]? = some (.val (.int v))) (H : Go p e below s k n Q T (mkF m pc' Ls (.int v :: st))) : Go p e below s k n Q T (mkF m pc Ls st) := by
  subst hp
  exact H.via fun t q => XS.iload X.here hx rfl hd hl q
theorem g_istoreN (pc' : Nat) (X : Stand p l e R s m args below meth c T locs cells slots) (hx : p.tables.exec = Jvm.exec) {i : Fin 4} {v : Int32} {Ls' : Array Slot} (hd : decode c.code pc = .ok (.istore_n i, 1)) (hp : pc + 1 = pc') (hl : storeLocals Ls i.val (.int v) = some Ls') (H : Go p e below s k n Q T (mkF m pc' Ls' st)) : Go p e below s k n Q T (mkF m pc Ls (.int v :: st)) := by
  subst hp
  exact H.via fun t q => XS.istoreN X.here hx rfl hd rfl hl q
theorem g_istore (pc' : Nat) (X : Stand p l e R s m args below meth c T locs cells slots) (hx : p.tables.exec = Jvm.exec) {i : Nat} {v : Int32} {Ls' : Array Slot} (hd : decode c.code pc = .ok (.istore i, 2)) (hp : pc + 2 = pc') (hl : storeLocals Ls i (.int v) = some Ls') (H : Go p e below s k n Q T (mkF m pc' Ls' st)) : Go p e below s k n Q T (mkF m pc Ls (.int v :: st)) := by
  subst hp
  exact H.via fun t q => XS.istore X.here hx rfl hd rfl hl q
theorem g_lloadN (pc' : Nat) (X : Stand p l e R s m args below meth c T locs cells slots) (hx : p.tables.exec = Jvm.exec) {i : Fin 4} {v : Int64} (hd : decode c.code pc = .ok (.lload_n i, 1)) (hp : pc + 1 = pc') (hl : Ls[i.val]? = some (.val (.long v))) (H : Go p e below s k n Q T (mkF m pc' Ls (.long v :: st))) : Go p e below s k n Q T (mkF m pc Ls st) := by
  subst hp
  exact H.via fun t q => XS.lloadN X.here hx rfl hd hl q
theorem g_lload (pc' : Nat) (X : Stand p l e R s m args below meth c T locs cells slots) (hx : p.tables.exec = Jvm.exec) {i : Nat} {v : Int64} (hd : decode c.code pc = .ok (.lload i, 2)) (hp : pc + 2 = pc') (hl : Ls[i]? = some (.val (.long v))) (H : Go p e below s k n Q T (mkF m pc' Ls (.long v :: st))) : Go p e below s k n Q T (mkF m pc Ls st) := by
  subst hp
  exact H.via fun t q => XS.lload X.here hx rfl hd hl q
theorem g_lstoreN (pc' : Nat) (X : Stand p l e R s m args below meth c T locs cells slots) (hx : p.tables.exec = Jvm.exec) {i : Fin 4} {v : Int64} {Ls' : Array Slot} (hd : decode c.code pc = .ok (.lstore_n i, 1)) (hp : pc + 1 = pc') (hl : storeLocals Ls i.val (.long v) = some Ls') (H : Go p e below s k n Q T (mkF m pc' Ls' st)) : Go p e below s k n Q T (mkF m pc Ls (.long v :: st)) := by
  subst hp
  exact H.via fun t q => XS.lstoreN X.here hx rfl hd rfl hl q
theorem g_lstore (pc' : Nat) (X : Stand p l e R s m args below meth c T locs cells slots) (hx : p.tables.exec = Jvm.exec) {i : Nat} {v : Int64} {Ls' : Array Slot} (hd : decode c.code pc = .ok (.lstore i, 2)) (hp : pc + 2 = pc') (hl : storeLocals Ls i (.long v) = some Ls') (H : Go p e below s k n Q T (mkF m pc' Ls' st)) : Go p e below s k n Q T (mkF m pc Ls (.long v :: st)) := by
  subst hp
  exact H.via fun t q => XS.lstore X.here hx rfl hd rfl hl q
theorem g_aloadN (pc' : Nat) (X : Stand p l e R s m args below meth c T locs cells slots) (hx : p.tables.exec = Jvm.exec) {i : Fin 4} {v : Value} (hd : decode c.code pc = .ok (.aload_n i, 1)) (hp : pc + 1 = pc') (hl : Ls[i.val]? = some (.val v)) (hv : v.isRef = true) (H : Go p e below s k n Q T (mkF m pc' Ls (v :: st))) : Go p e below s k n Q T (mkF m pc Ls st) := by
  subst hp
  exact H.via fun t q => XS.aloadN X.here hx rfl hd hl hv q
theorem g_aload (pc' : Nat) (X : Stand p l e R s m args below meth c T locs cells slots) (hx : p.tables.exec = Jvm.exec) {i : Nat} {v : Value} (hd : decode c.code pc = .ok (.aload i, 2)) (hp : pc + 2 = pc') (hl : Ls[i]? = some (.val v)) (hv : v.isRef = true) (H : Go p e below s k n Q T (mkF m pc' Ls (v :: st))) : Go p e below s k n Q T (mkF m pc Ls st) := by
  subst hp
  exact H.via fun t q => XS.aload X.here hx rfl hd hl hv q
theorem g_astoreN (pc' : Nat) (X : Stand p l e R s m args below meth c T locs cells slots) (hx : p.tables.exec = Jvm.exec) {i : Fin 4} {v : Value} {Ls' : Array Slot} (hd : decode c.code pc = .ok (.astore_n i, 1)) (hp : pc + 1 = pc') (hv : v.isRef = true) (hl : storeLocals Ls i.val v = some Ls') (H : Go p e below s k n Q T (mkF m pc' Ls' st)) : Go p e below s k n Q T (mkF m pc Ls (v :: st)) := by
  subst hp
  exact H.via fun t q => XS.astoreN X.here hx rfl hd rfl hv hl q
theorem g_astore (pc' : Nat) (X : Stand p l e R s m args below meth c T locs cells slots) (hx : p.tables.exec = Jvm.exec) {i : Nat} {v : Value} {Ls' : Array Slot} (hd : decode c.code pc = .ok (.astore i, 2)) (hp : pc + 2 = pc') (hv : v.isRef = true) (hl : storeLocals Ls i v = some Ls') (H : Go p e below s k n Q T (mkF m pc' Ls' st)) : Go p e below s k n Q T (mkF m pc Ls (v :: st)) := by
  subst hp
  exact H.via fun t q => XS.astore X.here hx rfl hd rfl hv hl q
theorem g_iconst (pc' : Nat) (X : Stand p l e R s m args below meth c T locs cells slots) (hx : p.tables.exec = Jvm.exec) {i : Int} {z : Int32} (hd : decode c.code pc = .ok (.iconst i, 1)) (hp : pc + 1 = pc') (hz : Int32.ofInt i = z) (H : Go p e below s k n Q T (mkF m pc' Ls (.int z :: st))) : Go p e below s k n Q T (mkF m pc Ls st) := by
  subst hp hz
  exact H.via fun t q => XS.iconst X.here hx rfl hd q
theorem g_bipush (pc' : Nat) (X : Stand p l e R s m args below meth c T locs cells slots) (hx : p.tables.exec = Jvm.exec) {i : Int} {z : Int32} (hd : decode c.code pc = .ok (.bipush i, 2)) (hp : pc + 2 = pc') (hz : (Int8.ofInt i).toInt32 = z) (H : Go p e below s k n Q T (mkF m pc' Ls (.int z :: st))) : Go p e below s k n Q T (mkF m pc Ls st) := by
  subst hp hz
  exact H.via fun t q => XS.bipush X.here hx rfl hd q
theorem g_sipush (pc' : Nat) (X : Stand p l e R s m args below meth c T locs cells slots) (hx : p.tables.exec = Jvm.exec) {i : Int} {z : Int32} (hd : decode c.code pc = .ok (.sipush i, 3)) (hp : pc + 3 = pc') (hz : (Int16.ofInt i).toInt32 = z) (H : Go p e below s k n Q T (mkF m pc' Ls (.int z :: st))) : Go p e below s k n Q T (mkF m pc Ls st) := by
  subst hp hz
  exact H.via fun t q => XS.sipush X.here hx rfl hd q
theorem g_lconst (pc' : Nat) (X : Stand p l e R s m args below meth c T locs cells slots) (hx : p.tables.exec = Jvm.exec) {i : Fin 2} {z : Int64} (hd : decode c.code pc = .ok (.lconst i, 1)) (hp : pc + 1 = pc') (hz : Int64.ofNat i.val = z) (H : Go p e below s k n Q T (mkF m pc' Ls (.long z :: st))) : Go p e below s k n Q T (mkF m pc Ls st) := by
  subst hp hz
  exact H.via fun t q => XS.lconst X.here hx rfl hd q
theorem g_aconst_null (pc' : Nat) (X : Stand p l e R s m args below meth c T locs cells slots) (hx : p.tables.exec = Jvm.exec) (hd : decode c.code pc = .ok (.aconst_null, 1)) (hp : pc + 1 = pc')  (H : Go p e below s k n Q T (mkF m pc' Ls (.null :: st))) : Go p e below s k n Q T (mkF m pc Ls st) := by
  subst hp
  exact H.via fun t q => XS.aconstNull X.here hx rfl hd q
theorem g_iadd (pc' : Nat) (X : Stand p l e R s m args below meth c T locs cells slots) (hx : p.tables.exec = Jvm.exec) {x y z : Int32} (hd : decode c.code pc = .ok (.iadd, 1)) (hp : pc + 1 = pc') (hz : x + y = z) (H : Go p e below s k n Q T (mkF m pc' Ls (.int z :: st))) : Go p e below s k n Q T (mkF m pc Ls (.int y :: .int x :: st)) := by
  subst hp hz
  exact H.via fun t q => XS.iadd X.here hx rfl hd rfl q
theorem g_isub (pc' : Nat) (X : Stand p l e R s m args below meth c T locs cells slots) (hx : p.tables.exec = Jvm.exec) {x y z : Int32} (hd : decode c.code pc = .ok (.isub, 1)) (hp : pc + 1 = pc') (hz : x - y = z) (H : Go p e below s k n Q T (mkF m pc' Ls (.int z :: st))) : Go p e below s k n Q T (mkF m pc Ls (.int y :: .int x :: st)) := by
  subst hp hz
  exact H.via fun t q => XS.isub X.here hx rfl hd rfl q
theorem g_imul (pc' : Nat) (X : Stand p l e R s m args below meth c T locs cells slots) (hx : p.tables.exec = Jvm.exec) {x y z : Int32} (hd : decode c.code pc = .ok (.imul, 1)) (hp : pc + 1 = pc') (hz : x * y = z) (H : Go p e below s k n Q T (mkF m pc' Ls (.int z :: st))) : Go p e below s k n Q T (mkF m pc Ls (.int y :: .int x :: st)) := by
  subst hp hz
  exact H.via fun t q => XS.imul X.here hx rfl hd rfl q
theorem g_iand (pc' : Nat) (X : Stand p l e R s m args below meth c T locs cells slots) (hx : p.tables.exec = Jvm.exec) {x y z : Int32} (hd : decode c.code pc = .ok (.iand, 1)) (hp : pc + 1 = pc') (hz : x &&& y = z) (H : Go p e below s k n Q T (mkF m pc' Ls (.int z :: st))) : Go p e below s k n Q T (mkF m pc Ls (.int y :: .int x :: st)) := by
  subst hp hz
  exact H.via fun t q => XS.iand X.here hx rfl hd rfl q
theorem g_ior (pc' : Nat) (X : Stand p l e R s m args below meth c T locs cells slots) (hx : p.tables.exec = Jvm.exec) {x y z : Int32} (hd : decode c.code pc = .ok (.ior, 1)) (hp : pc + 1 = pc') (hz : x ||| y = z) (H : Go p e below s k n Q T (mkF m pc' Ls (.int z :: st))) : Go p e below s k n Q T (mkF m pc Ls (.int y :: .int x :: st)) := by
  subst hp hz
  exact H.via fun t q => XS.ior X.here hx rfl hd rfl q
theorem g_ixor (pc' : Nat) (X : Stand p l e R s m args below meth c T locs cells slots) (hx : p.tables.exec = Jvm.exec) {x y z : Int32} (hd : decode c.code pc = .ok (.ixor, 1)) (hp : pc + 1 = pc') (hz : x ^^^ y = z) (H : Go p e below s k n Q T (mkF m pc' Ls (.int z :: st))) : Go p e below s k n Q T (mkF m pc Ls (.int y :: .int x :: st)) := by
  subst hp hz
  exact H.via fun t q => XS.ixor X.here hx rfl hd rfl q
theorem g_ladd (pc' : Nat) (X : Stand p l e R s m args below meth c T locs cells slots) (hx : p.tables.exec = Jvm.exec) {x y z : Int64} (hd : decode c.code pc = .ok (.ladd, 1)) (hp : pc + 1 = pc') (hz : x + y = z) (H : Go p e below s k n Q T (mkF m pc' Ls (.long z :: st))) : Go p e below s k n Q T (mkF m pc Ls (.long y :: .long x :: st)) := by
  subst hp hz
  exact H.via fun t q => XS.ladd X.here hx rfl hd rfl q
theorem g_lsub (pc' : Nat) (X : Stand p l e R s m args below meth c T locs cells slots) (hx : p.tables.exec = Jvm.exec) {x y z : Int64} (hd : decode c.code pc = .ok (.lsub, 1)) (hp : pc + 1 = pc') (hz : x - y = z) (H : Go p e below s k n Q T (mkF m pc' Ls (.long z :: st))) : Go p e below s k n Q T (mkF m pc Ls (.long y :: .long x :: st)) := by
  subst hp hz
  exact H.via fun t q => XS.lsub X.here hx rfl hd rfl q
theorem g_lmul (pc' : Nat) (X : Stand p l e R s m args below meth c T locs cells slots) (hx : p.tables.exec = Jvm.exec) {x y z : Int64} (hd : decode c.code pc = .ok (.lmul, 1)) (hp : pc + 1 = pc') (hz : x * y = z) (H : Go p e below s k n Q T (mkF m pc' Ls (.long z :: st))) : Go p e below s k n Q T (mkF m pc Ls (.long y :: .long x :: st)) := by
  subst hp hz
  exact H.via fun t q => XS.lmul X.here hx rfl hd rfl q
theorem g_land (pc' : Nat) (X : Stand p l e R s m args below meth c T locs cells slots) (hx : p.tables.exec = Jvm.exec) {x y z : Int64} (hd : decode c.code pc = .ok (.land, 1)) (hp : pc + 1 = pc') (hz : x &&& y = z) (H : Go p e below s k n Q T (mkF m pc' Ls (.long z :: st))) : Go p e below s k n Q T (mkF m pc Ls (.long y :: .long x :: st)) := by
  subst hp hz
  exact H.via fun t q => XS.land X.here hx rfl hd rfl q
theorem g_lor (pc' : Nat) (X : Stand p l e R s m args below meth c T locs cells slots) (hx : p.tables.exec = Jvm.exec) {x y z : Int64} (hd : decode c.code pc = .ok (.lor, 1)) (hp : pc + 1 = pc') (hz : x ||| y = z) (H : Go p e below s k n Q T (mkF m pc' Ls (.long z :: st))) : Go p e below s k n Q T (mkF m pc Ls (.long y :: .long x :: st)) := by
  subst hp hz
  exact H.via fun t q => XS.lor X.here hx rfl hd rfl q
theorem g_lxor (pc' : Nat) (X : Stand p l e R s m args below meth c T locs cells slots) (hx : p.tables.exec = Jvm.exec) {x y z : Int64} (hd : decode c.code pc = .ok (.lxor, 1)) (hp : pc + 1 = pc') (hz : x ^^^ y = z) (H : Go p e below s k n Q T (mkF m pc' Ls (.long z :: st))) : Go p e below s k n Q T (mkF m pc Ls (.long y :: .long x :: st)) := by
  subst hp hz
  exact H.via fun t q => XS.lxor X.here hx rfl hd rfl q
theorem g_ishl (pc' : Nat) (X : Stand p l e R s m args below meth c T locs cells slots) (hx : p.tables.exec = Jvm.exec) {x y z : Int32} (hd : decode c.code pc = .ok (.ishl, 1)) (hp : pc + 1 = pc') (hz : x <<< (y &&& 31) = z) (H : Go p e below s k n Q T (mkF m pc' Ls (.int z :: st))) : Go p e below s k n Q T (mkF m pc Ls (.int y :: .int x :: st)) := by
  subst hp hz
  exact H.via fun t q => XS.ishl X.here hx rfl hd rfl q
theorem g_ishr (pc' : Nat) (X : Stand p l e R s m args below meth c T locs cells slots) (hx : p.tables.exec = Jvm.exec) {x y z : Int32} (hd : decode c.code pc = .ok (.ishr, 1)) (hp : pc + 1 = pc') (hz : x >>> (y &&& 31) = z) (H : Go p e below s k n Q T (mkF m pc' Ls (.int z :: st))) : Go p e below s k n Q T (mkF m pc Ls (.int y :: .int x :: st)) := by
  subst hp hz
  exact H.via fun t q => XS.ishr X.here hx rfl hd rfl q
theorem g_iushr (pc' : Nat) (X : Stand p l e R s m args below meth c T locs cells slots) (hx : p.tables.exec = Jvm.exec) {x y z : Int32} (hd : decode c.code pc = .ok (.iushr, 1)) (hp : pc + 1 = pc') (hz : (x.toUInt32 >>> (y &&& 31).toUInt32).toInt32 = z) (H : Go p e below s k n Q T (mkF m pc' Ls (.int z :: st))) : Go p e below s k n Q T (mkF m pc Ls (.int y :: .int x :: st)) := by
  subst hp hz
  exact H.via fun t q => XS.iushr X.here hx rfl hd rfl q
theorem g_lshl (pc' : Nat) (X : Stand p l e R s m args below meth c T locs cells slots) (hx : p.tables.exec = Jvm.exec) {x z : Int64} {y : Int32} (hd : decode c.code pc = .ok (.lshl, 1)) (hp : pc + 1 = pc') (hz : x <<< (y &&& 0x3f).toInt64 = z) (H : Go p e below s k n Q T (mkF m pc' Ls (.long z :: st))) : Go p e below s k n Q T (mkF m pc Ls (.int y :: .long x :: st)) := by
  subst hp hz
  exact H.via fun t q => XS.lshl X.here hx rfl hd rfl q
theorem g_lshr (pc' : Nat) (X : Stand p l e R s m args below meth c T locs cells slots) (hx : p.tables.exec = Jvm.exec) {x z : Int64} {y : Int32} (hd : decode c.code pc = .ok (.lshr, 1)) (hp : pc + 1 = pc') (hz : x >>> (y &&& 0x3f).toInt64 = z) (H : Go p e below s k n Q T (mkF m pc' Ls (.long z :: st))) : Go p e below s k n Q T (mkF m pc Ls (.int y :: .long x :: st)) := by
  subst hp hz
  exact H.via fun t q => XS.lshr X.here hx rfl hd rfl q
theorem g_lushr (pc' : Nat) (X : Stand p l e R s m args below meth c T locs cells slots) (hx : p.tables.exec = Jvm.exec) {x z : Int64} {y : Int32} (hd : decode c.code pc = .ok (.lushr, 1)) (hp : pc + 1 = pc') (hz : (x.toUInt64 >>> (y &&& 0x3f).toInt64.toUInt64).toInt64 = z) (H : Go p e below s k n Q T (mkF m pc' Ls (.long z :: st))) : Go p e below s k n Q T (mkF m pc Ls (.int y :: .long x :: st)) := by
  subst hp hz
  exact H.via fun t q => XS.lushr X.here hx rfl hd rfl q
theorem g_idiv (pc' : Nat) (X : Stand p l e R s m args below meth c T locs cells slots) (hx : p.tables.exec = Jvm.exec) {x y z : Int32} (hd : decode c.code pc = .ok (.idiv, 1)) (hp : pc + 1 = pc') (hy : y ≠ 0) (hz : x / y = z) (H : Go p e below s k n Q T (mkF m pc' Ls (.int z :: st))) : Go p e below s k n Q T (mkF m pc Ls (.int y :: .int x :: st)) := by
  subst hp hz
  exact H.via fun t q => XS.idiv X.here hx rfl hd rfl hy q
theorem g_irem (pc' : Nat) (X : Stand p l e R s m args below meth c T locs cells slots) (hx : p.tables.exec = Jvm.exec) {x y z : Int32} (hd : decode c.code pc = .ok (.irem, 1)) (hp : pc + 1 = pc') (hy : y ≠ 0) (hz : x % y = z) (H : Go p e below s k n Q T (mkF m pc' Ls (.int z :: st))) : Go p e below s k n Q T (mkF m pc Ls (.int y :: .int x :: st)) := by
  subst hp hz
  exact H.via fun t q => iremM X hx rfl hd rfl hy q
theorem g_ldiv (pc' : Nat) (X : Stand p l e R s m args below meth c T locs cells slots) (hx : p.tables.exec = Jvm.exec) {x y z : Int64} (hd : decode c.code pc = .ok (.ldiv, 1)) (hp : pc + 1 = pc') (hy : y ≠ 0) (hz : x / y = z) (H : Go p e below s k n Q T (mkF m pc' Ls (.long z :: st))) : Go p e below s k n Q T (mkF m pc Ls (.long y :: .long x :: st)) := by
  subst hp hz
  exact H.via fun t q => XS.ldiv X.here hx rfl hd rfl hy q
theorem g_lrem (pc' : Nat) (X : Stand p l e R s m args below meth c T locs cells slots) (hx : p.tables.exec = Jvm.exec) {x y z : Int64} (hd : decode c.code pc = .ok (.lrem, 1)) (hp : pc + 1 = pc') (hy : y ≠ 0) (hz : x % y = z) (H : Go p e below s k n Q T (mkF m pc' Ls (.long z :: st))) : Go p e below s k n Q T (mkF m pc Ls (.long y :: .long x :: st)) := by
  subst hp hz
  exact H.via fun t q => XS.lrem X.here hx rfl hd rfl hy (by rw [lrem_mod]; exact q)
theorem g_ineg (pc' : Nat) (X : Stand p l e R s m args below meth c T locs cells slots) (hx : p.tables.exec = Jvm.exec) {x : Int32} {z : Int32} (hd : decode c.code pc = .ok (.ineg, 1)) (hp : pc + 1 = pc') (hz : -x = z) (H : Go p e below s k n Q T (mkF m pc' Ls (.int z :: st))) : Go p e below s k n Q T (mkF m pc Ls (.int x :: st)) := by
  subst hp hz
  exact H.via fun t q => XS.ineg X.here hx rfl hd rfl q
theorem g_lneg (pc' : Nat) (X : Stand p l e R s m args below meth c T locs cells slots) (hx : p.tables.exec = Jvm.exec) {x : Int64} {z : Int64} (hd : decode c.code pc = .ok (.lneg, 1)) (hp : pc + 1 = pc') (hz : -x = z) (H : Go p e below s k n Q T (mkF m pc' Ls (.long z :: st))) : Go p e below s k n Q T (mkF m pc Ls (.long x :: st)) := by
  subst hp hz
  exact H.via fun t q => XS.lneg X.here hx rfl hd rfl q
theorem g_i2l (pc' : Nat) (X : Stand p l e R s m args below meth c T locs cells slots) (hx : p.tables.exec = Jvm.exec) {x : Int32} {z : Int64} (hd : decode c.code pc = .ok (.i2l, 1)) (hp : pc + 1 = pc') (hz : x.toInt64 = z) (H : Go p e below s k n Q T (mkF m pc' Ls (.long z :: st))) : Go p e below s k n Q T (mkF m pc Ls (.int x :: st)) := by
  subst hp hz
  exact H.via fun t q => XS.i2l X.here hx rfl hd rfl q
theorem g_l2i (pc' : Nat) (X : Stand p l e R s m args below meth c T locs cells slots) (hx : p.tables.exec = Jvm.exec) {x : Int64} {z : Int32} (hd : decode c.code pc = .ok (.l2i, 1)) (hp : pc + 1 = pc') (hz : x.toInt32 = z) (H : Go p e below s k n Q T (mkF m pc' Ls (.int z :: st))) : Go p e below s k n Q T (mkF m pc Ls (.long x :: st)) := by
  subst hp hz
  exact H.via fun t q => XS.l2i X.here hx rfl hd rfl q
theorem g_i2b (pc' : Nat) (X : Stand p l e R s m args below meth c T locs cells slots) (hx : p.tables.exec = Jvm.exec) {x : Int32} {z : Int32} (hd : decode c.code pc = .ok (.i2b, 1)) (hp : pc + 1 = pc') (hz : x.toInt8.toInt32 = z) (H : Go p e below s k n Q T (mkF m pc' Ls (.int z :: st))) : Go p e below s k n Q T (mkF m pc Ls (.int x :: st)) := by
  subst hp hz
  exact H.via fun t q => XS.i2b X.here hx rfl hd rfl q
theorem g_i2s (pc' : Nat) (X : Stand p l e R s m args below meth c T locs cells slots) (hx : p.tables.exec = Jvm.exec) {x : Int32} {z : Int32} (hd : decode c.code pc = .ok (.i2s, 1)) (hp : pc + 1 = pc') (hz : x.toInt16.toInt32 = z) (H : Go p e below s k n Q T (mkF m pc' Ls (.int z :: st))) : Go p e below s k n Q T (mkF m pc Ls (.int x :: st)) := by
  subst hp hz
  exact H.via fun t q => XS.i2s X.here hx rfl hd rfl q
theorem g_i2c (pc' : Nat) (X : Stand p l e R s m args below meth c T locs cells slots) (hx : p.tables.exec = Jvm.exec) {x : Int32} {z : Int32} (hd : decode c.code pc = .ok (.i2c, 1)) (hp : pc + 1 = pc') (hz : x.toUInt32.toUInt16.toUInt32.toInt32 = z) (H : Go p e below s k n Q T (mkF m pc' Ls (.int z :: st))) : Go p e below s k n Q T (mkF m pc Ls (.int x :: st)) := by
  subst hp hz
  exact H.via fun t q => XS.i2c X.here hx rfl hd rfl q
theorem g_dup (pc' : Nat) (X : Stand p l e R s m args below meth c T locs cells slots) (hx : p.tables.exec = Jvm.exec) {v : Value} (hd : decode c.code pc = .ok (.dup, 1)) (hp : pc + 1 = pc') (hv : v.category = 1) (H : Go p e below s k n Q T (mkF m pc' Ls (v :: v :: st))) : Go p e below s k n Q T (mkF m pc Ls (v :: st)) := by
  subst hp
  exact H.via fun t q => XS.dup X.here hx rfl hd rfl hv q
theorem g_pop (pc' : Nat) (X : Stand p l e R s m args below meth c T locs cells slots) (hx : p.tables.exec = Jvm.exec) {v : Value} (hd : decode c.code pc = .ok (.pop, 1)) (hp : pc + 1 = pc') (hv : v.category = 1) (H : Go p e below s k n Q T (mkF m pc' Ls st)) : Go p e below s k n Q T (mkF m pc Ls (v :: st)) := by
  subst hp
  exact H.via fun t q => XS.pop X.here hx rfl hd rfl hv q
theorem g_dup_x1 (pc' : Nat) (X : Stand p l e R s m args below meth c T locs cells slots) (hx : p.tables.exec = Jvm.exec) {v w : Value} (hd : decode c.code pc = .ok (.dup_x1, 1)) (hp : pc + 1 = pc') (hv : v.category = 1) (hw : w.category = 1) (H : Go p e below s k n Q T (mkF m pc' Ls (v :: w :: v :: st))) : Go p e below s k n Q T (mkF m pc Ls (v :: w :: st)) := by
  subst hp
  exact H.via fun t q => XS.dupX1 X.here hx rfl hd rfl hv hw q
theorem g_dup2 (pc' : Nat) (X : Stand p l e R s m args below meth c T locs cells slots) (hx : p.tables.exec = Jvm.exec) {v w : Value} (hd : decode c.code pc = .ok (.dup2, 1)) (hp : pc + 1 = pc') (hv : v.category = 1) (hw : w.category = 1) (H : Go p e below s k n Q T (mkF m pc' Ls (v :: w :: v :: w :: st))) : Go p e below s k n Q T (mkF m pc Ls (v :: w :: st)) := by
  subst hp
  exact H.via fun t q => XT.dup2 X.here hx rfl hd rfl hv hw q
theorem g_iinc (pc' : Nat) (X : Stand p l e R s m args below meth c T locs cells slots) (hx : p.tables.exec = Jvm.exec) {i : Nat} {cst : Int} {x z : Int32} {Ls' : Array Slot} (hd : decode c.code pc = .ok (.iinc i cst, 3)) (hp : pc + 3 = pc') (hl : Ls[i]? = some (.val (.int x))) (hz : x + Int32.ofInt cst = z) (hl' : storeLocals Ls i (.int z) = some Ls') (H : Go p e below s k n Q T (mkF m pc' Ls' st)) : Go p e below s k n Q T (mkF m pc Ls st) := by
  subst hp hz
  exact H.via fun t q => XS.iinc X.here hx rfl hd hl hl' q
theorem g_goto (pc' : Nat) (X : Stand p l e R s m args below meth c T locs cells slots) (hx : p.tables.exec = Jvm.exec) {o : Int} (hd : decode c.code pc = .ok (.goto o, 3)) (ho : 0 ≤ (pc : Int) + o) (hp : ((pc : Int) + o).toNat = pc') (H : Go p e below s k n Q T (mkF m pc' Ls st)) : Go p e below s k n Q T (mkF m pc Ls st) :=
  H.via fun t q => XS.goto X.here hx rfl rfl hd ho hp q
theorem g_ifYes (pc' : Nat) (X : Stand p l e R s m args below meth c T locs cells slots) (hx : p.tables.exec = Jvm.exec) {cd : ClassFile.Cond} {x : Int32} {o : Int} (hd : decode c.code pc = .ok (.ifCond cd o, 3)) (hc : ifCond.holds cd x = true) (ho : 0 ≤ (pc : Int) + o) (hp : ((pc : Int) + o).toNat = pc') (H : Go p e below s k n Q T (mkF m pc' Ls st)) : Go p e below s k n Q T (mkF m pc Ls (.int x :: st)) :=
  H.via fun t q => XS.ifYes X.here hx rfl rfl hd rfl hc ho hp q
theorem g_ifNo (pc' : Nat) (X : Stand p l e R s m args below meth c T locs cells slots) (hx : p.tables.exec = Jvm.exec) {cd : ClassFile.Cond} {x : Int32} {o : Int} (hd : decode c.code pc = .ok (.ifCond cd o, 3)) (hc : ifCond.holds cd x = false) (hp : pc + 3 = pc') (H : Go p e below s k n Q T (mkF m pc' Ls st)) : Go p e below s k n Q T (mkF m pc Ls (.int x :: st)) := by
  subst hp
  exact H.via fun t q => XS.ifNo X.here hx rfl hd rfl hc q
theorem g_icmpYes (pc' : Nat) (X : Stand p l e R s m args below meth c T locs cells slots) (hx : p.tables.exec = Jvm.exec) {cd : ClassFile.Cond} {x y : Int32} {o : Int} (hd : decode c.code pc = .ok (.if_icmp cd o, 3)) (hc : if_icmp.holds cd x y = true) (ho : 0 ≤ (pc : Int) + o) (hp : ((pc : Int) + o).toNat = pc') (H : Go p e below s k n Q T (mkF m pc' Ls st)) : Go p e below s k n Q T (mkF m pc Ls (.int y :: .int x :: st)) :=
  H.via fun t q => XS.icmpYes X.here hx rfl rfl hd rfl hc ho hp q
theorem g_icmpNo (pc' : Nat) (X : Stand p l e R s m args below meth c T locs cells slots) (hx : p.tables.exec = Jvm.exec) {cd : ClassFile.Cond} {x y : Int32} {o : Int} (hd : decode c.code pc = .ok (.if_icmp cd o, 3)) (hc : if_icmp.holds cd x y = false) (hp : pc + 3 = pc') (H : Go p e below s k n Q T (mkF m pc' Ls st)) : Go p e below s k n Q T (mkF m pc Ls (.int y :: .int x :: st)) := by
  subst hp
  exact H.via fun t q => XS.icmpNo X.here hx rfl hd rfl hc q
theorem g_lcmpYes (pc' : Nat) (X : Stand p l e R s m args below meth c T locs cells slots) (hx : p.tables.exec = Jvm.exec) {cd : ClassFile.Cond} {x y : Int64} {o : Int} {pc1 : Nat} (hd : decode c.code pc = .ok (.lcmp, 1)) (hp1 : pc + 1 = pc1) (hd' : decode c.code pc1 = .ok (.ifCond cd o, 3)) (hc : ifCond.holds cd (lcmpW x y) = true) (ho : 0 ≤ (pc1 : Int) + o) (hp : ((pc1 : Int) + o).toNat = pc') (H : Go p e below s k n Q T (mkF m pc' Ls st)) : Go p e below s k n Q T (mkF m pc Ls (.long y :: .long x :: st)) := by
  subst hp1
  exact H.via fun t q => XS.lcmp X.here hx rfl hd rfl (XS.ifYes X.here hx rfl rfl hd' rfl hc ho hp q)
theorem g_lcmpNo (pc' : Nat) (X : Stand p l e R s m args below meth c T locs cells slots) (hx : p.tables.exec = Jvm.exec) {cd : ClassFile.Cond} {x y : Int64} {o : Int} {pc1 : Nat} (hd : decode c.code pc = .ok (.lcmp, 1)) (hp1 : pc + 1 = pc1) (hd' : decode c.code pc1 = .ok (.ifCond cd o, 3)) (hc : ifCond.holds cd (lcmpW x y) = false) (hp : pc1 + 3 = pc') (H : Go p e below s k n Q T (mkF m pc' Ls st)) : Go p e below s k n Q T (mkF m pc Ls (.long y :: .long x :: st)) := by
  subst hp1; subst hp
  exact H.via fun t q => XS.lcmp X.here hx rfl hd rfl (XS.ifNo X.here hx rfl hd' rfl hc q)
theorem g_ifnullYes (pc' : Nat) (X : Stand p l e R s m args below meth c T locs cells slots) (hx : p.tables.exec = Jvm.exec) {b : Addr} {o : Int} (hd : decode c.code pc = .ok (.ifnull o, 3)) (ho : 0 ≤ (pc : Int) + o) (hp : ((pc : Int) + o).toNat = pc') (H : Go p e below s k n Q T (mkF m pc' Ls st)) : Go p e below s k n Q T (mkF m pc Ls (.null :: st)) :=
  H.via fun t q => XS.ifnullYes X.here hx rfl rfl hd rfl ho hp q
theorem g_ifnullNo (pc' : Nat) (X : Stand p l e R s m args below meth c T locs cells slots) (hx : p.tables.exec = Jvm.exec) {b : Addr} {o : Int} (hd : decode c.code pc = .ok (.ifnull o, 3)) (hp : pc + 3 = pc') (H : Go p e below s k n Q T (mkF m pc' Ls st)) : Go p e below s k n Q T (mkF m pc Ls (.ref b :: st)) := by
  subst hp
  exact H.via fun t q => XS.ifnullNo X.here hx rfl hd rfl q
theorem g_ifnonnullYes (pc' : Nat) (X : Stand p l e R s m args below meth c T locs cells slots) (hx : p.tables.exec = Jvm.exec) {b : Addr} {o : Int} (hd : decode c.code pc = .ok (.ifnonnull o, 3)) (ho : 0 ≤ (pc : Int) + o) (hp : ((pc : Int) + o).toNat = pc') (H : Go p e below s k n Q T (mkF m pc' Ls st)) : Go p e below s k n Q T (mkF m pc Ls (.ref b :: st)) :=
  H.via fun t q => XS.ifnonnullYes X.here hx rfl rfl hd rfl ho hp q
theorem g_ifnonnullNo (pc' : Nat) (X : Stand p l e R s m args below meth c T locs cells slots) (hx : p.tables.exec = Jvm.exec) {b : Addr} {o : Int} (hd : decode c.code pc = .ok (.ifnonnull o, 3)) (hp : pc + 3 = pc') (H : Go p e below s k n Q T (mkF m pc' Ls st)) : Go p e below s k n Q T (mkF m pc Ls (.null :: st)) := by
  subst hp
  exact H.via fun t q => XS.ifnonnullNo X.here hx rfl hd rfl q
theorem g_ldc (pc' : Nat) (X : Stand p l e R s m args below meth c T locs cells slots) (hx : p.tables.exec = Jvm.exec) (hZ : Z.Warmed39 s.vm) {own : String} {index : Nat} {z : Int32} (hown : s.vm.findClass own = some m.cls) (w : (Cond.constant own index z).before a0 Z = true) (hd : decode c.code pc = .ok (.ldc index, 2)) (hp : pc + 2 = pc') (H : Go p e below s k n Q T (mkF m pc' Ls (.int z :: st))) : Go p e below s k n Q T (mkF m pc Ls st) := by
  subst hp
  exact H.via fun t q => X.ldcInt hx hown (mvT hZ w) (g := mkF m pc Ls st) rfl hd t q
theorem g_ldc2 (pc' : Nat) (X : Stand p l e R s m args below meth c T locs cells slots) (hx : p.tables.exec = Jvm.exec) (hZ : Z.Warmed39 s.vm) {own : String} {index : Nat} {z : Int64} (hown : s.vm.findClass own = some m.cls) (w : (Cond.constantLong own index z).before a0 Z = true) (hd : decode c.code pc = .ok (.ldc2_w index, 3)) (hp : pc + 3 = pc') (H : Go p e below s k n Q T (mkF m pc' Ls (.long z :: st))) : Go p e below s k n Q T (mkF m pc Ls st) := by
  subst hp
  exact H.via fun t q => X.ldc2Long hx hown (mvT hZ w) (g := mkF m pc Ls st) rfl hd t q
theorem g_retI (X : Stand p l e R s m args below meth c T locs cells slots) (hx : p.tables.exec = Jvm.exec) (hret : meth.sig.returnType = some .int) (hlk : meth.locks = false) {z : Int32} (hd : decode c.code pc = .ok (.ireturn, 1)) (hk : cells ≤ k) (hn : slots ≤ n) (hQ : Q (some (.int z)) T.heap locs) : Go p e below s k n Q T (mkF m pc Ls (.int z :: st)) := by
  obtain ⟨fs, hr, hrun, hended, hW, hsame⟩ := X.leave (v := some (.int z)) (fun q => by rw [hret] at q; cases q) hlk
  exact ⟨_, _, retOut X hx hret rfl (Or.inl ⟨rfl, Or.inl rfl, z, rfl⟩) hd hr, hrun, hended, _, _, rfl, hQ, ⟨_, rfl⟩, hW, hsame.mono hk hn⟩
theorem g_retJ (X : Stand p l e R s m args below meth c T locs cells slots) (hx : p.tables.exec = Jvm.exec) (hret : meth.sig.returnType = some .long) (hlk : meth.locks = false) {z : Int64} (hd : decode c.code pc = .ok (.lreturn, 1)) (hk : cells ≤ k) (hn : slots ≤ n) (hQ : Q (some (.long z)) T.heap locs) : Go p e below s k n Q T (mkF m pc Ls (.long z :: st)) := by
  obtain ⟨fs, hr, hrun, hended, hW, hsame⟩ := X.leave (v := some (.long z)) (fun q => by rw [hret] at q; cases q) hlk
  exact ⟨_, _, retOut X hx hret rfl (Or.inr (Or.inl ⟨rfl, rfl, z, rfl⟩)) hd hr, hrun, hended, _, _, rfl, hQ, ⟨_, rfl⟩, hW, hsame.mono hk hn⟩
theorem g_retA {ty : FieldType} (X : Stand p l e R s m args below meth c T locs cells slots) (hx : p.tables.exec = Jvm.exec) (hret : meth.sig.returnType = some ty) (hlk : meth.locks = false) {v : Value} (hty : ty.isReference = true) (hv : v.isRef = true) (hnv : narrow ty v = v) (hd : decode c.code pc = .ok (.areturn, 1)) (hk : cells ≤ k) (hn : slots ≤ n) (hQ : Q (some v) T.heap locs) : Go p e below s k n Q T (mkF m pc Ls (v :: st)) := by
  obtain ⟨fs, hr, hrun, hended, hW, hsame⟩ := X.leave (v := some v) (fun q => by rw [hret] at q; cases q) hlk
  exact ⟨_, _, retOut X hx hret hnv (Or.inr (Or.inr (Or.inr (Or.inr ⟨rfl, hty, hv⟩)))) hd hr, hrun, hended, _, _, rfl, hQ, ⟨_, rfl⟩, hW, hsame.mono hk hn⟩
theorem g_ret0 (X : Stand p l e R s m args below meth c T locs cells slots) (hx : p.tables.exec = Jvm.exec) (hret : meth.sig.returnType = none) (hlk : meth.locks = false) (hd : decode c.code pc = .ok (.return_, 1)) (hk : cells ≤ k) (hn : slots ≤ n) (hQ : Q (none) T.heap locs) : Go p e below s k n Q T (mkF m pc Ls []) := by
  obtain ⟨fs, hr, hrun, hended, hW, hsame⟩ := X.leave (v := none) (fun _ => rfl) hlk
  exact ⟨_, _, X.returnOut hx hret hd hr, hrun, hended, _, _, rfl, hQ, ⟨_, rfl⟩, hW, hsame.mono hk hn⟩
theorem g_retN (X : Stand p l e R s m args below meth c T locs cells slots) (hx : p.tables.exec = Jvm.exec) {t : FieldType} (hret : meth.sig.returnType = some t) (hlk : meth.locks = false) {z z' : Int32} (ht : t = .boolean ∨ t = .byte ∨ t = .char ∨ t = .short) (hz : nar t z = z') (hd : decode c.code pc = .ok (.ireturn, 1)) (hk : cells ≤ k) (hn : slots ≤ n) (hQ : Q (some (.int z')) T.heap locs) : Go p e below s k n Q T (mkF m pc Ls (.int z :: st)) := by
  subst hz
  obtain ⟨fs, hr, hrun, hended, hW, hsame⟩ := X.leave (v := some (.int (nar t z))) (fun q => by rw [hret] at q; cases q) hlk
  exact ⟨_, _, retN X hx hret ht hd hr, hrun, hended, _, _, rfl, hQ, ⟨_, rfl⟩, hW, hsame.mono hk hn⟩
theorem g_getF (pc' : Nat) (X : Stand p l e R s m args below meth c T locs cells slots) (hx : p.tables.exec = Jvm.exec) (hZ : Z.Warmed39 s.vm) {own R0 O nm d : String} {index : Nat} (hown : s.vm.findClass own = some m.cls) (w : (Cond.fieldLink own index R0 nm d).before a0 Z = true) (via : Via Z R0 O nm d) (eT : T.heap = h) {a : Addr} {v : Value} (F : Fld Z h a O nm d v) (hd : decode c.code pc = .ok (.getfield index, 3)) (hp : pc + 3 = pc') (H : ∀ T', Stand p l e R s m args below meth c T' locs cells slots → T'.heap = h → Go p e below s k n Q T' (mkF m pc' Ls (v :: st))) : Go p e below s k n Q T (mkF m pc Ls (.ref a :: st)) := by
  subst hp
  obtain ⟨T', X', e', q⟩ := getF X hx hZ hown (host := "") (Or.inl w) via eT F (g := mkF m pc Ls (.ref a :: st)) rfl rfl hd
  exact (H T' X' e').via q
theorem g_putF (pc' : Nat) (X : Stand p l e R s m args below meth c T locs cells slots) (hx : p.tables.exec = Jvm.exec) (hZ : Z.Warmed39 s.vm) {own R0 O nm d C : String} {index kk : Nat} {ty : FieldType} (hown : s.vm.findClass own = some m.cls) (w : (Cond.fieldLink own index R0 nm d).before a0 Z = true) (via : Via Z R0 O nm d) (eT : T.heap = h) {a : Addr} {v old : Value} (F : Fld Z h a O nm d old) (E : Exa Z h a C) (L : (Cond.lays C O nm d).before a0 Z = true ∨ ((Cond.laysFinal C O nm d).before a0 Z = true ∧ own = O ∧ meth.name = "<init>")) (wi : (Cond.instantiable C kk).before a0 Z = true) (hty : parseFieldDescriptor d = some ty) (hn : narrow ty v = v) (hf : fits ty v = true) (hd : decode c.code pc = .ok (.putfield index, 3)) (hp : pc + 3 = pc') (H : ∀ T' h', Stand p l e R s m args below meth c T' (locs ++ [⟨a, Jvm.RoadKit.slotOf Z O nm d⟩]) cells slots → T'.heap = h' → Wr h h' a (Jvm.RoadKit.slotOf Z O nm d) v → Go p e below s k n Q T' (mkF m pc' Ls st)) : Go p e below s k n Q T (mkF m pc Ls (v :: .ref a :: st)) := by
  subst hp
  obtain ⟨T', h', X', e', W, q⟩ := putF X hx hZ hown (host := "") (Or.inl w) via eT F E L wi hty hn hf (g := mkF m pc Ls (v :: .ref a :: st)) rfl rfl hd
  exact (H T' h' X' e' W).via q
theorem g_newO (pc' : Nat) (X : Stand p l e R s m args below meth c T locs cells slots) (hx : p.tables.exec = Jvm.exec) (hZ : Z.Warmed39 s.vm) {own C : String} {index nn : Nat} (hown : s.vm.findClass own = some m.cls) (w : (Cond.classLink own index C).before a0 Z = true) (wi : (Cond.instantiable C nn).before a0 Z = true) (wz : (Cond.initialized C).before a0 Z = true) (eT : T.heap = h) (hd : decode c.code pc = .ok (.new index, 3)) (hc : cells + 1 ≤ R.cells) (hl : slots + nn ≤ R.slots) (hp : pc + 3 = pc') (H : ∀ T' h' b, Stand p l e R s m args below meth c T' locs (cells + 1) (slots + nn) → T'.heap = h' → Ext h h' → b = h.size → Exa Z h' b C → (∀ {O nm d : String} {ty : FieldType}, Laid Z a0 C O nm d → parseFieldDescriptor d = some ty → Fld Z h' b O nm d (defaultValue ty)) → Go p e below s k n Q T' (mkF m pc' Ls (.ref b :: st))) : Go p e below s k n Q T (mkF m pc Ls st) := by
  subst hp
  obtain ⟨T', h', X', e', E, A, D, -, q⟩ := newO X hx hZ hown w wi wz eT (g := mkF m pc Ls st) rfl hd hc hl
  exact (H T' h' _ X' e' E rfl A D).via q
theorem g_initO (pc' : Nat) (X : Stand p l e R s m args below meth c T locs cells slots) (hx : p.tables.exec = Jvm.exec) (hZ : Z.Warmed39 s.vm) {own : String} {idx : Nat} (hown : s.vm.findClass own = some m.cls) (w1 : (Cond.methodLink own idx Lib.objectInit).before a0 Z = true) (w2 : (Cond.instanceMethod Lib.objectInit).before a0 Z = true) (w3 : (Cond.code Lib.objectInit ⟨#[0xb1]⟩ 1 none).before a0 Z = true) (eT : T.heap = h) (hsize : Ls.size = c.maxLocals) {a : Addr} (hd : decode c.code pc = .ok (.invokespecial idx, 3)) (hf : 1 ≤ R.frames) (W : Nat) (hW : (st.map fun v => v.category).sum ≤ W) (hl : W + 12 ≤ R.locals) (hp : pc + 3 = pc') (H : ∀ T', Stand p l e R s m args below meth c T' locs cells slots → T'.heap = h → Go p e below s k n Q T' (mkF m pc' Ls st)) : Go p e below s k n Q T (mkF m pc Ls (.ref a :: st)) := by
  subst hp
  obtain ⟨T', X', e', q⟩ := initO X hx hZ hown w1 w2 w3 eT (g := mkF m pc Ls (.ref a :: st)) rfl hsize rfl hd hf (W := W) (by show 2 * 0 + _ ≤ _; omega) hl
  exact (H T' X' e').via q
theorem g_callS (pc' : Nat) (X : Stand p l e R s m args below meth c T locs cells slots) (hx : p.tables.exec = Jvm.exec) (hZ : Z.Warmed39 s.vm) {own : String} {index : Nat} {y : MethodName} {bytes : ByteArray} {maxL : Nat} {ret : Option FieldType} {rm : Room} {as' : Array Value} {Qc : Option Value → Heap → List Loc → Prop} (hown : s.vm.findClass own = some m.cls) (w1 : (Cond.methodLink own index y).before a0 Z = true) (w2 : (Cond.static y).before a0 Z = true) (w3 : (Cond.initialized y.cls).before a0 Z = true) (w4 : (Cond.code y bytes maxL ret).before a0 Z = true) (hy : y.cls ≠ "java/lang/invoke/MethodHandle" ∧ y.cls ≠ "java/lang/invoke/VarHandle") (eT : T.heap = h) (hM : MetFree l y (head1 [Cond.code y bytes maxL ret] rm) (fun a U => a = as' ∧ Z.Warmed39 U.vm ∧ U.heap = h) (fun _ _ _ _ _ => True) (fun _ U o U' => ∃ v L, o = .returned v ∧ Qc v U'.heap L ∧ FrameEnd U o U' L rm.cells rm.slots)) (hsize : Ls.size = c.maxLocals) (argsL rest : List Value) (ha : argsL.toArray = as') (hst : st = argsL.reverse ++ rest) (hlen : ∀ sig, parseMethodDescriptor y.desc = some sig → argsL.length = sig.parameters.length) (W : Nat) (hW : (rest.map fun v => v.category).sum ≤ W) (hd : decode c.code pc = .ok (.invokestatic index, 3)) (hfr : rm.frames + 1 ≤ R.frames) (hlo : W + (maxL + 11) + rm.locals ≤ R.locals) (hce : cells + rm.cells ≤ R.cells) (hsl : slots + rm.slots ≤ R.slots) (hp : pc + 3 = pc') (H : ∀ v T' L, Stand p l e R s m args below meth c T' (locs ++ L) (cells + rm.cells) (slots + rm.slots) → Qc v T'.heap L → Go p e below s k n Q T' (mkF m pc' Ls (v.toList ++ rest))) : Go p e below s k n Q T (mkF m pc Ls st) := by
  subst hp hst
  obtain ⟨v, _, ⟨T', L, k', n'⟩, -, X', ⟨Lc, hQ, l1, l2, l3⟩, q⟩ := Jvm.LawKit.callS X hx (y := y) hown (mvT hZ w1) (mvT hZ w2) (mvT hZ w3) (mvT hZ w4) hy (backOf (W := W) hM hZ w4 w3 hfr hlo) (g := mkF m pc Ls (argsL.reverse ++ rest)) rfl hsize (argsL := argsL) (rest := rest) hlen rfl (by show 2 * 0 + _ ≤ _; omega) hd (fun _ _ => ⟨ha, eT, hce, hsl⟩)
  dsimp only [Pt.U, Pt.locs, Pt.cells, Pt.slots] at X' l1 l2 l3 q hQ
  subst l1 l2 l3
  exact (H v T' Lc X' hQ).via q
theorem g_callI (pc' : Nat) (X : Stand p l e R s m args below meth c T locs cells slots) (hx : p.tables.exec = Jvm.exec) (hZ : Z.Warmed39 s.vm) {own : String} {index : Nat} {y : MethodName} {bytes : ByteArray} {maxL : Nat} {rm : Room} {as' : Array Value} {Qc : Option Value → Heap → List Loc → Prop} (hy1 : y.name = "<init>") (hown : s.vm.findClass own = some m.cls) (w1 : (Cond.methodLink own index y).before a0 Z = true) (w2 : (Cond.instanceMethod y).before a0 Z = true) (w3 : (Cond.initialized y.cls).before a0 Z = true) (w4 : (Cond.code y bytes maxL none).before a0 Z = true) (hy : y.cls ≠ "java/lang/invoke/MethodHandle" ∧ y.cls ≠ "java/lang/invoke/VarHandle") (eT : T.heap = h) (hM : MetFree l y (head1 [Cond.code y bytes maxL none] rm) (fun a U => a = as' ∧ Z.Warmed39 U.vm ∧ U.heap = h) (fun _ _ _ _ _ => True) (fun _ U o U' => ∃ v L, o = .returned v ∧ Qc v U'.heap L ∧ FrameEnd U o U' L rm.cells rm.slots)) (hsize : Ls.size = c.maxLocals) (a : Addr) (argsL rest : List Value) (ha : (.ref a :: argsL).toArray = as') (hst : st = argsL.reverse ++ .ref a :: rest) (hlen : ∀ sig, parseMethodDescriptor y.desc = some sig → argsL.length = sig.parameters.length) (W : Nat) (hW : (rest.map fun v => v.category).sum ≤ W) (hd : decode c.code pc = .ok (.invokespecial index, 3)) (hfr : rm.frames + 1 ≤ R.frames) (hlo : W + (maxL + 11) + rm.locals ≤ R.locals) (hce : cells + rm.cells ≤ R.cells) (hsl : slots + rm.slots ≤ R.slots) (hp : pc + 3 = pc') (H : ∀ v T' L, Stand p l e R s m args below meth c T' (locs ++ L) (cells + rm.cells) (slots + rm.slots) → Qc v T'.heap L → Go p e below s k n Q T' (mkF m pc' Ls (v.toList ++ rest))) : Go p e below s k n Q T (mkF m pc Ls st) := by
  subst hp hst
  obtain ⟨v, _, ⟨T', L, k', n'⟩, -, X', ⟨Lc, hQ, l1, l2, l3⟩, q⟩ := X.specialBack hx (y := y) hy1 hown (mvT hZ w1) (mvT hZ w2) (mvT hZ w4) hy (backOf (W := W) hM hZ w4 w3 hfr hlo) (g := mkF m pc Ls (argsL.reverse ++ .ref a :: rest)) rfl hsize (Steps.refl _) (a := a) (argsL := argsL) (rest := rest) hlen rfl (by show 2 * 0 + _ ≤ _; omega) hd (fun _ _ => ⟨ha, eT, hce, hsl⟩)
  dsimp only [Pt.U, Pt.locs, Pt.cells, Pt.slots] at X' l1 l2 l3 q hQ
  subst l1 l2 l3
  exact (H v T' Lc X' hQ).via fun t r => q.trans r
theorem g_callV (pc' : Nat) (X : Stand p l e R s m args below meth c T locs cells slots) (hx : p.tables.exec = Jvm.exec) (hZ : Z.Warmed39 s.vm) {own : String} {index : Nat} {y : MethodName} {bytes : ByteArray} {maxL : Nat} {ret : Option FieldType} {rm : Room} {as' : Array Value} {Qc : Option Value → Heap → List Loc → Prop} (hown : s.vm.findClass own = some m.cls) (w1 : (Cond.methodLink own index y).before a0 Z = true) (w2 : (Cond.declares y).before a0 Z = true) (w5 : (Cond.selects y.cls y y).before a0 Z = true) (w6 : (Cond.instanceMethod y).before a0 Z = true) (w3 : (Cond.initialized y.cls).before a0 Z = true) (w4 : (Cond.code y bytes maxL ret).before a0 Z = true) (hy : y.cls ≠ "java/lang/invoke/MethodHandle" ∧ y.cls ≠ "java/lang/invoke/VarHandle") (eT : T.heap = h) {a : Addr} (E : Exa Z h a y.cls) (hM : MetFree l y (head1 [Cond.code y bytes maxL ret] rm) (fun a U => a = as' ∧ Z.Warmed39 U.vm ∧ U.heap = h) (fun _ _ _ _ _ => True) (fun _ U o U' => ∃ v L, o = .returned v ∧ Qc v U'.heap L ∧ FrameEnd U o U' L rm.cells rm.slots)) (hsize : Ls.size = c.maxLocals) (argsL rest : List Value) (ha : (.ref a :: argsL).toArray = as') (hst : st = argsL.reverse ++ .ref a :: rest) (hlen : ∀ sig, parseMethodDescriptor y.desc = some sig → argsL.length = sig.parameters.length) (W : Nat) (hW : (rest.map fun v => v.category).sum ≤ W) (hd : decode c.code pc = .ok (.invokevirtual index, 3)) (hfr : rm.frames + 1 ≤ R.frames) (hlo : W + (maxL + 11) + rm.locals ≤ R.locals) (hce : cells + rm.cells ≤ R.cells) (hsl : slots + rm.slots ≤ R.slots) (hp : pc + 3 = pc') (H : ∀ v T' L, Stand p l e R s m args below meth c T' (locs ++ L) (cells + rm.cells) (slots + rm.slots) → Qc v T'.heap L → Go p e below s k n Q T' (mkF m pc' Ls (v.toList ++ rest))) : Go p e below s k n Q T (mkF m pc Ls st) := by
  subst hp hst
  obtain ⟨cq, kq, qa, qb, qc⟩ := isOf hZ eT E
  obtain ⟨v, _, ⟨T', L, k', n'⟩, -, X', ⟨Lc, hQ, l1, l2, l3⟩, q⟩ := X.virtualBack hx (y := y) (z := y) hown (mvT hZ w1) (mvT hZ w2) (notFace_of_selects (args := #[]) (mvT hZ w5)) (mvT hZ w5) (mvT hZ w6) hy (backOf (W := W) hM hZ w4 w3 hfr hlo) qa qc (g := mkF m pc Ls (argsL.reverse ++ .ref a :: rest)) rfl hsize (Steps.refl _) (argsL := argsL) (rest := rest) hlen rfl (by show 2 * 0 + _ ≤ _; omega) hd (fun _ _ => ⟨ha, eT, hce, hsl⟩)
  dsimp only [Pt.U, Pt.locs, Pt.cells, Pt.slots] at X' l1 l2 l3 q hQ
  subst l1 l2 l3
  exact (H v T' Lc X' hQ).via fun t r => q.trans r
end OwnKit
theorem own_lrem (x y : Int64) (d : Int) (hy : y.toInt = d) : (0 ≤ x.toInt → (x % y).toInt = x.toInt % d) ∧ (x.toInt < 0 → (x % y).toInt = -((-x.toInt) % d)) := by
  rw [Int64.toInt_mod, hy]; exact tr _ _
theorem own_lremV (x y : Int64) : 0 ≤ x.toInt → 0 < y.toInt → 0 ≤ (x % y).toInt ∧ (x % y).toInt < y.toInt ∧ (x % y).toInt ≤ x.toInt := by
  intro h1 h2
  rw [Int64.toInt_mod, Int.tmod_eq_emod_of_nonneg h1]
  have a := Int.emod_nonneg x.toInt (by omega : y.toInt ≠ 0)
  have b := Int.emod_lt_of_pos x.toInt h2
  refine ⟨a, b, ?_⟩
  by_cases c : x.toInt < y.toInt
  · rw [Int.emod_eq_of_lt h1 c]; exact Int.le_refl _
  · omega
theorem own_prod {a b A B : Int} (h1 : 0 ≤ a) (h2 : a ≤ A) (h3 : 0 ≤ b) (h4 : b ≤ B) : 0 ≤ a * b ∧ a * b ≤ A * B :=
  ⟨Int.mul_nonneg h1 h3, Int.mul_le_mul h2 h4 h3 (Int.le_trans h1 h2)⟩

theorem own_room (p2 z2 : Int32) (z3 z4 z5 : Int64) (hz2 : p2 &&& (2147483647 : Int32) = z2) (hz3 : z2.toInt64 = z3) (hz4 : (2147483647 : Int64) - z3 = z4) (hz5 : z4 + (1 : Int64) = z5) : 0 ≤ z2.toInt ∧ z5.toInt = 2147483648 - z2.toInt := by
  have m := c_mask p2 (2147483647 : Int32) 31 (by decide) (by decide)
  rw [hz2] at m
  have r2 := rng32 z2
  have c3 := c_i2l z2
  rw [hz3] at c3
  have c4 := c_lsub (2147483647 : Int64) z3
  rw [hz4] at c4
  have r4 := rng64 z4
  simp only [Int64.reduceToInt] at c4
  have b4 : z4.toInt = 2147483647 - z2.toInt := by omega
  have c5 := c_ladd z4 (1 : Int64)
  rw [hz5] at c5
  have r5 := rng64 z5
  simp only [Int64.reduceToInt] at c5
  clear c4
  omega
theorem own_x2 (z2 z12 : Int32) (z5 z6 z7 z8 z10 z11 : Int64) (h5 : 0 ≤ z2.toInt ∧ z5.toInt = 2147483648 - z2.toInt) (hz6 : z2.toInt64 = z6) (hz8 : z7 &&& (2147483647 : Int64) = z8) (hz10 : z8 % z5 = z10) (hz11 : z6 + z10 = z11) (hz12 : z11.toInt32 = z12) : 0 ≤ z2.toInt ∧ z2.toInt ≤ z12.toInt := by
  have m := c_maskL z7 (2147483647 : Int64) 31 (by decide) (by decide)
  rw [hz8] at m
  have r2 := rng32 z2
  have c6 := c_i2l z2
  rw [hz6] at c6
  have l := own_lremV z8 z5 (by omega) (by omega)
  rw [hz10] at l
  have c11 := c_ladd z6 z10
  rw [hz11] at c11
  have r11 := rng64 z11
  have b11 : z11.toInt = z6.toInt + z10.toInt := by omega
  have c12 := c_l2i z11
  rw [hz12] at c12
  have r12 := rng32 z12
  clear c11 m
  omega
theorem pn_0 : plainName "java/lang/Record" = true := by first | (simp [plainName, overriddenIn]; done) | decide +kernel
theorem d2_0 : decode jdk_30_method_1_code 0 = .ok (.aload_n 0, 1) := by decide +kernel
theorem d2_1 : decode jdk_30_method_1_code 1 = .ok (.invokespecial 1, 3) := by decide +kernel
theorem d2_4 : decode jdk_30_method_1_code 4 = .ok (.return_, 1) := by decide +kernel
def Q2 (Z : State) (a1 : Addr) (h0 : Heap) (n0 : Nat) (v : Option Value) (h : Heap) (L : List Loc) : Prop := v = none ∧ Fr n0 L ∧ h = h0
theorem ef_rm2 (m : MethodId) (a1 : Addr) : entryFrame m #[(.ref a1)] 1 = mkF m 0 #[.val (.ref a1)] [] := by first | (simp [entryFrame, mkF, argsToLocals, Value.category]; done) | rfl
set_option maxRecDepth 65536 in
set_option maxHeartbeats 40000000 in
theorem rm2 (l : Launch) (Z : State) (a0 : Array Value) (hw : ∀ d ∈ tables_1, d.before a0 Z = true) (ws : List Jvm.Cond) (a1 : Addr) (h0 : Heap) (n0 : Nat) (Z0 : n0 ≤ h0.size)  :
    MetFree l (⟨"java/lang/Record", "<init>", "()V"⟩ : MethodName) (head1 (Jvm.Cond.code (⟨"java/lang/Record", "<init>", "()V"⟩ : MethodName) jdk_30_method_1_code 1 none :: ws) ({ frames := 1, cells := 0, slots := 0, locals := 12 } : Room)) (fun a U => a = #[(.ref a1)] ∧ Z.Warmed39 U.vm ∧ U.heap = h0) (fun _ _ _ _ _ => True) (fun _ U o U' => ∃ v L, o = .returned v ∧ (Q2 Z a1 h0 n0) v U'.heap L ∧ FrameEnd U o U' L ({ frames := 1, cells := 0, slots := 0, locals := 12 } : Room).cells ({ frames := 1, cells := 0, slots := 0, locals := 12 } : Room).slots) := by
  refine MetFree.of_bodySF (plainFor_of_name pn_0) hisR ?_
  intro p e s m args below meth c s₁ Bd hml0 hP hK
  obtain ⟨rfl, hZ, hh⟩ := hP
  have hx := Bd.exec
  have hby := Bd.bytes
  have hml : c.maxLocals = 1 := hml0
  have hown : s.vm.findClass "java/lang/Record" = some m.cls := findClass_of_methodNamed Bd.named
  have hnm := (name_of_methodNamed Bd.named Bd.method).1
  have hlk : meth.locks = false := BodyLoose.notSynchronized Bd
  have X0 : Stand p l e ({ frames := 1, cells := 0, slots := 0, locals := 12 } : Room) s m #[(.ref a1)] below meth c s₁ [] 0 0 := Stand.of_body Bd
  have e0 : s₁.heap = h0 := by rw [← hh, Bd.state]; rfl
  have N0 := Fr.nil n0
  show Go p e below s ({ frames := 1, cells := 0, slots := 0, locals := 12 } : Room).cells ({ frames := 1, cells := 0, slots := 0, locals := 12 } : Room).slots (Q2 Z a1 h0 n0) s₁ (entryFrame m #[(.ref a1)] 1)
  rw [ef_rm2 m a1]
  refine g_aloadN 1 X0 hx (hb hby d2_0) rfl (v := (.ref a1)) rfl rfl ?_
  refine g_initO 4 X0 hx hZ hown (hw _ (List.mem_of_getElem? (i := 13) rfl)) (hw _ (List.mem_of_getElem? (i := 14) rfl)) (hw _ (List.mem_of_getElem? (i := 15) rfl)) e0 (by rw [hml]; rfl) (hb hby d2_1) (by decide) 0 (Nat.le_of_eq rfl) (by decide) rfl ?_
  intro T1 X1 e1
  exact g_ret0 X1 hx Bd.returns hlk (hb hby d2_4) (by decide) (by decide) ⟨rfl, N0, e1⟩
theorem pd_0 : parseMethodDescriptor "()V" = some ⟨[], none⟩ := by decide +kernel
theorem d1_0 : decode prog_2_method_1_code 0 = .ok (.aload_n 0, 1) := by decide +kernel
theorem d1_1 : decode prog_2_method_1_code 1 = .ok (.invokespecial 1, 3) := by decide +kernel
theorem d1_4 : decode prog_2_method_1_code 4 = .ok (.iload_n 1, 1) := by decide +kernel
theorem d1_5 : decode prog_2_method_1_code 5 = .ok (.ifCond .lt 7, 3) := by decide +kernel
theorem d1_8 : decode prog_2_method_1_code 8 = .ok (.iload_n 2, 1) := by decide +kernel
theorem d1_9 : decode prog_2_method_1_code 9 = .ok (.ifCond .ge 19, 3) := by decide +kernel
theorem d1_12 : decode prog_2_method_1_code 12 = .ok (.new 7, 3) := by decide +kernel
theorem d1_15 : decode prog_2_method_1_code 15 = .ok (.dup, 1) := by decide +kernel
theorem d1_16 : decode prog_2_method_1_code 16 = .ok (.iload_n 1, 1) := by decide +kernel
theorem d1_17 : decode prog_2_method_1_code 17 = .ok (.iload_n 2, 1) := by decide +kernel
theorem d1_18 : decode prog_2_method_1_code 18 = .ok (.iload_n 3, 1) := by decide +kernel
theorem d1_24 : decode prog_2_method_1_code 24 = .ok (.invokespecial 13, 3) := by decide +kernel
theorem d1_27 : decode prog_2_method_1_code 27 = .ok (.athrow, 1) := by decide +kernel
theorem d1_28 : decode prog_2_method_1_code 28 = .ok (.iload_n 3, 1) := by decide +kernel
theorem d1_29 : decode prog_2_method_1_code 29 = .ok (.iload_n 2, 1) := by decide +kernel
theorem d1_30 : decode prog_2_method_1_code 30 = .ok (.if_icmp .ge 18, 3) := by decide +kernel
theorem d1_33 : decode prog_2_method_1_code 33 = .ok (.new 7, 3) := by decide +kernel
theorem d1_36 : decode prog_2_method_1_code 36 = .ok (.dup, 1) := by decide +kernel
theorem d1_37 : decode prog_2_method_1_code 37 = .ok (.iload_n 2, 1) := by decide +kernel
theorem d1_38 : decode prog_2_method_1_code 38 = .ok (.iload_n 3, 1) := by decide +kernel
theorem d1_44 : decode prog_2_method_1_code 44 = .ok (.invokespecial 13, 3) := by decide +kernel
theorem d1_47 : decode prog_2_method_1_code 47 = .ok (.athrow, 1) := by decide +kernel
theorem d1_48 : decode prog_2_method_1_code 48 = .ok (.aload_n 0, 1) := by decide +kernel
theorem d1_49 : decode prog_2_method_1_code 49 = .ok (.iload_n 1, 1) := by decide +kernel
theorem d1_50 : decode prog_2_method_1_code 50 = .ok (.putfield 19, 3) := by decide +kernel
theorem d1_53 : decode prog_2_method_1_code 53 = .ok (.aload_n 0, 1) := by decide +kernel
theorem d1_54 : decode prog_2_method_1_code 54 = .ok (.iload_n 2, 1) := by decide +kernel
theorem d1_55 : decode prog_2_method_1_code 55 = .ok (.putfield 25, 3) := by decide +kernel
theorem d1_58 : decode prog_2_method_1_code 58 = .ok (.aload_n 0, 1) := by decide +kernel
theorem d1_59 : decode prog_2_method_1_code 59 = .ok (.iload_n 3, 1) := by decide +kernel
theorem d1_60 : decode prog_2_method_1_code 60 = .ok (.putfield 28, 3) := by decide +kernel
theorem d1_63 : decode prog_2_method_1_code 63 = .ok (.return_, 1) := by decide +kernel
def Q1 (Z : State) (a1 : Addr) (p2 : Int32) (p3 : Int32) (p4 : Int32) (h0 : Heap) (n0 : Nat) (v : Option Value) (h : Heap) (L : List Loc) : Prop := v = none ∧ Fr n0 L ∧ Keep h0 h [a1] ∧ Exa Z h a1 "com/example/bar_visibility/barvisibility/Bar" ∧ Fld Z h a1 "com/example/bar_visibility/barvisibility/Bar" "y" "I" (.int p2) ∧ Fld Z h a1 "com/example/bar_visibility/barvisibility/Bar" "x1" "I" (.int p3) ∧ Fld Z h a1 "com/example/bar_visibility/barvisibility/Bar" "x2" "I" (.int p4)
theorem pn_1 : plainName "com/example/bar_visibility/barvisibility/Bar" = true := by first | (simp [plainName, overriddenIn]; done) | decide +kernel
theorem ef_rm1 (m : MethodId) (a1 : Addr) (p2 : Int32) (p3 : Int32) (p4 : Int32) : entryFrame m #[(.ref a1), (.int p2), (.int p3), (.int p4)] 4 = mkF m 0 #[.val (.ref a1), .val (.int p2), .val (.int p3), .val (.int p4)] [] := by first | (simp [entryFrame, mkF, argsToLocals, Value.category]; done) | rfl
set_option maxRecDepth 65536 in
set_option maxHeartbeats 40000000 in
theorem rm1 (l : Launch) (Z : State) (a0 : Array Value) (hw : ∀ d ∈ tables_1, d.before a0 Z = true) (ws : List Jvm.Cond) (a1 : Addr) (p2 : Int32) (p3 : Int32) (p4 : Int32) (h0 : Heap) (n0 : Nat) (Z0 : n0 ≤ h0.size) (E_a1 : Exa Z h0 a1 "com/example/bar_visibility/barvisibility/Bar") (F_y : Fld Z h0 a1 "com/example/bar_visibility/barvisibility/Bar" "y" "I" (.int (0 : Int32))) (F_x1 : Fld Z h0 a1 "com/example/bar_visibility/barvisibility/Bar" "x1" "I" (.int (0 : Int32))) (F_x2 : Fld Z h0 a1 "com/example/bar_visibility/barvisibility/Bar" "x2" "I" (.int (0 : Int32))) (g_a1 : n0 ≤ a1) (hy : ¬ (p2 < (0 : Int32))) (hx1 : ¬ (p3 < (0 : Int32))) (hx2 : ¬ (p4 < p3)) :
    MetFree l (⟨"com/example/bar_visibility/barvisibility/Bar", "<init>", "(III)V"⟩ : MethodName) (head1 (Jvm.Cond.code (⟨"com/example/bar_visibility/barvisibility/Bar", "<init>", "(III)V"⟩ : MethodName) prog_2_method_1_code 4 none :: ws) ({ frames := 2, cells := 0, slots := 0, locals := 24 } : Room)) (fun a U => a = #[(.ref a1), (.int p2), (.int p3), (.int p4)] ∧ Z.Warmed39 U.vm ∧ U.heap = h0) (fun _ _ _ _ _ => True) (fun _ U o U' => ∃ v L, o = .returned v ∧ (Q1 Z a1 p2 p3 p4 h0 n0) v U'.heap L ∧ FrameEnd U o U' L ({ frames := 2, cells := 0, slots := 0, locals := 24 } : Room).cells ({ frames := 2, cells := 0, slots := 0, locals := 24 } : Room).slots) := by
  refine MetFree.of_bodySF (plainFor_of_name pn_1) hisR ?_
  intro p e s m args below meth c s₁ Bd hml0 hP hK
  obtain ⟨rfl, hZ, hh⟩ := hP
  have hx := Bd.exec
  have hby := Bd.bytes
  have hml : c.maxLocals = 4 := hml0
  have hown : s.vm.findClass "com/example/bar_visibility/barvisibility/Bar" = some m.cls := findClass_of_methodNamed Bd.named
  have hnm := (name_of_methodNamed Bd.named Bd.method).1
  have hlk : meth.locks = false := BodyLoose.notSynchronized Bd
  have X0 : Stand p l e ({ frames := 2, cells := 0, slots := 0, locals := 24 } : Room) s m #[(.ref a1), (.int p2), (.int p3), (.int p4)] below meth c s₁ [] 0 0 := Stand.of_body Bd
  have e0 : s₁.heap = h0 := by rw [← hh, Bd.state]; rfl
  have N0 := Fr.nil n0
  have K0 := Keep.refl h0 [a1]
  show Go p e below s ({ frames := 2, cells := 0, slots := 0, locals := 24 } : Room).cells ({ frames := 2, cells := 0, slots := 0, locals := 24 } : Room).slots (Q1 Z a1 p2 p3 p4 h0 n0) s₁ (entryFrame m #[(.ref a1), (.int p2), (.int p3), (.int p4)] 4)
  rw [ef_rm1 m a1 p2 p3 p4]
  refine g_aloadN 1 X0 hx (hb hby d1_0) rfl (v := (.ref a1)) rfl rfl ?_
  refine g_callI 4 X0 hx hZ (y := (⟨"java/lang/Record", "<init>", "()V"⟩ : MethodName)) rfl hown (hw _ (List.mem_of_getElem? (i := 8) rfl)) (hw _ (List.mem_of_getElem? (i := 9) rfl)) (hw _ (List.mem_of_getElem? (i := 11) rfl)) (hw _ (List.mem_of_getElem? (i := 12) rfl)) (by decide) e0 (rm2 l Z a0 hw [] a1  h0 n0 Z0 ) (by rw [hml]; rfl) a1 [] [] rfl rfl (lenOf pd_0 rfl) 0 (Nat.le_of_eq rfl) (hb hby d1_1) (by decide) (by decide) (by decide) (by decide) rfl ?_
  intro v1 T1 L1 X1 hQ1
  obtain ⟨rfl, N1q, e1⟩ := hQ1
  have N1 := Fr.app N0 N1q
  show Go p e below s ({ frames := 2, cells := 0, slots := 0, locals := 24 } : Room).cells ({ frames := 2, cells := 0, slots := 0, locals := 24 } : Room).slots (Q1 Z a1 p2 p3 p4 h0 n0) T1 (mkF m 4 #[.val (.ref a1), .val (.int p2), .val (.int p3), .val (.int p4)] [])
  refine g_iloadN 5 X1 hx (hb hby d1_4) rfl (v := p2) rfl ?_
  have hc5_1 : ¬ (p2 < (0 : Int32)) := hy
  refine g_ifNo 8 X1 hx (hb hby d1_5)  ((if0 _ _).trans (flt hc5_1).1) rfl ?_
  refine g_iloadN 9 X1 hx (hb hby d1_8) rfl (v := p3) rfl ?_
  have hc9_2 : ¬ (p3 < (0 : Int32)) := hx1
  refine g_ifYes 28 X1 hx (hb hby d1_9)  ((if0 _ _).trans (flt hc9_2).2.1) (by decide) (by decide) ?_
  refine g_iloadN 29 X1 hx (hb hby d1_28) rfl (v := p4) rfl ?_
  refine g_iloadN 30 X1 hx (hb hby d1_29) rfl (v := p3) rfl ?_
  have hc30_3 : ¬ (p4 < p3) := hx2
  refine g_icmpYes 48 X1 hx (hb hby d1_30)  (flt hc30_3).2.1 (by decide) (by decide) ?_
  refine g_aloadN 49 X1 hx (hb hby d1_48) rfl (v := (.ref a1)) rfl rfl ?_
  refine g_iloadN 50 X1 hx (hb hby d1_49) rfl (v := p2) rfl ?_
  refine g_putF 53 X1 hx hZ hown (hw _ (List.mem_of_getElem? (i := 16) rfl)) Via.refl e1 F_y E_a1 (Or.inr ⟨(hw _ (List.mem_of_getElem? (i := 17) rfl)), rfl, hnm⟩) (hw _ (List.mem_of_getElem? (i := 3) rfl)) (ty := .int) (by decide) rfl rfl (hb hby d1_50) rfl ?_
  intro T5 h5 X5 e5 W5
  have f6 := E_a1.wr W5
  have f7 := F_x1.other W5 (Or.inr (slot_ne (Or.inr (hw _ (List.mem_of_getElem? (i := 19) rfl))) (Or.inr (hw _ (List.mem_of_getElem? (i := 17) rfl))) (by decide) (t := .int) (t' := .int) (by decide) (by decide)))
  have f8 := F_x2.other W5 (Or.inr (slot_ne (Or.inr (hw _ (List.mem_of_getElem? (i := 21) rfl))) (Or.inr (hw _ (List.mem_of_getElem? (i := 17) rfl))) (by decide) (t := .int) (t' := .int) (by decide) (by decide)))
  have Zs9 : n0 ≤ h5.size := (Nat.le_trans Z0 (Keep.of_wr W5).1)
  have K10 : Keep h0 h5 [a1] := K0.wr W5 (Or.inl (List.mem_of_getElem? (i := 0) rfl))
  have f11 := F_y.same W5
  have N12 := Fr.snoc X5 N1 g_a1
  refine g_aloadN 54 X5 hx (hb hby d1_53) rfl (v := (.ref a1)) rfl rfl ?_
  refine g_iloadN 55 X5 hx (hb hby d1_54) rfl (v := p3) rfl ?_
  refine g_putF 58 X5 hx hZ hown (hw _ (List.mem_of_getElem? (i := 18) rfl)) Via.refl e5 f7 f6 (Or.inr ⟨(hw _ (List.mem_of_getElem? (i := 19) rfl)), rfl, hnm⟩) (hw _ (List.mem_of_getElem? (i := 3) rfl)) (ty := .int) (by decide) rfl rfl (hb hby d1_55) rfl ?_
  intro T13 h13 X13 e13 W13
  have f14 := f6.wr W13
  have f15 := f11.other W13 (Or.inr (slot_ne (Or.inr (hw _ (List.mem_of_getElem? (i := 17) rfl))) (Or.inr (hw _ (List.mem_of_getElem? (i := 19) rfl))) (by decide) (t := .int) (t' := .int) (by decide) (by decide)))
  have f16 := f8.other W13 (Or.inr (slot_ne (Or.inr (hw _ (List.mem_of_getElem? (i := 21) rfl))) (Or.inr (hw _ (List.mem_of_getElem? (i := 19) rfl))) (by decide) (t := .int) (t' := .int) (by decide) (by decide)))
  have Zs17 : n0 ≤ h13.size := (Nat.le_trans Zs9 (Keep.of_wr W13).1)
  have K18 : Keep h0 h13 [a1] := K10.wr W13 (Or.inl (List.mem_of_getElem? (i := 0) rfl))
  have f19 := f7.same W13
  have N20 := Fr.snoc X13 N12 g_a1
  refine g_aloadN 59 X13 hx (hb hby d1_58) rfl (v := (.ref a1)) rfl rfl ?_
  refine g_iloadN 60 X13 hx (hb hby d1_59) rfl (v := p4) rfl ?_
  refine g_putF 63 X13 hx hZ hown (hw _ (List.mem_of_getElem? (i := 20) rfl)) Via.refl e13 f16 f14 (Or.inr ⟨(hw _ (List.mem_of_getElem? (i := 21) rfl)), rfl, hnm⟩) (hw _ (List.mem_of_getElem? (i := 3) rfl)) (ty := .int) (by decide) rfl rfl (hb hby d1_60) rfl ?_
  intro T21 h21 X21 e21 W21
  have f22 := f14.wr W21
  have f23 := f15.other W21 (Or.inr (slot_ne (Or.inr (hw _ (List.mem_of_getElem? (i := 17) rfl))) (Or.inr (hw _ (List.mem_of_getElem? (i := 21) rfl))) (by decide) (t := .int) (t' := .int) (by decide) (by decide)))
  have f24 := f19.other W21 (Or.inr (slot_ne (Or.inr (hw _ (List.mem_of_getElem? (i := 19) rfl))) (Or.inr (hw _ (List.mem_of_getElem? (i := 21) rfl))) (by decide) (t := .int) (t' := .int) (by decide) (by decide)))
  have Zs25 : n0 ≤ h21.size := (Nat.le_trans Zs17 (Keep.of_wr W21).1)
  have K26 : Keep h0 h21 [a1] := K18.wr W21 (Or.inl (List.mem_of_getElem? (i := 0) rfl))
  have f27 := f16.same W21
  have N28 := Fr.snoc X21 N20 g_a1
  exact g_ret0 X21 hx Bd.returns hlk (hb hby d1_63) (by decide) (by decide) (by
      show Q1 Z a1 p2 p3 p4 h0 n0 _ T21.heap _
      rw [e21]
      exact ⟨rfl, N28, K26, f22, f23, f24, f27⟩)
theorem d4_0 : decode prog_2_method_2_code 0 = .ok (.aload_n 0, 1) := by decide +kernel
theorem d4_1 : decode prog_2_method_2_code 1 = .ok (.getfield 25, 3) := by decide +kernel
theorem d4_4 : decode prog_2_method_2_code 4 = .ok (.iload_n 1, 1) := by decide +kernel
theorem d4_5 : decode prog_2_method_2_code 5 = .ok (.if_icmp .gt 15, 3) := by decide +kernel
theorem d4_8 : decode prog_2_method_2_code 8 = .ok (.iload_n 1, 1) := by decide +kernel
theorem d4_9 : decode prog_2_method_2_code 9 = .ok (.aload_n 0, 1) := by decide +kernel
theorem d4_10 : decode prog_2_method_2_code 10 = .ok (.getfield 28, 3) := by decide +kernel
theorem d4_13 : decode prog_2_method_2_code 13 = .ok (.if_icmp .gt 7, 3) := by decide +kernel
theorem d4_16 : decode prog_2_method_2_code 16 = .ok (.iconst 1, 1) := by decide +kernel
theorem d4_17 : decode prog_2_method_2_code 17 = .ok (.goto 4, 3) := by decide +kernel
theorem d4_20 : decode prog_2_method_2_code 20 = .ok (.iconst 0, 1) := by decide +kernel
theorem d4_21 : decode prog_2_method_2_code 21 = .ok (.ireturn, 1) := by decide +kernel
def Rel4 (p2 : Int32) (w_x1_a1 : Int32) (w_x2_a1 : Int32) (r : Int32) : Prop := (p2 < w_x1_a1 ∧ r = (0 : Int32)) ∨ (¬ (p2 < w_x1_a1) ∧ w_x2_a1 < p2 ∧ r = (0 : Int32)) ∨ (¬ (p2 < w_x1_a1) ∧ ¬ (w_x2_a1 < p2) ∧ r = (1 : Int32))
def Q4 (Z : State) (a1 : Addr) (p2 : Int32) (w_x1_a1 : Int32) (w_x2_a1 : Int32) (h0 : Heap) (n0 : Nat) (v : Option Value) (h : Heap) (L : List Loc) : Prop := ∃ r : Int32, v = some (.int r) ∧ Rel4 p2 w_x1_a1 w_x2_a1 r ∧ Fr n0 L ∧ h = h0
theorem ef_rm4 (m : MethodId) (a1 : Addr) (p2 : Int32) : entryFrame m #[(.ref a1), (.int p2)] 2 = mkF m 0 #[.val (.ref a1), .val (.int p2)] [] := by first | (simp [entryFrame, mkF, argsToLocals, Value.category]; done) | rfl
set_option maxRecDepth 65536 in
set_option maxHeartbeats 40000000 in
theorem rm4 (l : Launch) (Z : State) (a0 : Array Value) (hw : ∀ d ∈ tables_1, d.before a0 Z = true) (ws : List Jvm.Cond) (a1 : Addr) (p2 : Int32) (w_x1_a1 : Int32) (w_x2_a1 : Int32) (h0 : Heap) (n0 : Nat) (Z0 : n0 ≤ h0.size) (F_x1_a1 : Fld Z h0 a1 "com/example/bar_visibility/barvisibility/Bar" "x1" "I" (.int w_x1_a1)) (F_x2_a1 : Fld Z h0 a1 "com/example/bar_visibility/barvisibility/Bar" "x2" "I" (.int w_x2_a1)) :
    MetFree l (⟨"com/example/bar_visibility/barvisibility/Bar", "covers", "(I)Z"⟩ : MethodName) (head1 (Jvm.Cond.code (⟨"com/example/bar_visibility/barvisibility/Bar", "covers", "(I)Z"⟩ : MethodName) prog_2_method_2_code 2 (some .boolean) :: ws) ({ frames := 0, cells := 0, slots := 0, locals := 0 } : Room)) (fun a U => a = #[(.ref a1), (.int p2)] ∧ Z.Warmed39 U.vm ∧ U.heap = h0) (fun _ _ _ _ _ => True) (fun _ U o U' => ∃ v L, o = .returned v ∧ (Q4 Z a1 p2 w_x1_a1 w_x2_a1 h0 n0) v U'.heap L ∧ FrameEnd U o U' L ({ frames := 0, cells := 0, slots := 0, locals := 0 } : Room).cells ({ frames := 0, cells := 0, slots := 0, locals := 0 } : Room).slots) := by
  refine MetFree.of_bodySF (plainFor_of_name pn_1) hisR ?_
  intro p e s m args below meth c s₁ Bd hml0 hP hK
  obtain ⟨rfl, hZ, hh⟩ := hP
  have hx := Bd.exec
  have hby := Bd.bytes
  have hml : c.maxLocals = 2 := hml0
  have hown : s.vm.findClass "com/example/bar_visibility/barvisibility/Bar" = some m.cls := findClass_of_methodNamed Bd.named
  have hnm := (name_of_methodNamed Bd.named Bd.method).1
  have hlk : meth.locks = false := BodyLoose.notSynchronized Bd
  have X0 : Stand p l e ({ frames := 0, cells := 0, slots := 0, locals := 0 } : Room) s m #[(.ref a1), (.int p2)] below meth c s₁ [] 0 0 := Stand.of_body Bd
  have e0 : s₁.heap = h0 := by rw [← hh, Bd.state]; rfl
  have N0 := Fr.nil n0
  show Go p e below s ({ frames := 0, cells := 0, slots := 0, locals := 0 } : Room).cells ({ frames := 0, cells := 0, slots := 0, locals := 0 } : Room).slots (Q4 Z a1 p2 w_x1_a1 w_x2_a1 h0 n0) s₁ (entryFrame m #[(.ref a1), (.int p2)] 2)
  rw [ef_rm4 m a1 p2]
  refine g_aloadN 1 X0 hx (hb hby d4_0) rfl (v := (.ref a1)) rfl rfl ?_
  refine g_getF 4 X0 hx hZ hown (hw _ (List.mem_of_getElem? (i := 18) rfl)) Via.refl e0 F_x1_a1 (hb hby d4_1) rfl ?_
  intro T1 X1 e1
  refine g_iloadN 5 X1 hx (hb hby d4_4) rfl (v := p2) rfl ?_
  by_cases hc5_1 : p2 < w_x1_a1
  ·
    refine g_icmpYes 20 X1 hx (hb hby d4_5)  (tlt hc5_1).2.2.1 (by decide) (by decide) ?_
    refine g_iconst 21 X1 hx (hb hby d4_20) rfl (z := (0 : Int32)) rfl ?_
    exact g_retN X1 hx (t := .boolean) Bd.returns hlk (by simp) rfl (hb hby d4_21) (by decide) (by decide) ⟨(0 : Int32), rfl, (Or.inl ⟨hc5_1, rfl⟩), N0, e1⟩
  ·
    refine g_icmpNo 8 X1 hx (hb hby d4_5)  (flt hc5_1).2.2.1 rfl ?_
    refine g_iloadN 9 X1 hx (hb hby d4_8) rfl (v := p2) rfl ?_
    refine g_aloadN 10 X1 hx (hb hby d4_9) rfl (v := (.ref a1)) rfl rfl ?_
    refine g_getF 13 X1 hx hZ hown (hw _ (List.mem_of_getElem? (i := 20) rfl)) Via.refl e1 F_x2_a1 (hb hby d4_10) rfl ?_
    intro T3 X3 e3
    by_cases hc13_3 : w_x2_a1 < p2
    ·
      refine g_icmpYes 20 X3 hx (hb hby d4_13)  (tlt hc13_3).2.2.1 (by decide) (by decide) ?_
      refine g_iconst 21 X3 hx (hb hby d4_20) rfl (z := (0 : Int32)) rfl ?_
      exact g_retN X3 hx (t := .boolean) Bd.returns hlk (by simp) rfl (hb hby d4_21) (by decide) (by decide) ⟨(0 : Int32), rfl, (Or.inr (Or.inl ⟨hc5_1, hc13_3, rfl⟩)), N0, e3⟩
    ·
      refine g_icmpNo 16 X3 hx (hb hby d4_13)  (flt hc13_3).2.2.1 rfl ?_
      refine g_iconst 17 X3 hx (hb hby d4_16) rfl (z := (1 : Int32)) rfl ?_
      refine g_goto 21 X3 hx (hb hby d4_17) (by decide) (by decide) ?_
      exact g_retN X3 hx (t := .boolean) Bd.returns hlk (by simp) rfl (hb hby d4_21) (by decide) (by decide) ⟨(1 : Int32), rfl, (Or.inr (Or.inr ⟨hc5_1, hc13_3, rfl⟩)), N0, e3⟩
theorem pd_1 : parseMethodDescriptor "(III)V" = some ⟨[.int, .int, .int], none⟩ := by decide +kernel
theorem pd_2 : parseMethodDescriptor "(I)Z" = some ⟨[.int], some .boolean⟩ := by decide +kernel
theorem sub0_0 (p1 : Int32) (z1 : Int32) (hz1 : p1 &&& (2147483647 : Int32) = z1) : 0 ≤ z1.toInt := by
  have o0 := rng32 p1
  have o1 := rng32 (p1 &&& (2147483647 : Int32))
  have o2 := c_mask p1 (2147483647 : Int32) 31 (by decide) (by decide)
  have o3 := rng32 z1
  simp only [Int32.lt_iff_toInt_lt, Int64.lt_iff_toInt_lt, Int32.le_iff_toInt_le, Int64.le_iff_toInt_le, ← Int32.toInt_inj, ← Int64.toInt_inj, Int32.reduceToInt, Int64.reduceToInt, Int32.toInt_toInt64, ne_eq] at * <;> omega
theorem ask0_1 (p1 : Int32) (p2 : Int32) (p3 : Int32) (p4 : Int32) (z1 : Int32) (z2 : Int32) (z5 : Int64) (z12 : Int32) (hA : 0 ≤ z1.toInt) (hB : 0 ≤ z2.toInt ∧ z2.toInt ≤ z12.toInt) : ¬ (z1 < (0 : Int32)) := by
  have o0 := rng32 p1
  have o1 := rng32 p2
  have o2 := rng32 p3
  have o3 := rng32 p4
  have o4 := rng32 z1
  have o5 := rng32 z2
  have o6 := rng64 z5
  have o7 := rng32 z12
  simp only [Int32.lt_iff_toInt_lt, Int64.lt_iff_toInt_lt, Int32.le_iff_toInt_le, Int64.le_iff_toInt_le, ← Int32.toInt_inj, ← Int64.toInt_inj, Int32.reduceToInt, Int64.reduceToInt, Int32.toInt_toInt64, ne_eq] at * <;> omega
theorem ask0_2 (p1 : Int32) (p2 : Int32) (p3 : Int32) (p4 : Int32) (z1 : Int32) (z2 : Int32) (z5 : Int64) (z12 : Int32) (hA : 0 ≤ z1.toInt) (hB : 0 ≤ z2.toInt ∧ z2.toInt ≤ z12.toInt) : ¬ (z2 < (0 : Int32)) := by
  have o0 := rng32 p1
  have o1 := rng32 p2
  have o2 := rng32 p3
  have o3 := rng32 p4
  have o4 := rng32 z1
  have o5 := rng32 z2
  have o6 := rng64 z5
  have o7 := rng32 z12
  simp only [Int32.lt_iff_toInt_lt, Int64.lt_iff_toInt_lt, Int32.le_iff_toInt_le, Int64.le_iff_toInt_le, ← Int32.toInt_inj, ← Int64.toInt_inj, Int32.reduceToInt, Int64.reduceToInt, Int32.toInt_toInt64, ne_eq] at * <;> omega
theorem ask0_3 (p1 : Int32) (p2 : Int32) (p3 : Int32) (p4 : Int32) (z1 : Int32) (z2 : Int32) (z5 : Int64) (z12 : Int32) (hA : 0 ≤ z1.toInt) (hB : 0 ≤ z2.toInt ∧ z2.toInt ≤ z12.toInt) : ¬ (z12 < z2) := by
  have o0 := rng32 p1
  have o1 := rng32 p2
  have o2 := rng32 p3
  have o3 := rng32 p4
  have o4 := rng32 z1
  have o5 := rng32 z2
  have o6 := rng64 z5
  have o7 := rng32 z12
  simp only [Int32.lt_iff_toInt_lt, Int64.lt_iff_toInt_lt, Int32.le_iff_toInt_le, Int64.le_iff_toInt_le, ← Int32.toInt_inj, ← Int64.toInt_inj, Int32.reduceToInt, Int64.reduceToInt, Int32.toInt_toInt64, ne_eq] at * <;> omega
theorem ask0_4 (p1 : Int32) (p2 : Int32) (p3 : Int32) (p4 : Int32) (z1 : Int32) (z2 : Int32) (z5 : Int64) (z12 : Int32) (z23 : Int64) (z24 : Int64) (z25 : Int64) (z26 : Int64) (z27 : Int64) (z28 : Int64) (z31 : Int32) (r33 : Int32) (z35 : Int32) (hB : 0 ≤ z2.toInt ∧ z2.toInt ≤ z12.toInt) (hz23 : p4.toInt64 = z23) (hz24 : z2.toInt64 = z24) (hz25 : z23 - z24 = z25) (hz26 : z12.toInt64 = z26) (hz27 : z2.toInt64 = z27) (hz28 : z26 - z27 = z28) (hj32 : (z25 < (0 : Int64) ∧ z31 = (0 : Int32)) ∨ (¬ (z25 < (0 : Int64)) ∧ z28 < z25 ∧ z31 = (0 : Int32)) ∨ (¬ (z25 < (0 : Int64)) ∧ ¬ (z28 < z25) ∧ z31 = (1 : Int32))) (hr33 : Rel4 p4 z2 z12 r33) (hj36 : (r33 = z31 ∧ z35 = (1 : Int32)) ∨ (¬ (r33 = z31) ∧ z35 = (0 : Int32))) : ¬ (z35 = (0 : Int32)) := by
  simp only [Rel4] at hr33
  have o0 := rng32 p4
  have o1 := c_i2l p4
  have o2 := rng64 z23
  have o3 := rng32 z2
  have o4 := c_i2l z2
  have o5 := rng64 z24
  have o6 := rng64 (z23 - z24)
  have o7 := c_lsub z23 z24
  have o8 := rng64 z25
  have o9 := rng32 z12
  have o10 := c_i2l z12
  have o11 := rng64 z26
  have o12 := rng64 z27
  have o13 := rng64 (z26 - z27)
  have o14 := c_lsub z26 z27
  have o15 := rng64 z28
  have o16 := rng32 z31
  have o17 := rng32 r33
  have o18 := rng32 z35
  have o19 := rng32 p1
  have o20 := rng32 p2
  have o21 := rng32 p3
  have o22 := rng32 z1
  have o23 := rng64 z5
  simp only [Int32.lt_iff_toInt_lt, Int64.lt_iff_toInt_lt, Int32.le_iff_toInt_le, Int64.le_iff_toInt_le, ← Int32.toInt_inj, ← Int64.toInt_inj, Int32.reduceToInt, Int64.reduceToInt, Int32.toInt_toInt64, ne_eq] at * <;> omega
theorem ask0_5 (p1 : Int32) (p2 : Int32) (p3 : Int32) (p4 : Int32) (z1 : Int32) (z2 : Int32) (z5 : Int64) (z12 : Int32) (z25 : Int64) (z28 : Int64) (z31 : Int32) (z35 : Int32) (r38 : Int32) (hB : 0 ≤ z2.toInt ∧ z2.toInt ≤ z12.toInt) (hr38 : Rel4 z2 z2 z12 r38) : ¬ (r38 = (0 : Int32)) := by
  simp only [Rel4] at hr38
  have o0 := rng32 z2
  have o1 := rng32 r38
  have o2 := rng32 z12
  have o3 := rng32 p1
  have o4 := rng32 p2
  have o5 := rng32 p3
  have o6 := rng32 p4
  have o7 := rng32 z1
  have o8 := rng64 z5
  have o9 := rng64 z25
  have o10 := rng64 z28
  have o11 := rng32 z31
  have o12 := rng32 z35
  simp only [Int32.lt_iff_toInt_lt, Int64.lt_iff_toInt_lt, Int32.le_iff_toInt_le, Int64.le_iff_toInt_le, ← Int32.toInt_inj, ← Int64.toInt_inj, Int32.reduceToInt, Int64.reduceToInt, Int32.toInt_toInt64, ne_eq] at * <;> omega
theorem ask0_6 (p1 : Int32) (p2 : Int32) (p3 : Int32) (p4 : Int32) (z1 : Int32) (z2 : Int32) (z5 : Int64) (z12 : Int32) (z25 : Int64) (z28 : Int64) (z31 : Int32) (r40 : Int32) (hB : 0 ≤ z2.toInt ∧ z2.toInt ≤ z12.toInt) (hr40 : Rel4 z12 z2 z12 r40) : ¬ (r40 = (0 : Int32)) := by
  simp only [Rel4] at hr40
  have o0 := rng32 z12
  have o1 := rng32 z2
  have o2 := rng32 r40
  have o3 := rng32 p1
  have o4 := rng32 p2
  have o5 := rng32 p3
  have o6 := rng32 p4
  have o7 := rng32 z1
  have o8 := rng64 z5
  have o9 := rng64 z25
  have o10 := rng64 z28
  have o11 := rng32 z31
  simp only [Int32.lt_iff_toInt_lt, Int64.lt_iff_toInt_lt, Int32.le_iff_toInt_le, Int64.le_iff_toInt_le, ← Int32.toInt_inj, ← Int64.toInt_inj, Int32.reduceToInt, Int64.reduceToInt, Int32.toInt_toInt64, ne_eq] at * <;> omega
theorem ask0_7 (p1 : Int32) (p2 : Int32) (p3 : Int32) (p4 : Int32) (z1 : Int32) (z2 : Int32) (z5 : Int64) (z12 : Int32) (z25 : Int64) (z28 : Int64) (z31 : Int32) (z43 : Int32) (r44 : Int32) (hB : 0 ≤ z2.toInt ∧ z2.toInt ≤ z12.toInt) (hc157_41 : (0 : Int32) < z2) (hz43 : z2 - (1 : Int32) = z43) (hr44 : Rel4 z43 z2 z12 r44) : r44 = (0 : Int32) := by
  simp only [Rel4] at hr44
  have o0 := rng32 z2
  have o1 := rng32 (z2 - (1 : Int32))
  have o2 := c_isub z2 (1 : Int32)
  have o3 := rng32 z43
  have o4 := rng32 r44
  have o5 := rng32 z12
  have o6 := rng32 p1
  have o7 := rng32 p2
  have o8 := rng32 p3
  have o9 := rng32 p4
  have o10 := rng32 z1
  have o11 := rng64 z5
  have o12 := rng64 z25
  have o13 := rng64 z28
  have o14 := rng32 z31
  simp only [Int32.lt_iff_toInt_lt, Int64.lt_iff_toInt_lt, Int32.le_iff_toInt_le, Int64.le_iff_toInt_le, ← Int32.toInt_inj, ← Int64.toInt_inj, Int32.reduceToInt, Int64.reduceToInt, Int32.toInt_toInt64, ne_eq] at * <;> omega
theorem ask0_8 (p1 : Int32) (p2 : Int32) (p3 : Int32) (p4 : Int32) (z1 : Int32) (z2 : Int32) (z5 : Int64) (z12 : Int32) (z25 : Int64) (z28 : Int64) (z31 : Int32) (z47 : Int32) (r48 : Int32) (hB : 0 ≤ z2.toInt ∧ z2.toInt ≤ z12.toInt) (hc157_41 : (0 : Int32) < z2) (hc188_45 : z12 < (2147483647 : Int32)) (hz47 : z12 + (1 : Int32) = z47) (hr48 : Rel4 z47 z2 z12 r48) : r48 = (0 : Int32) := by
  simp only [Rel4] at hr48
  have o0 := rng32 z2
  have o1 := rng32 z12
  have o2 := rng32 (z12 + (1 : Int32))
  have o3 := c_iadd z12 (1 : Int32)
  have o4 := rng32 z47
  have o5 := rng32 r48
  have o6 := rng32 p1
  have o7 := rng32 p2
  have o8 := rng32 p3
  have o9 := rng32 p4
  have o10 := rng32 z1
  have o11 := rng64 z5
  have o12 := rng64 z25
  have o13 := rng64 z28
  have o14 := rng32 z31
  simp only [Int32.lt_iff_toInt_lt, Int64.lt_iff_toInt_lt, Int32.le_iff_toInt_le, Int64.le_iff_toInt_le, ← Int32.toInt_inj, ← Int64.toInt_inj, Int32.reduceToInt, Int64.reduceToInt, Int32.toInt_toInt64, ne_eq] at * <;> omega
theorem ask0_9 (p1 : Int32) (p2 : Int32) (p3 : Int32) (p4 : Int32) (z1 : Int32) (z2 : Int32) (z5 : Int64) (z12 : Int32) (z25 : Int64) (z28 : Int64) (z31 : Int32) (z51 : Int32) (r52 : Int32) (hB : 0 ≤ z2.toInt ∧ z2.toInt ≤ z12.toInt) (hc157_41 : ¬ ((0 : Int32) < z2)) (hc188_49 : z12 < (2147483647 : Int32)) (hz51 : z12 + (1 : Int32) = z51) (hr52 : Rel4 z51 z2 z12 r52) : r52 = (0 : Int32) := by
  simp only [Rel4] at hr52
  have o0 := rng32 z2
  have o1 := rng32 z12
  have o2 := rng32 (z12 + (1 : Int32))
  have o3 := c_iadd z12 (1 : Int32)
  have o4 := rng32 z51
  have o5 := rng32 r52
  have o6 := rng32 p1
  have o7 := rng32 p2
  have o8 := rng32 p3
  have o9 := rng32 p4
  have o10 := rng32 z1
  have o11 := rng64 z5
  have o12 := rng64 z25
  have o13 := rng64 z28
  have o14 := rng32 z31
  simp only [Int32.lt_iff_toInt_lt, Int64.lt_iff_toInt_lt, Int32.le_iff_toInt_le, Int64.le_iff_toInt_le, ← Int32.toInt_inj, ← Int64.toInt_inj, Int32.reduceToInt, Int64.reduceToInt, Int32.toInt_toInt64, ne_eq] at * <;> omega
def Q0 (Z : State) (p1 : Int32) (p2 : Int32) (p3 : Int32) (p4 : Int32) (h0 : Heap) (n0 : Nat) (v : Option Value) (h : Heap) (L : List Loc) : Prop := v = some (.int (1 : Int32)) ∧ Fr n0 L
theorem pn_2 : plainName "com/example/bar_visibility/barvisibility/BarCoversPinLaw" = true := by first | (simp [plainName, overriddenIn]; done) | decide +kernel
theorem ef_rm0 (m : MethodId) (p1 : Int32) (p2 : Int32) (p3 : Int32) (p4 : Int32) : entryFrame m #[(.int p1), (.int p2), (.int p3), (.int p4)] maxLocals = mkF m 0 #[.val (.int p1), .val (.int p2), .val (.int p3), .val (.int p4), .unset, .unset, .unset, .unset, .unset, .unset, .unset, .unset, .unset, .unset, .unset, .unset] [] := by first | (simp [entryFrame, mkF, argsToLocals, Value.category, maxLocals]; done) | rfl
set_option maxRecDepth 65536 in
set_option maxHeartbeats 40000000 in
theorem rm0 (l : Launch) (Z : State) (a0 : Array Value) (hw : ∀ d ∈ tables_1, d.before a0 Z = true) (ws : List Jvm.Cond) (p1 : Int32) (p2 : Int32) (p3 : Int32) (p4 : Int32) (h0 : Heap) (n0 : Nat) (Z0 : n0 ≤ h0.size)  :
    MetFree l x (head1 (Jvm.Cond.code x code maxLocals ret :: ws) room_1) (fun a U => a = #[(.int p1), (.int p2), (.int p3), (.int p4)] ∧ Z.Warmed39 U.vm ∧ U.heap = h0) (fun _ _ _ _ _ => True) (fun _ U o U' => ∃ v L, o = .returned v ∧ (Q0 Z p1 p2 p3 p4 h0 n0) v U'.heap L ∧ FrameEnd U o U' L 16 128) := by
  refine MetFree.of_bodySF (plainFor_of_name pn_2) hisR ?_
  intro p e s m args below meth c s₁ Bd hml0 hP hK
  obtain ⟨rfl, hZ, hh⟩ := hP
  have hx := Bd.exec
  have hby := Bd.bytes
  have hml : c.maxLocals = 16 := hml0
  have hown : s.vm.findClass "com/example/bar_visibility/barvisibility/BarCoversPinLaw" = some m.cls := findClass_of_methodNamed Bd.named
  have hnm := (name_of_methodNamed Bd.named Bd.method).1
  have hlk : meth.locks = false := BodyLoose.notSynchronized Bd
  have X0 : Stand p l e room_1 s m #[(.int p1), (.int p2), (.int p3), (.int p4)] below meth c s₁ [] 0 0 := Stand.of_body Bd
  have e0 : s₁.heap = h0 := by rw [← hh, Bd.state]; rfl
  have N0 := Fr.nil n0
  show Go p e below s 16 128 (Q0 Z p1 p2 p3 p4 h0 n0) s₁ (entryFrame m #[(.int p1), (.int p2), (.int p3), (.int p4)] maxLocals)
  rw [ef_rm0 m p1 p2 p3 p4]
  refine g_iloadN 1 X0 hx (hb hby at_0) rfl (v := p1) rfl ?_
  refine g_ldc 3 X0 hx hZ hown (hw _ (List.mem_of_getElem? (i := 0) rfl)) (hb hby at_1) rfl ?_
  obtain ⟨z1, hz1⟩ : ∃ z : Int32, p1 &&& (2147483647 : Int32) = z := ⟨_, rfl⟩
  refine g_iand 4 X0 hx (hb hby at_3) rfl (z := z1) hz1 ?_
  refine g_istore 6 X0 hx (hb hby at_4) rfl (Ls' := #[.val (.int p1), .val (.int p2), .val (.int p3), .val (.int p4), .val (.int z1), .unset, .unset, .unset, .unset, .unset, .unset, .unset, .unset, .unset, .unset, .unset]) rfl ?_
  refine g_iloadN 7 X0 hx (hb hby at_6) rfl (v := p2) rfl ?_
  refine g_ldc 9 X0 hx hZ hown (hw _ (List.mem_of_getElem? (i := 0) rfl)) (hb hby at_7) rfl ?_
  obtain ⟨z2, hz2⟩ : ∃ z : Int32, p2 &&& (2147483647 : Int32) = z := ⟨_, rfl⟩
  refine g_iand 10 X0 hx (hb hby at_9) rfl (z := z2) hz2 ?_
  refine g_istore 12 X0 hx (hb hby at_10) rfl (Ls' := #[.val (.int p1), .val (.int p2), .val (.int p3), .val (.int p4), .val (.int z1), .val (.int z2), .unset, .unset, .unset, .unset, .unset, .unset, .unset, .unset, .unset, .unset]) rfl ?_
  refine g_ldc2 15 X0 hx hZ hown (hw _ (List.mem_of_getElem? (i := 1) rfl)) (hb hby at_12) rfl ?_
  refine g_iload 17 X0 hx (hb hby at_15) rfl (v := z2) rfl ?_
  obtain ⟨z3, hz3⟩ : ∃ z : Int64, z2.toInt64 = z := ⟨_, rfl⟩
  refine g_i2l 18 X0 hx (hb hby at_17) rfl (z := z3) hz3 ?_
  obtain ⟨z4, hz4⟩ : ∃ z : Int64, (2147483647 : Int64) - z3 = z := ⟨_, rfl⟩
  refine g_lsub 19 X0 hx (hb hby at_18) rfl (z := z4) hz4 ?_
  refine g_lconst 20 X0 hx (hb hby at_19) rfl (z := (1 : Int64)) rfl ?_
  obtain ⟨z5, hz5⟩ : ∃ z : Int64, z4 + (1 : Int64) = z := ⟨_, rfl⟩
  refine g_ladd 21 X0 hx (hb hby at_20) rfl (z := z5) hz5 ?_
  refine g_lstore 23 X0 hx (hb hby at_21) rfl (Ls' := #[.val (.int p1), .val (.int p2), .val (.int p3), .val (.int p4), .val (.int z1), .val (.int z2), .val (.long z5), .second, .unset, .unset, .unset, .unset, .unset, .unset, .unset, .unset]) rfl ?_
  refine g_iload 25 X0 hx (hb hby at_23) rfl (v := z2) rfl ?_
  obtain ⟨z6, hz6⟩ : ∃ z : Int64, z2.toInt64 = z := ⟨_, rfl⟩
  refine g_i2l 26 X0 hx (hb hby at_25) rfl (z := z6) hz6 ?_
  refine g_iloadN 27 X0 hx (hb hby at_26) rfl (v := p3) rfl ?_
  obtain ⟨z7, hz7⟩ : ∃ z : Int64, p3.toInt64 = z := ⟨_, rfl⟩
  refine g_i2l 28 X0 hx (hb hby at_27) rfl (z := z7) hz7 ?_
  refine g_ldc2 31 X0 hx hZ hown (hw _ (List.mem_of_getElem? (i := 1) rfl)) (hb hby at_28) rfl ?_
  obtain ⟨z8, hz8⟩ : ∃ z : Int64, z7 &&& (2147483647 : Int64) = z := ⟨_, rfl⟩
  refine g_land 32 X0 hx (hb hby at_31) rfl (z := z8) hz8 ?_
  refine g_lload 34 X0 hx (hb hby at_32) rfl (v := z5) rfl ?_
  have hq34_nz_8 : z5 ≠ 0 := (by have q := own_room p2 z2 z3 z4 z5 hz2 hz3 hz4 hz5; have r := rng32 z2; intro e; rw [e] at q; have s := q.2; simp only [Int64.reduceToInt] at s; omega)
  obtain ⟨z10, hz10⟩ : ∃ z : Int64, z8 % z5 = z := ⟨_, rfl⟩
  refine g_lrem 35 X0 hx (hb hby at_34) rfl hq34_nz_8 (z := z10) hz10 ?_
  obtain ⟨z11, hz11⟩ : ∃ z : Int64, z6 + z10 = z := ⟨_, rfl⟩
  refine g_ladd 36 X0 hx (hb hby at_35) rfl (z := z11) hz11 ?_
  obtain ⟨z12, hz12⟩ : ∃ z : Int32, z11.toInt32 = z := ⟨_, rfl⟩
  refine g_l2i 37 X0 hx (hb hby at_36) rfl (z := z12) hz12 ?_
  refine g_istore 39 X0 hx (hb hby at_37) rfl (Ls' := #[.val (.int p1), .val (.int p2), .val (.int p3), .val (.int p4), .val (.int z1), .val (.int z2), .val (.long z5), .second, .val (.int z12), .unset, .unset, .unset, .unset, .unset, .unset, .unset]) rfl ?_
  have hA : 0 ≤ z1.toInt := (sub0_0 p1 z1 hz1)
  have hB : 0 ≤ z2.toInt ∧ z2.toInt ≤ z12.toInt := own_x2 z2 z12 z5 z6 z7 z8 z10 z11 (own_room p2 z2 z3 z4 z5 hz2 hz3 hz4 hz5) hz6 hz8 hz10 hz11 hz12
  refine g_newO 42 X0 hx hZ hown (hw _ (List.mem_of_getElem? (i := 2) rfl)) (hw _ (List.mem_of_getElem? (i := 3) rfl)) (hw _ (List.mem_of_getElem? (i := 4) rfl)) e0 (hb hby at_39) (by decide) (by decide) rfl ?_
  intro T13 h13 b13 X13 e13 E13 g13 A13 D13
  have Zs14 : n0 ≤ h13.size := (Nat.le_trans Z0 E13.1)
  have g_b13 : n0 ≤ b13 := Nat.le_trans Z0 (Nat.le_of_eq g13.symm)
  have f15 : Fld Z h13 b13 "com/example/bar_visibility/barvisibility/Bar" "y" "I" (.int (0 : Int32)) := D13 (Or.inr (hw _ (List.mem_of_getElem? (i := 17) rfl))) (ty := .int) (by decide)
  have f16 : Fld Z h13 b13 "com/example/bar_visibility/barvisibility/Bar" "x1" "I" (.int (0 : Int32)) := D13 (Or.inr (hw _ (List.mem_of_getElem? (i := 19) rfl))) (ty := .int) (by decide)
  have f17 : Fld Z h13 b13 "com/example/bar_visibility/barvisibility/Bar" "x2" "I" (.int (0 : Int32)) := D13 (Or.inr (hw _ (List.mem_of_getElem? (i := 21) rfl))) (ty := .int) (by decide)
  refine g_dup 43 X13 hx (hb hby at_42) rfl rfl ?_
  refine g_iload 45 X13 hx (hb hby at_43) rfl (v := z1) rfl ?_
  refine g_iload 47 X13 hx (hb hby at_45) rfl (v := z2) rfl ?_
  refine g_iload 49 X13 hx (hb hby at_47) rfl (v := z12) rfl ?_
  have hq49_hy_18 : ¬ (z1 < (0 : Int32)) := (ask0_1 p1 p2 p3 p4 z1 z2 z5 z12 hA hB)
  have hq49_hx1_19 : ¬ (z2 < (0 : Int32)) := (ask0_2 p1 p2 p3 p4 z1 z2 z5 z12 hA hB)
  have hq49_hx2_20 : ¬ (z12 < z2) := (ask0_3 p1 p2 p3 p4 z1 z2 z5 z12 hA hB)
  refine g_callI 52 X13 hx hZ (y := (⟨"com/example/bar_visibility/barvisibility/Bar", "<init>", "(III)V"⟩ : MethodName)) rfl hown (hw _ (List.mem_of_getElem? (i := 5) rfl)) (hw _ (List.mem_of_getElem? (i := 6) rfl)) (hw _ (List.mem_of_getElem? (i := 4) rfl)) (hw _ (List.mem_of_getElem? (i := 7) rfl)) (by decide) e13 (rm1 l Z a0 hw [] b13 z1 z2 z12 h13 n0 Zs14 A13 f15 f16 f17 g_b13 hq49_hy_18 hq49_hx1_19 hq49_hx2_20) (by rw [hml]; rfl) b13 [(.int z1), (.int z2), (.int z12)] [(.ref b13)] rfl rfl (lenOf pd_1 rfl) 1 (Nat.le_of_eq rfl) (hb hby at_49) (by decide) (by decide) (by decide) (by decide) rfl ?_
  intro v18 T18 L18 X18 hQ18
  obtain ⟨rfl, N18q, K18, E18, F18_0, F18_1, F18_2⟩ := hQ18
  have N18 := Fr.app N0 N18q
  have Zs22 : n0 ≤ T18.heap.size := (Nat.le_trans Zs14 K18.1)
  show Go p e below s 16 128 (Q0 Z p1 p2 p3 p4 h0 n0) T18 (mkF m 52 #[.val (.int p1), .val (.int p2), .val (.int p3), .val (.int p4), .val (.int z1), .val (.int z2), .val (.long z5), .second, .val (.int z12), .unset, .unset, .unset, .unset, .unset, .unset, .unset] [(.ref b13)])
  refine g_astore 54 X18 hx (hb hby at_52) rfl (Ls' := #[.val (.int p1), .val (.int p2), .val (.int p3), .val (.int p4), .val (.int z1), .val (.int z2), .val (.long z5), .second, .val (.int z12), .val (.ref b13), .unset, .unset, .unset, .unset, .unset, .unset]) rfl rfl ?_
  refine g_iloadN 55 X18 hx (hb hby at_54) rfl (v := p4) rfl ?_
  obtain ⟨z23, hz23⟩ : ∃ z : Int64, p4.toInt64 = z := ⟨_, rfl⟩
  refine g_i2l 56 X18 hx (hb hby at_55) rfl (z := z23) hz23 ?_
  refine g_iload 58 X18 hx (hb hby at_56) rfl (v := z2) rfl ?_
  obtain ⟨z24, hz24⟩ : ∃ z : Int64, z2.toInt64 = z := ⟨_, rfl⟩
  refine g_i2l 59 X18 hx (hb hby at_58) rfl (z := z24) hz24 ?_
  obtain ⟨z25, hz25⟩ : ∃ z : Int64, z23 - z24 = z := ⟨_, rfl⟩
  refine g_lsub 60 X18 hx (hb hby at_59) rfl (z := z25) hz25 ?_
  refine g_lstore 62 X18 hx (hb hby at_60) rfl (Ls' := #[.val (.int p1), .val (.int p2), .val (.int p3), .val (.int p4), .val (.int z1), .val (.int z2), .val (.long z5), .second, .val (.int z12), .val (.ref b13), .val (.long z25), .second, .unset, .unset, .unset, .unset]) rfl ?_
  refine g_iload 64 X18 hx (hb hby at_62) rfl (v := z12) rfl ?_
  obtain ⟨z26, hz26⟩ : ∃ z : Int64, z12.toInt64 = z := ⟨_, rfl⟩
  refine g_i2l 65 X18 hx (hb hby at_64) rfl (z := z26) hz26 ?_
  refine g_iload 67 X18 hx (hb hby at_65) rfl (v := z2) rfl ?_
  obtain ⟨z27, hz27⟩ : ∃ z : Int64, z2.toInt64 = z := ⟨_, rfl⟩
  refine g_i2l 68 X18 hx (hb hby at_67) rfl (z := z27) hz27 ?_
  obtain ⟨z28, hz28⟩ : ∃ z : Int64, z26 - z27 = z := ⟨_, rfl⟩
  refine g_lsub 69 X18 hx (hb hby at_68) rfl (z := z28) hz28 ?_
  refine g_lstore 71 X18 hx (hb hby at_69) rfl (Ls' := #[.val (.int p1), .val (.int p2), .val (.int p3), .val (.int p4), .val (.int z1), .val (.int z2), .val (.long z5), .second, .val (.int z12), .val (.ref b13), .val (.long z25), .second, .val (.long z28), .second, .unset, .unset]) rfl ?_
  refine g_lload 73 X18 hx (hb hby at_71) rfl (v := z25) rfl ?_
  refine g_lconst 74 X18 hx (hb hby at_73) rfl (z := (0 : Int64)) rfl ?_
  suffices Jhj32 : ∀ (z31 : Int32), ((z25 < (0 : Int64) ∧ z31 = (0 : Int32)) ∨ (¬ (z25 < (0 : Int64)) ∧ z28 < z25 ∧ z31 = (0 : Int32)) ∨ (¬ (z25 < (0 : Int64)) ∧ ¬ (z28 < z25) ∧ z31 = (1 : Int32))) → Go p e below s 16 128 (Q0 Z p1 p2 p3 p4 h0 n0) T18 (mkF m 91 #[.val (.int p1), .val (.int p2), .val (.int p3), .val (.int p4), .val (.int z1), .val (.int z2), .val (.long z5), .second, .val (.int z12), .val (.ref b13), .val (.long z25), .second, .val (.long z28), .second, .unset, .unset] [(.int z31)]) by
    by_cases hc74_28 : z25 < (0 : Int64)
    ·
      refine g_lcmpYes 90 X18 hx (hb hby at_74) rfl (hb hby at_75) (tltL hc74_28).1 (by decide) (by decide) ?_
      refine g_iconst 91 X18 hx (hb hby at_90) rfl (z := (0 : Int32)) rfl ?_
      exact Jhj32 (0 : Int32) (Or.inl ⟨hc74_28, rfl⟩)
    ·
      refine g_lcmpNo 78 X18 hx (hb hby at_74) rfl (hb hby at_75) (fltL hc74_28).1 rfl ?_
      refine g_lload 80 X18 hx (hb hby at_78) rfl (v := z25) rfl ?_
      refine g_lload 82 X18 hx (hb hby at_80) rfl (v := z28) rfl ?_
      by_cases hc82_29 : z28 < z25
      ·
        refine g_lcmpYes 90 X18 hx (hb hby at_82) rfl (hb hby at_83) (tltL hc82_29).2.2.1 (by decide) (by decide) ?_
        refine g_iconst 91 X18 hx (hb hby at_90) rfl (z := (0 : Int32)) rfl ?_
        exact Jhj32 (0 : Int32) (Or.inr (Or.inl ⟨hc74_28, hc82_29, rfl⟩))
      ·
        refine g_lcmpNo 86 X18 hx (hb hby at_82) rfl (hb hby at_83) (fltL hc82_29).2.2.1 rfl ?_
        refine g_iconst 87 X18 hx (hb hby at_86) rfl (z := (1 : Int32)) rfl ?_
        refine g_goto 91 X18 hx (hb hby at_87) (by decide) (by decide) ?_
        exact Jhj32 (1 : Int32) (Or.inr (Or.inr (⟨hc74_28, hc82_29, rfl⟩)))
  intro z31 hj32
  refine g_istore 93 X18 hx (hb hby at_91) rfl (Ls' := #[.val (.int p1), .val (.int p2), .val (.int p3), .val (.int p4), .val (.int z1), .val (.int z2), .val (.long z5), .second, .val (.int z12), .val (.ref b13), .val (.long z25), .second, .val (.long z28), .second, .val (.int z31), .unset]) rfl ?_
  refine g_aload 95 X18 hx (hb hby at_93) rfl (v := (.ref b13)) rfl rfl ?_
  refine g_iloadN 96 X18 hx (hb hby at_95) rfl (v := p4) rfl ?_
  refine g_callV 99 X18 hx hZ (y := (⟨"com/example/bar_visibility/barvisibility/Bar", "covers", "(I)Z"⟩ : MethodName)) hown (hw _ (List.mem_of_getElem? (i := 22) rfl)) (hw _ (List.mem_of_getElem? (i := 23) rfl)) (hw _ (List.mem_of_getElem? (i := 25) rfl)) (hw _ (List.mem_of_getElem? (i := 24) rfl)) (hw _ (List.mem_of_getElem? (i := 4) rfl)) (hw _ (List.mem_of_getElem? (i := 26) rfl)) (by decide) rfl E18 (rm4 l Z a0 hw [] b13 p4 z2 z12 T18.heap n0 Zs22 F18_1 F18_2) (by rw [hml]; rfl) [(.int p4)] [] rfl rfl (lenOf pd_2 rfl) 0 (Nat.le_of_eq rfl) (hb hby at_96) (by decide) (by decide) (by decide) (by decide) rfl ?_
  intro v33 T33 L33 X33 hQ33
  obtain ⟨r33, rfl, hr33, N33q, e33⟩ := hQ33
  have N33 := Fr.app N18 N33q
  show Go p e below s 16 128 (Q0 Z p1 p2 p3 p4 h0 n0) T33 (mkF m 99 #[.val (.int p1), .val (.int p2), .val (.int p3), .val (.int p4), .val (.int z1), .val (.int z2), .val (.long z5), .second, .val (.int z12), .val (.ref b13), .val (.long z25), .second, .val (.long z28), .second, .val (.int z31), .unset] [(.int r33)])
  refine g_iload 101 X33 hx (hb hby at_99) rfl (v := z31) rfl ?_
  suffices Jhj36 : ∀ (z35 : Int32), ((r33 = z31 ∧ z35 = (1 : Int32)) ∨ (¬ (r33 = z31) ∧ z35 = (0 : Int32))) → Go p e below s 16 128 (Q0 Z p1 p2 p3 p4 h0 n0) T33 (mkF m 109 #[.val (.int p1), .val (.int p2), .val (.int p3), .val (.int p4), .val (.int z1), .val (.int z2), .val (.long z5), .second, .val (.int z12), .val (.ref b13), .val (.long z25), .second, .val (.long z28), .second, .val (.int z31), .unset] [(.int z35)]) by
    by_cases hc101_33 : r33 = z31
    ·
      refine g_icmpNo 104 X33 hx (hb hby at_101)  (teq hc101_33).2 rfl ?_
      refine g_iconst 105 X33 hx (hb hby at_104) rfl (z := (1 : Int32)) rfl ?_
      refine g_goto 109 X33 hx (hb hby at_105) (by decide) (by decide) ?_
      exact Jhj36 (1 : Int32) (Or.inl ⟨hc101_33, rfl⟩)
    ·
      refine g_icmpYes 108 X33 hx (hb hby at_101)  (feq hc101_33).2 (by decide) (by decide) ?_
      refine g_iconst 109 X33 hx (hb hby at_108) rfl (z := (0 : Int32)) rfl ?_
      exact Jhj36 (0 : Int32) (Or.inr (⟨hc101_33, rfl⟩))
  intro z35 hj36
  refine g_istore 111 X33 hx (hb hby at_109) rfl (Ls' := #[.val (.int p1), .val (.int p2), .val (.int p3), .val (.int p4), .val (.int z1), .val (.int z2), .val (.long z5), .second, .val (.int z12), .val (.ref b13), .val (.long z25), .second, .val (.long z28), .second, .val (.int z31), .val (.int z35)]) rfl ?_
  refine g_iload 113 X33 hx (hb hby at_111) rfl (v := z35) rfl ?_
  have hc113_36 : ¬ (z35 = (0 : Int32)) := (ask0_4 p1 p2 p3 p4 z1 z2 z5 z12 z23 z24 z25 z26 z27 z28 z31 r33 z35 hB hz23 hz24 hz25 hz26 hz27 hz28 hj32 hr33 hj36)
  refine g_ifNo 116 X33 hx (hb hby at_113)  ((if0 _ _).trans (feq hc113_36).1) rfl ?_
  refine g_aload 118 X33 hx (hb hby at_116) rfl (v := (.ref b13)) rfl rfl ?_
  refine g_iload 120 X33 hx (hb hby at_118) rfl (v := z2) rfl ?_
  refine g_callV 123 X33 hx hZ (y := (⟨"com/example/bar_visibility/barvisibility/Bar", "covers", "(I)Z"⟩ : MethodName)) hown (hw _ (List.mem_of_getElem? (i := 22) rfl)) (hw _ (List.mem_of_getElem? (i := 23) rfl)) (hw _ (List.mem_of_getElem? (i := 25) rfl)) (hw _ (List.mem_of_getElem? (i := 24) rfl)) (hw _ (List.mem_of_getElem? (i := 4) rfl)) (hw _ (List.mem_of_getElem? (i := 26) rfl)) (by decide) e33 E18 (rm4 l Z a0 hw [] b13 z2 z2 z12 T18.heap n0 Zs22 F18_1 F18_2) (by rw [hml]; rfl) [(.int z2)] [] rfl rfl (lenOf pd_2 rfl) 0 (Nat.le_of_eq rfl) (hb hby at_120) (by decide) (by decide) (by decide) (by decide) rfl ?_
  intro v38 T38 L38 X38 hQ38
  obtain ⟨r38, rfl, hr38, N38q, e38⟩ := hQ38
  have N38 := Fr.app N33 N38q
  show Go p e below s 16 128 (Q0 Z p1 p2 p3 p4 h0 n0) T38 (mkF m 123 #[.val (.int p1), .val (.int p2), .val (.int p3), .val (.int p4), .val (.int z1), .val (.int z2), .val (.long z5), .second, .val (.int z12), .val (.ref b13), .val (.long z25), .second, .val (.long z28), .second, .val (.int z31), .val (.int z35)] [(.int r38)])
  have hc123_38 : ¬ (r38 = (0 : Int32)) := (ask0_5 p1 p2 p3 p4 z1 z2 z5 z12 z25 z28 z31 z35 r38 hB hr38)
  refine g_ifNo 126 X38 hx (hb hby at_123)  ((if0 _ _).trans (feq hc123_38).1) rfl ?_
  refine g_iconst 127 X38 hx (hb hby at_126) rfl (z := (1 : Int32)) rfl ?_
  refine g_goto 131 X38 hx (hb hby at_127) (by decide) (by decide) ?_
  refine g_istore 133 X38 hx (hb hby at_131) rfl (Ls' := #[.val (.int p1), .val (.int p2), .val (.int p3), .val (.int p4), .val (.int z1), .val (.int z2), .val (.long z5), .second, .val (.int z12), .val (.ref b13), .val (.long z25), .second, .val (.long z28), .second, .val (.int z31), .val (.int (1 : Int32))]) rfl ?_
  refine g_iload 135 X38 hx (hb hby at_133) rfl (v := (1 : Int32)) rfl ?_
  refine g_ifNo 138 X38 hx (hb hby at_135)  ((if0 _ _).trans (feq (by decide : ¬ ((1 : Int32) = (0 : Int32)))).1) rfl ?_
  refine g_aload 140 X38 hx (hb hby at_138) rfl (v := (.ref b13)) rfl rfl ?_
  refine g_iload 142 X38 hx (hb hby at_140) rfl (v := z12) rfl ?_
  refine g_callV 145 X38 hx hZ (y := (⟨"com/example/bar_visibility/barvisibility/Bar", "covers", "(I)Z"⟩ : MethodName)) hown (hw _ (List.mem_of_getElem? (i := 22) rfl)) (hw _ (List.mem_of_getElem? (i := 23) rfl)) (hw _ (List.mem_of_getElem? (i := 25) rfl)) (hw _ (List.mem_of_getElem? (i := 24) rfl)) (hw _ (List.mem_of_getElem? (i := 4) rfl)) (hw _ (List.mem_of_getElem? (i := 26) rfl)) (by decide) e38 E18 (rm4 l Z a0 hw [] b13 z12 z2 z12 T18.heap n0 Zs22 F18_1 F18_2) (by rw [hml]; rfl) [(.int z12)] [] rfl rfl (lenOf pd_2 rfl) 0 (Nat.le_of_eq rfl) (hb hby at_142) (by decide) (by decide) (by decide) (by decide) rfl ?_
  intro v40 T40 L40 X40 hQ40
  obtain ⟨r40, rfl, hr40, N40q, e40⟩ := hQ40
  have N40 := Fr.app N38 N40q
  show Go p e below s 16 128 (Q0 Z p1 p2 p3 p4 h0 n0) T40 (mkF m 145 #[.val (.int p1), .val (.int p2), .val (.int p3), .val (.int p4), .val (.int z1), .val (.int z2), .val (.long z5), .second, .val (.int z12), .val (.ref b13), .val (.long z25), .second, .val (.long z28), .second, .val (.int z31), .val (.int (1 : Int32))] [(.int r40)])
  have hc145_40 : ¬ (r40 = (0 : Int32)) := (ask0_6 p1 p2 p3 p4 z1 z2 z5 z12 z25 z28 z31 r40 hB hr40)
  refine g_ifNo 148 X40 hx (hb hby at_145)  ((if0 _ _).trans (feq hc145_40).1) rfl ?_
  refine g_iconst 149 X40 hx (hb hby at_148) rfl (z := (1 : Int32)) rfl ?_
  refine g_goto 153 X40 hx (hb hby at_149) (by decide) (by decide) ?_
  refine g_istore 155 X40 hx (hb hby at_153) rfl (Ls' := #[.val (.int p1), .val (.int p2), .val (.int p3), .val (.int p4), .val (.int z1), .val (.int z2), .val (.long z5), .second, .val (.int z12), .val (.ref b13), .val (.long z25), .second, .val (.long z28), .second, .val (.int z31), .val (.int (1 : Int32))]) rfl ?_
  refine g_iload 157 X40 hx (hb hby at_155) rfl (v := z2) rfl ?_
  by_cases hc157_41 : (0 : Int32) < z2
  ·
    refine g_ifNo 160 X40 hx (hb hby at_157)  ((if0 _ _).trans (tlt hc157_41).2.2.2) rfl ?_
    refine g_iload 162 X40 hx (hb hby at_160) rfl (v := (1 : Int32)) rfl ?_
    refine g_ifNo 165 X40 hx (hb hby at_162)  ((if0 _ _).trans (feq (by decide : ¬ ((1 : Int32) = (0 : Int32)))).1) rfl ?_
    refine g_aload 167 X40 hx (hb hby at_165) rfl (v := (.ref b13)) rfl rfl ?_
    refine g_iload 169 X40 hx (hb hby at_167) rfl (v := z2) rfl ?_
    refine g_iconst 170 X40 hx (hb hby at_169) rfl (z := (1 : Int32)) rfl ?_
    obtain ⟨z43, hz43⟩ : ∃ z : Int32, z2 - (1 : Int32) = z := ⟨_, rfl⟩
    refine g_isub 171 X40 hx (hb hby at_170) rfl (z := z43) hz43 ?_
    refine g_callV 174 X40 hx hZ (y := (⟨"com/example/bar_visibility/barvisibility/Bar", "covers", "(I)Z"⟩ : MethodName)) hown (hw _ (List.mem_of_getElem? (i := 22) rfl)) (hw _ (List.mem_of_getElem? (i := 23) rfl)) (hw _ (List.mem_of_getElem? (i := 25) rfl)) (hw _ (List.mem_of_getElem? (i := 24) rfl)) (hw _ (List.mem_of_getElem? (i := 4) rfl)) (hw _ (List.mem_of_getElem? (i := 26) rfl)) (by decide) e40 E18 (rm4 l Z a0 hw [] b13 z43 z2 z12 T18.heap n0 Zs22 F18_1 F18_2) (by rw [hml]; rfl) [(.int z43)] [] rfl rfl (lenOf pd_2 rfl) 0 (Nat.le_of_eq rfl) (hb hby at_171) (by decide) (by decide) (by decide) (by decide) rfl ?_
    intro v44 T44 L44 X44 hQ44
    obtain ⟨r44, rfl, hr44, N44q, e44⟩ := hQ44
    have N44 := Fr.app N40 N44q
    show Go p e below s 16 128 (Q0 Z p1 p2 p3 p4 h0 n0) T44 (mkF m 174 #[.val (.int p1), .val (.int p2), .val (.int p3), .val (.int p4), .val (.int z1), .val (.int z2), .val (.long z5), .second, .val (.int z12), .val (.ref b13), .val (.long z25), .second, .val (.long z28), .second, .val (.int z31), .val (.int (1 : Int32))] [(.int r44)])
    have hc174_44 : r44 = (0 : Int32) := (ask0_7 p1 p2 p3 p4 z1 z2 z5 z12 z25 z28 z31 z43 r44 hB hc157_41 hz43 hr44)
    refine g_ifNo 177 X44 hx (hb hby at_174)  ((if0 _ _).trans (teq hc174_44).2) rfl ?_
    refine g_iconst 178 X44 hx (hb hby at_177) rfl (z := (1 : Int32)) rfl ?_
    refine g_goto 182 X44 hx (hb hby at_178) (by decide) (by decide) ?_
    refine g_istore 184 X44 hx (hb hby at_182) rfl (Ls' := #[.val (.int p1), .val (.int p2), .val (.int p3), .val (.int p4), .val (.int z1), .val (.int z2), .val (.long z5), .second, .val (.int z12), .val (.ref b13), .val (.long z25), .second, .val (.long z28), .second, .val (.int z31), .val (.int (1 : Int32))]) rfl ?_
    refine g_iload 186 X44 hx (hb hby at_184) rfl (v := z12) rfl ?_
    refine g_ldc 188 X44 hx hZ hown (hw _ (List.mem_of_getElem? (i := 0) rfl)) (hb hby at_186) rfl ?_
    by_cases hc188_45 : z12 < (2147483647 : Int32)
    ·
      refine g_icmpNo 191 X44 hx (hb hby at_188)  (tlt hc188_45).2.1 rfl ?_
      refine g_iload 193 X44 hx (hb hby at_191) rfl (v := (1 : Int32)) rfl ?_
      refine g_ifNo 196 X44 hx (hb hby at_193)  ((if0 _ _).trans (feq (by decide : ¬ ((1 : Int32) = (0 : Int32)))).1) rfl ?_
      refine g_aload 198 X44 hx (hb hby at_196) rfl (v := (.ref b13)) rfl rfl ?_
      refine g_iload 200 X44 hx (hb hby at_198) rfl (v := z12) rfl ?_
      refine g_iconst 201 X44 hx (hb hby at_200) rfl (z := (1 : Int32)) rfl ?_
      obtain ⟨z47, hz47⟩ : ∃ z : Int32, z12 + (1 : Int32) = z := ⟨_, rfl⟩
      refine g_iadd 202 X44 hx (hb hby at_201) rfl (z := z47) hz47 ?_
      refine g_callV 205 X44 hx hZ (y := (⟨"com/example/bar_visibility/barvisibility/Bar", "covers", "(I)Z"⟩ : MethodName)) hown (hw _ (List.mem_of_getElem? (i := 22) rfl)) (hw _ (List.mem_of_getElem? (i := 23) rfl)) (hw _ (List.mem_of_getElem? (i := 25) rfl)) (hw _ (List.mem_of_getElem? (i := 24) rfl)) (hw _ (List.mem_of_getElem? (i := 4) rfl)) (hw _ (List.mem_of_getElem? (i := 26) rfl)) (by decide) e44 E18 (rm4 l Z a0 hw [] b13 z47 z2 z12 T18.heap n0 Zs22 F18_1 F18_2) (by rw [hml]; rfl) [(.int z47)] [] rfl rfl (lenOf pd_2 rfl) 0 (Nat.le_of_eq rfl) (hb hby at_202) (by decide) (by decide) (by decide) (by decide) rfl ?_
      intro v48 T48 L48 X48 hQ48
      obtain ⟨r48, rfl, hr48, N48q, e48⟩ := hQ48
      have N48 := Fr.app N44 N48q
      show Go p e below s 16 128 (Q0 Z p1 p2 p3 p4 h0 n0) T48 (mkF m 205 #[.val (.int p1), .val (.int p2), .val (.int p3), .val (.int p4), .val (.int z1), .val (.int z2), .val (.long z5), .second, .val (.int z12), .val (.ref b13), .val (.long z25), .second, .val (.long z28), .second, .val (.int z31), .val (.int (1 : Int32))] [(.int r48)])
      have hc205_48 : r48 = (0 : Int32) := (ask0_8 p1 p2 p3 p4 z1 z2 z5 z12 z25 z28 z31 z47 r48 hB hc157_41 hc188_45 hz47 hr48)
      refine g_ifNo 208 X48 hx (hb hby at_205)  ((if0 _ _).trans (teq hc205_48).2) rfl ?_
      refine g_iconst 209 X48 hx (hb hby at_208) rfl (z := (1 : Int32)) rfl ?_
      refine g_goto 213 X48 hx (hb hby at_209) (by decide) (by decide) ?_
      refine g_istore 215 X48 hx (hb hby at_213) rfl (Ls' := #[.val (.int p1), .val (.int p2), .val (.int p3), .val (.int p4), .val (.int z1), .val (.int z2), .val (.long z5), .second, .val (.int z12), .val (.ref b13), .val (.long z25), .second, .val (.long z28), .second, .val (.int z31), .val (.int (1 : Int32))]) rfl ?_
      refine g_iload 217 X48 hx (hb hby at_215) rfl (v := (1 : Int32)) rfl ?_
      exact g_retN X48 hx (t := .boolean) Bd.returns hlk (by simp) rfl (hb hby at_217) (by decide) (by decide) ⟨rfl, N48⟩
    ·
      refine g_icmpYes 215 X44 hx (hb hby at_188)  (flt hc188_45).2.1 (by decide) (by decide) ?_
      refine g_iload 217 X44 hx (hb hby at_215) rfl (v := (1 : Int32)) rfl ?_
      exact g_retN X44 hx (t := .boolean) Bd.returns hlk (by simp) rfl (hb hby at_217) (by decide) (by decide) ⟨rfl, N44⟩
  ·
    refine g_ifYes 184 X40 hx (hb hby at_157)  ((if0 _ _).trans (flt hc157_41).2.2.2) (by decide) (by decide) ?_
    refine g_iload 186 X40 hx (hb hby at_184) rfl (v := z12) rfl ?_
    refine g_ldc 188 X40 hx hZ hown (hw _ (List.mem_of_getElem? (i := 0) rfl)) (hb hby at_186) rfl ?_
    by_cases hc188_49 : z12 < (2147483647 : Int32)
    ·
      refine g_icmpNo 191 X40 hx (hb hby at_188)  (tlt hc188_49).2.1 rfl ?_
      refine g_iload 193 X40 hx (hb hby at_191) rfl (v := (1 : Int32)) rfl ?_
      refine g_ifNo 196 X40 hx (hb hby at_193)  ((if0 _ _).trans (feq (by decide : ¬ ((1 : Int32) = (0 : Int32)))).1) rfl ?_
      refine g_aload 198 X40 hx (hb hby at_196) rfl (v := (.ref b13)) rfl rfl ?_
      refine g_iload 200 X40 hx (hb hby at_198) rfl (v := z12) rfl ?_
      refine g_iconst 201 X40 hx (hb hby at_200) rfl (z := (1 : Int32)) rfl ?_
      obtain ⟨z51, hz51⟩ : ∃ z : Int32, z12 + (1 : Int32) = z := ⟨_, rfl⟩
      refine g_iadd 202 X40 hx (hb hby at_201) rfl (z := z51) hz51 ?_
      refine g_callV 205 X40 hx hZ (y := (⟨"com/example/bar_visibility/barvisibility/Bar", "covers", "(I)Z"⟩ : MethodName)) hown (hw _ (List.mem_of_getElem? (i := 22) rfl)) (hw _ (List.mem_of_getElem? (i := 23) rfl)) (hw _ (List.mem_of_getElem? (i := 25) rfl)) (hw _ (List.mem_of_getElem? (i := 24) rfl)) (hw _ (List.mem_of_getElem? (i := 4) rfl)) (hw _ (List.mem_of_getElem? (i := 26) rfl)) (by decide) e40 E18 (rm4 l Z a0 hw [] b13 z51 z2 z12 T18.heap n0 Zs22 F18_1 F18_2) (by rw [hml]; rfl) [(.int z51)] [] rfl rfl (lenOf pd_2 rfl) 0 (Nat.le_of_eq rfl) (hb hby at_202) (by decide) (by decide) (by decide) (by decide) rfl ?_
      intro v52 T52 L52 X52 hQ52
      obtain ⟨r52, rfl, hr52, N52q, e52⟩ := hQ52
      have N52 := Fr.app N40 N52q
      show Go p e below s 16 128 (Q0 Z p1 p2 p3 p4 h0 n0) T52 (mkF m 205 #[.val (.int p1), .val (.int p2), .val (.int p3), .val (.int p4), .val (.int z1), .val (.int z2), .val (.long z5), .second, .val (.int z12), .val (.ref b13), .val (.long z25), .second, .val (.long z28), .second, .val (.int z31), .val (.int (1 : Int32))] [(.int r52)])
      have hc205_52 : r52 = (0 : Int32) := (ask0_9 p1 p2 p3 p4 z1 z2 z5 z12 z25 z28 z31 z51 r52 hB hc157_41 hc188_49 hz51 hr52)
      refine g_ifNo 208 X52 hx (hb hby at_205)  ((if0 _ _).trans (teq hc205_52).2) rfl ?_
      refine g_iconst 209 X52 hx (hb hby at_208) rfl (z := (1 : Int32)) rfl ?_
      refine g_goto 213 X52 hx (hb hby at_209) (by decide) (by decide) ?_
      refine g_istore 215 X52 hx (hb hby at_213) rfl (Ls' := #[.val (.int p1), .val (.int p2), .val (.int p3), .val (.int p4), .val (.int z1), .val (.int z2), .val (.long z5), .second, .val (.int z12), .val (.ref b13), .val (.long z25), .second, .val (.long z28), .second, .val (.int z31), .val (.int (1 : Int32))]) rfl ?_
      refine g_iload 217 X52 hx (hb hby at_215) rfl (v := (1 : Int32)) rfl ?_
      exact g_retN X52 hx (t := .boolean) Bd.returns hlk (by simp) rfl (hb hby at_217) (by decide) (by decide) ⟨rfl, N52⟩
    ·
      refine g_icmpYes 215 X40 hx (hb hby at_188)  (flt hc188_49).2.1 (by decide) (by decide) ?_
      refine g_iload 217 X40 hx (hb hby at_215) rfl (v := (1 : Int32)) rfl ?_
      exact g_retN X40 hx (t := .boolean) Bd.returns hlk (by simp) rfl (hb hby at_217) (by decide) (by decide) ⟨rfl, N40⟩
set_option maxRecDepth 65536 in
set_option maxHeartbeats 40000000 in
theorem comes_1 {Post : Tables → Env → Array Value → State → Outcome → State → Prop} (hpost : ∀ tb e args s v u, (limb_1_1.after args s (.returned v) u = true ∧ limb_1_2.after args s (.returned v) u = true ∧ True) → FrameEnd s (.returned v) u (Jvm.fieldLocs frame_1_writes args s ++ Jvm.arrayLocs frame_1_arrays args s ++ Jvm.staticLocs frame_1_statics s) 16 128 → Post tb e args s (.returned v) u) :
    ArmFor flags0 classFile x code maxLocals ret World_1 tables_1 room_1 Calls_1 rest_1 Pre_1 Post := by
  intro l hfl _ _ p e ha hc hk s m args below hf hA hF happ hP
  obtain ⟨hcalls, hrest, hpre⟩ := hP
  obtain ⟨-, -, -, hnamed, -, -, -, hat⟩ := (Spec.applies_iff hf).mp happ
  obtain ⟨hg, hn⟩ := and_e (Cond.before_iff.mp (show (Jvm.Cond.and given_1 narrow_1).before args s = true from hpre))
  obtain ⟨hcount, r0⟩ := and_e hg
  obtain ⟨ga0, r1⟩ := and_e r0
  obtain ⟨ga1, r2⟩ := and_e r1
  obtain ⟨ga2, r3⟩ := and_e r2
  obtain ⟨w0, w1, w2, w3, rfl⟩ : ∃ w0 w1 w2 w3 : Value, args = #[w0, w1, w2, w3] := by
    have hs : args.size = 4 := by simpa [Cond.value, given_1] using hcount
    obtain ⟨L⟩ := args
    match L, hs with
    | [w0, w1, w2, w3], _ => exact ⟨w0, w1, w2, w3, rfl⟩
  have hw := fun d (hd : d ∈ tables_1) => atoms_spec (ws := Jvm.Cond.code x code maxLocals ret :: tables_1) hat d (List.mem_cons_of_mem _ hd)
  obtain ⟨i0, ei0⟩ := is_v ga0
  obtain rfl : w0 = (.int i0) := Option.some.inj ei0
  obtain ⟨i1, ei1⟩ := is_v ga1
  obtain rfl : w1 = (.int i1) := Option.some.inj ei1
  obtain ⟨i2, ei2⟩ := is_v ga2
  obtain rfl : w2 = (.int i2) := Option.some.inj ei2
  obtain ⟨i3, ei3⟩ := is_v r3
  obtain rfl : w3 = (.int i3) := Option.some.inj ei3
  obtain ⟨n, o, h1, h2, h3, _, L, rfl, ⟨rfl, N⟩, hq⟩ := rm0 l s _ hw tables_1 i0 i1 i2 i3 s.heap s.heap.size (Nat.le_refl _)  p e ha hc hk s m _ below hf ((Spec.applies_iff_loose hf).mp happ).1 ⟨rfl, State.Warmed39.refl s, rfl⟩ trivial
  exact ⟨n, _, h1, h2, h3, hpost _ _ _ _ _ _ ⟨Cond.after_iff.mpr rfl, Cond.after_iff.mpr (eq_i res_at (Term.int_eval (1)) rfl), trivial⟩ ⟨hq.1, hq.2.1, (hq.2.2.sift fun y hy => Or.inr (N y hy)).mono (by decide) (by decide)⟩⟩
theorem main_1_1 : Claimed_1_1 := comes_1 fun _ _ _ _ _ _ h hF => ⟨h.1, hF⟩
theorem main_1_2 : Claimed_1_2 := comes_1 fun _ _ _ _ _ _ h hF => ⟨h.2.1, hF⟩
end Jvm.Pilot.@@N@@
namespace Jvm.Pilot.@@N@@
open Jvm Jvm.ClassFile Sem Op Lib Jvm.Free Jvm.Stand Jvm.Pilot.@@N@@.Jvm.D
/-! MADE BY PROGRAM (witnessworld.py) out of the Statement's table words and the real class files: 10 classes; the members and pool entries that the words name. The judged class is class 1, her method 1. -/
namespace start1
open Jvm.ClassFile
def u (s : String) : CpInfo := .utf8 (stringToUtf16 s)
/-- a pool by its gaps: so many unusable entries, then the entry; so many at the end -/
def gap : Nat → List CpInfo → List CpInfo
  | 0, r => r
  | n + 1, r => .unusable :: gap n r
def poolList (es : List (Nat × CpInfo)) (last : Nat) : List CpInfo := es.foldr (fun e r => gap e.1 (e.2 :: r)) (gap last [])
def pool (es : List (Nat × CpInfo)) (last : Nat) : Array CpInfo := ⟨poolList es last⟩
def fileOf (pool : Array CpInfo) (this : Nat) (attrs : Array Attribute := #[]) (ms : Array MethodInfo := #[]) (fl : Nat := 33) (sup : Nat := 0) (ifs : Array Nat := #[]) (fds : Array FieldInfo := #[]) : ClassFile where
  minorVersion := 0
  majorVersion := 65
  constantPool := pool
  accessFlags := fl
  thisClass := this
  superClass := sup
  interfaces := ifs
  fields := fds
  methods := ms
  attributes := attrs
def plain (name : String) (sup : Option ClassId) : Class where
  name := name
  kind := .ordinary
  loader := none
  accessFlags := 33
  super := sup
  interfaces := #[]
  cf := none
  fields := #[]
  methods := #[]
  instanceTypes := #[]
  staticTypes := #[]
  resolved := #[]
  callSites := []
  init := .initialized
  statics := none
  mirror := none

def pool0 : Array CpInfo := pool [(5, u "<init>"), (0, u "()V"), (1, .class_ 10), (1, u "java/lang/Object")] 113

def k0c0 : Code := { maxStack := 0, maxLocals := 1, code := object_method_1_code, exceptionTable := #[], attributes := #[] }
def k0m0 : Method := { name := "<init>", desc := "()V", sig := { parameters := [], returnType := none }, accessFlags := 1, code := some k0c0 }
/-- java/lang/Object -/
def k0 : Class := { plain "java/lang/Object" none with
  accessFlags := 33
  interfaces := #[]
  cf := some (fileOf pool0 8 #[] #[{ accessFlags := 1, nameIndex := 5, descriptorIndex := 6, attributes := #[] }] 33 0 #[] #[])
  fields := #[]
  methods := #[k0m0]
  instanceTypes := #[]
  staticTypes := #[]
  resolved := Array.replicate 124 none
  statics := none }

def pool1 : Array CpInfo := pool [(2, .class_ 4), (1, u "java/lang/Object"), (0, u "<init>"), (0, u "()V"), (0, .integer 2147483647), (2, .long 2147483647), (1, .class_ 13), (0, u "com/example/bar_visibility/barvisibility/Bar"), (0, .methodref 12 15), (0, .nameAndType 5 16), (0, u "(III)V"), (0, .methodref 12 18), (0, .nameAndType 19 20), (0, u "covers"), (0, u "(I)Z"), (0, .class_ 22), (0, u "com/example/bar_visibility/barvisibility/BarCoversPinLaw"), (2, u "law"), (0, u "(IIII)Z")] 3

def k1m0 : Method := { name := "<init>", desc := "()V", sig := { parameters := [], returnType := none }, accessFlags := 2, code := none }
def k1c1 : Code := { maxStack := 6, maxLocals := 16, code := code, exceptionTable := #[], attributes := #[] }
def k1m1 : Method := { name := "law", desc := "(IIII)Z", sig := { parameters := [.int, .int, .int, .int], returnType := some .boolean }, accessFlags := 9, code := some k1c1 }
/-- com/example/bar_visibility/barvisibility/BarCoversPinLaw -/
def k1 : Class := { plain "com/example/bar_visibility/barvisibility/BarCoversPinLaw" (some 0) with
  accessFlags := 49
  interfaces := #[]
  cf := some (fileOf pool1 21 #[] #[{ accessFlags := 2, nameIndex := 5, descriptorIndex := 6, attributes := #[] }, { accessFlags := 9, nameIndex := 25, descriptorIndex := 26, attributes := #[] }] 49 2 #[] #[])
  fields := #[]
  methods := #[k1m0, k1m1]
  instanceTypes := #[]
  staticTypes := #[]
  resolved := Array.replicate 30 none
  statics := none }

def pool2 : Array CpInfo := pool [(1, .methodref 2 3), (0, .class_ 4), (0, .nameAndType 5 6), (0, u "java/lang/Object"), (0, u "<init>"), (0, u "()V"), (0, .class_ 8), (0, u "java/lang/Record")] 13

def k2c0 : Code := { maxStack := 1, maxLocals := 1, code := jdk_30_method_1_code, exceptionTable := #[], attributes := #[] }
def k2m0 : Method := { name := "<init>", desc := "()V", sig := { parameters := [], returnType := none }, accessFlags := 4, code := some k2c0 }
/-- java/lang/Record -/
def k2 : Class := { plain "java/lang/Record" (some 0) with
  accessFlags := 1057
  interfaces := #[]
  cf := some (fileOf pool2 7 #[] #[{ accessFlags := 4, nameIndex := 5, descriptorIndex := 6, attributes := #[] }] 1057 2 #[] #[])
  fields := #[]
  methods := #[k2m0]
  instanceTypes := #[]
  staticTypes := #[]
  resolved := Array.replicate 22 none
  statics := none }

def pool3 : Array CpInfo := pool [(1, .methodref 2 3), (0, .class_ 4), (0, .nameAndType 5 6), (0, u "java/lang/Record"), (0, u "<init>"), (0, u "()V"), (12, .fieldref 20 21), (0, .class_ 22), (0, .nameAndType 23 24), (0, u "com/example/bar_visibility/barvisibility/Bar"), (0, u "y"), (0, u "I"), (0, .fieldref 20 26), (0, .nameAndType 27 24), (0, u "x1"), (0, .fieldref 20 29), (0, .nameAndType 30 24), (0, u "x2"), (12, u "(III)V"), (4, u "covers"), (0, u "(I)Z")] 37

def k3c0 : Code := { maxStack := 5, maxLocals := 4, code := prog_2_method_1_code, exceptionTable := #[], attributes := #[] }
def k3m0 : Method := { name := "<init>", desc := "(III)V", sig := { parameters := [.int, .int, .int], returnType := none }, accessFlags := 1, code := some k3c0 }
def k3c1 : Code := { maxStack := 2, maxLocals := 2, code := prog_2_method_2_code, exceptionTable := #[], attributes := #[] }
def k3m1 : Method := { name := "covers", desc := "(I)Z", sig := { parameters := [.int], returnType := some .boolean }, accessFlags := 1, code := some k3c1 }
/-- com/example/bar_visibility/barvisibility/Bar -/
def k3 : Class := { plain "com/example/bar_visibility/barvisibility/Bar" (some 2) with
  accessFlags := 49
  interfaces := #[]
  cf := some (fileOf pool3 20 #[] #[{ accessFlags := 1, nameIndex := 5, descriptorIndex := 43, attributes := #[] }, { accessFlags := 1, nameIndex := 48, descriptorIndex := 49, attributes := #[] }] 49 2 #[] #[{ accessFlags := 18, nameIndex := 23, descriptorIndex := 24, attributes := #[] }, { accessFlags := 18, nameIndex := 27, descriptorIndex := 24, attributes := #[] }, { accessFlags := 18, nameIndex := 30, descriptorIndex := 24, attributes := #[] }])
  fields := #[{ name := "y", type := .int, accessFlags := 18, slot := 0, constantValue := 0 }, { name := "x1", type := .int, accessFlags := 18, slot := 1, constantValue := 0 }, { name := "x2", type := .int, accessFlags := 18, slot := 2, constantValue := 0 }]
  methods := #[k3m0, k3m1]
  instanceTypes := #[.int, .int, .int]
  staticTypes := #[]
  resolved := Array.replicate 87 none
  statics := none }

def pool4 : Array CpInfo := pool [(1, u "java/lang/Cloneable"), (0, .class_ 1), (0, u "java/lang/Object"), (0, .class_ 3)] 3

/-- java/lang/Cloneable -/
def k4 : Class := { plain "java/lang/Cloneable" (some 0) with
  accessFlags := 1537
  interfaces := #[]
  cf := some (fileOf pool4 2 #[] #[] 1537 4 #[] #[])
  fields := #[]
  methods := #[]
  instanceTypes := #[]
  staticTypes := #[]
  resolved := Array.replicate 8 none
  statics := none }

def pool5 : Array CpInfo := pool [(1, u "java/io/Serializable"), (0, .class_ 1), (0, u "java/lang/Object"), (0, .class_ 3)] 3

/-- java/io/Serializable -/
def k5 : Class := { plain "java/io/Serializable" (some 0) with
  accessFlags := 1537
  interfaces := #[]
  cf := some (fileOf pool5 2 #[] #[] 1537 4 #[] #[])
  fields := #[]
  methods := #[]
  instanceTypes := #[]
  staticTypes := #[]
  resolved := Array.replicate 8 none
  statics := none }

/-- the primitive byte -/
def k6 : Class := { plain "byte" none with kind := .primitive 'B', accessFlags := 0x411 }
/-- [B -/
def k7 : Class := { plain "[B" (some 0) with kind := .array 6 .byte, interfaces := #[4, 5], accessFlags := 1041 }

/-- the primitive int -/
def k8 : Class := { plain "int" none with kind := .primitive 'I', accessFlags := 0x411 }
/-- [I -/
def k9 : Class := { plain "[I" (some 0) with kind := .array 8 .int, interfaces := #[4, 5], accessFlags := 1041 }

def heap : Heap := #[]
def classes : Array Class := #[k0, k1, k2, k3, k4, k5, k6, k7, k8, k9]
def interned : List (Array UInt16 × Addr) := []
def slotsUsed : Nat := 0
def theMethod : MethodId := ⟨1, 1⟩
def args0 : Array Value := #[.int 5, .int 7, .int 9, .int 11]
def aboutOver (below : List Frame) : State where
  vm := { classes := classes, interned := interned.toArray }
  heap := heap
  slotsUsed := slotsUsed
  threads := #[{ frames := .invoking theMethod args0 :: below }]
def below0 : List Frame := [.native { method := ⟨0, 0⟩, args := #[] }]
def about1 : State := aboutOver below0
def p0 : Program := .bare "" "" ""
def e0 : Env := launch0.env 0 0 0
theorem w_frames : about1.frames = Frame.invoking theMethod args0 :: below0 := rfl
set_option maxRecDepth 65536 in
theorem w_args : argsFit about1.vm theMethod args0 = true := by decide +kernel
set_option maxRecDepth 65536 in
theorem w_heap : heapFits about1 = true := by decide +kernel
set_option maxRecDepth 65536 in
theorem w_runnable : about1.curStatus? = some .runnable := by decide +kernel
set_option maxRecDepth 65536 in
theorem w_alone : about1.alone = true := by decide +kernel
set_option maxRecDepth 65536 in
theorem w_named : about1.methodNamed? x = some theMethod := by decide +kernel
set_option maxRecDepth 65536 in
theorem w_hears : about1.hears theMethod below0 = true := by decide +kernel
set_option maxRecDepth 65536 in
theorem w_ripe : about1.ripe theMethod args0 below0 = true := by decide +kernel
theorem w_running : about1.status = .running := rfl
set_option maxRecDepth 65536 in
theorem w_room : about1.hasRoom e0.platform room_1 = true :=
  launch0.hasRoom_least _ room_1 (by decide +kernel) (by decide +kernel) (by decide +kernel) (by decide +kernel) (by decide +kernel) (by decide +kernel)
theorem allAtoms_all (ts : List Jvm.Cond) (a : Array Jvm.Value) (st : Jvm.State) : (allAtoms ts).before a st = ts.all (fun c => c.before a st) := by
  induction ts with
  | nil => rfl
  | cons c t ih =>
    show (Jvm.Cond.and c (allAtoms t)).before a st = _
    rw [Jvm.Cond.before_and, ih, List.all_cons]
def words1 : List Jvm.Cond := Jvm.Cond.code x code maxLocals ret :: tables_1
/-- a 'code' word, met by the world's own term for the bytes: nothing is compared byte by byte -/
theorem code_word {y : MethodName} {bytes : ByteArray} {mx : Nat} {rt : Option FieldType} {a : Array Value} {s : State} {m : MethodId} {meth : Method} {c : Code} (h1 : s.methodNamed? y = some m) (h2 : s.vm.method? m = some meth) (h3 : meth.code = some c) (h4 : c.code = bytes)
    (h5 : (c.maxLocals == mx && c.exceptionTable.isEmpty && decide (c.maxStack ≤ mostOperands) && decide (meth.sig.returnType = rt) && !meth.locks && decide (parseMethodDescriptor y.desc = some meth.sig)) = true) : (Jvm.Cond.code y bytes mx rt).before a s = true := by
  simp only [Bool.and_eq_true, beq_iff_eq, Bool.not_eq_true', decide_eq_true_eq] at h5
  obtain ⟨⟨⟨⟨⟨g1, g2⟩, g3⟩, g4⟩, g5⟩, g6⟩ := h5
  simp [Cond.before, Cond.holds, Cond.value, h1, h2, h3, h4, g1, g2, g3, g4, g5, g6]
def isCode : Jvm.Cond → Bool
  | .code _ _ _ _ => true
  | _ => false
theorem all_split {L : List Jvm.Cond} {P : Jvm.Cond → Bool} (h1 : L.all (fun c => isCode c || P c) = true) (h2 : ∀ c ∈ L.filter isCode, P c = true) : L.all P = true := by
  refine List.all_eq_true.mpr fun c hc => ?_
  have h := List.all_eq_true.mp h1 c hc
  rcases Bool.eq_false_or_eq_true (isCode c) with hi | hi
  · exact h2 c (List.mem_filter.mpr ⟨hc, hi⟩)
  · simpa [hi] using h
set_option maxRecDepth 65536 in
theorem w_c0 : (Jvm.Cond.code x code maxLocals ret).before args0 about1 = true := code_word (m := ⟨1, 1⟩) (meth := k1m1) (c := k1c1) (by decide +kernel) rfl rfl rfl (by decide +kernel)
set_option maxRecDepth 65536 in
theorem w_c1 : (Jvm.Cond.code ({ cls := "com/example/bar_visibility/barvisibility/Bar", name := "<init>", desc := "(III)V" } : Jvm.MethodName) prog_2_method_1_code (4 : Nat) (Option.none : Option Jvm.ClassFile.FieldType)).before args0 about1 = true := code_word (m := ⟨3, 0⟩) (meth := k3m0) (c := k3c0) (by decide +kernel) rfl rfl rfl (by decide +kernel)
set_option maxRecDepth 65536 in
theorem w_c2 : (Jvm.Cond.code ({ cls := "java/lang/Record", name := "<init>", desc := "()V" } : Jvm.MethodName) jdk_30_method_1_code (1 : Nat) (Option.none : Option Jvm.ClassFile.FieldType)).before args0 about1 = true := code_word (m := ⟨2, 0⟩) (meth := k2m0) (c := k2c0) (by decide +kernel) rfl rfl rfl (by decide +kernel)
set_option maxRecDepth 65536 in
theorem w_c3 : (Jvm.Cond.code ({ cls := "java/lang/Object", name := "<init>", desc := "()V" } : Jvm.MethodName) object_method_1_code (1 : Nat) (Option.none : Option Jvm.ClassFile.FieldType)).before args0 about1 = true := code_word (m := ⟨0, 0⟩) (meth := k0m0) (c := k0c0) (by decide +kernel) rfl rfl rfl (by decide +kernel)
set_option maxRecDepth 65536 in
theorem w_c4 : (Jvm.Cond.code ({ cls := "com/example/bar_visibility/barvisibility/Bar", name := "covers", desc := "(I)Z" } : Jvm.MethodName) prog_2_method_2_code (2 : Nat) (Option.some Jvm.ClassFile.FieldType.boolean)).before args0 about1 = true := code_word (m := ⟨3, 1⟩) (meth := k3m1) (c := k3c1) (by decide +kernel) rfl rfl rfl (by decide +kernel)
def codes1 : List Jvm.Cond := [Jvm.Cond.code x code maxLocals ret, Jvm.Cond.code ({ cls := "com/example/bar_visibility/barvisibility/Bar", name := "<init>", desc := "(III)V" } : Jvm.MethodName) prog_2_method_1_code (4 : Nat) (Option.none : Option Jvm.ClassFile.FieldType), Jvm.Cond.code ({ cls := "java/lang/Record", name := "<init>", desc := "()V" } : Jvm.MethodName) jdk_30_method_1_code (1 : Nat) (Option.none : Option Jvm.ClassFile.FieldType), Jvm.Cond.code ({ cls := "java/lang/Object", name := "<init>", desc := "()V" } : Jvm.MethodName) object_method_1_code (1 : Nat) (Option.none : Option Jvm.ClassFile.FieldType), Jvm.Cond.code ({ cls := "com/example/bar_visibility/barvisibility/Bar", name := "covers", desc := "(I)Z" } : Jvm.MethodName) prog_2_method_2_code (2 : Nat) (Option.some Jvm.ClassFile.FieldType.boolean)]
set_option maxRecDepth 65536 in
theorem codes_eq : words1.filter isCode = codes1 := rfl
theorem w_codes : ∀ c ∈ words1.filter isCode, c.before args0 about1 = true := by
  rw [codes_eq]
  intro c hc
  simp only [codes1, List.mem_cons, List.not_mem_nil, or_false] at hc
  rcases hc with rfl | rfl | rfl | rfl | rfl
  · exact w_c0
  · exact w_c1
  · exact w_c2
  · exact w_c3
  · exact w_c4
set_option maxRecDepth 65536 in
theorem w_t1 : (words1.take 24).all (fun c => isCode c || c.before args0 about1) = true := by decide +kernel
set_option maxRecDepth 65536 in
theorem w_t2 : (words1.drop 24).all (fun c => isCode c || c.before args0 about1) = true := by decide +kernel
theorem w_tables : (allAtoms (Jvm.Cond.code x code maxLocals ret :: tables_1)).before args0 about1 = true := by
  rw [allAtoms_all]
  show words1.all (fun c => c.before args0 about1) = true
  refine all_split ?_ w_codes
  rw [← List.take_append_drop 24 words1, List.all_append, w_t1, w_t2]
  rfl
set_option maxRecDepth 65536 in
theorem w_case : (Jvm.Cond.and given_1 narrow_1).before args0 about1 = true := by decide +kernel
theorem w_applies : (headSpec (Jvm.Cond.code x code maxLocals ret :: tables_1) room_1).applies x e0.platform about1 = true :=
  (Spec.applies_iff w_frames).mpr ⟨w_running, w_runnable, w_alone, w_named, w_hears, w_ripe, w_room, w_tables⟩
theorem atStart : AtStart classFile x code maxLocals ret World_1 tables_1 room_1 Calls_1 rest_1 Pre_1 launch0 p0 e0 about1 theMethod args0 below0 :=
  ⟨lists_1, trivial, launch0.admits_env _ _ _, launch0.least_env, fairChoices_fair.cas, fairChoices_fair.clock, w_frames, w_args, w_heap, w_applies, trivial, trivial, w_case⟩
end start1
theorem witness_1 : WitnessClaimed_1 := ⟨start1.p0, start1.e0, start1.about1, start1.theMethod, start1.args0, start1.below0, start1.atStart⟩
end Jvm.Pilot.@@N@@
