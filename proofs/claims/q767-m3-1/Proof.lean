import JvmDerived
import JvmDerived.Pilot.@@N@@Statement
import JvmDerived.Pilot.@@N@@Code
set_option linter.unusedVariables false
set_option linter.unusedSimpArgs false
namespace Jvm.Pilot.@@N@@
open Jvm Jvm.ClassFile Sem Op Lib Jvm.Free Jvm.Stand Jvm.LawKit Jvm.RoadKit Bundle Jvm.Pilot.@@N@@.Jvm.D
section OwnKit
/-- the run goes on from here to the method's end; what it leaves is Q -/
def Go (p : Program) (e : Env) (below : List Frame) (s : State) (k n : Nat) (Q : Option Value → Heap → List Loc → Prop) (T : State) (g : JFrame) : Prop :=
  ∃ s₂ o, Steps p.tables e below (T.setTop g) s₂ ∧ s₂.status = .running ∧ Ended s₂ below o ∧ ∃ v L, o = .returned v ∧ Q v s₂.heap L ∧ FrameEnd s o s₂ L k n
variable {p : Program} {l : Launch} {e : Env} {R : Room} {s : State} {m : MethodId} {args : Array Value} {below : List Frame} {meth : Method} {c : Code} {T : State} {locs : List Loc} {cells slots : Nat} {k n : Nat} {Q : Option Value → Heap → List Loc → Prop} {pc : Nat} {Ls : Array Slot} {st : List Value} {Z : State} {a0 : Array Value} {h h' : Heap}
theorem Go.via {T' : State} {g g' : JFrame} (q : ∀ t, Steps p.tables e below (T'.setTop g') t → Steps p.tables e below (T.setTop g) t) (H : Go p e below s k n Q T' g') : Go p e below s k n Q T g := by
  obtain ⟨s₂, o, h1, r⟩ := H
  exact ⟨s₂, o, q _ h1, r⟩
theorem tltL {x y : Int64} (q : x < y) : ifCond.holds .lt (lcmpW x y) = true ∧ ifCond.holds .ge (lcmpW x y) = false ∧ ifCond.holds .gt (lcmpW y x) = true ∧ ifCond.holds .le (lcmpW y x) = false := by
  simp only [if0]
  exact ⟨(tlt ((lw_lt x y).mpr q)).1, (tlt ((lw_lt x y).mpr q)).2.1, (tlt ((lw_gt y x).mpr q)).2.2.1, (tlt ((lw_gt y x).mpr q)).2.2.2⟩
theorem fltL {x y : Int64} (q : ¬ x < y) : ifCond.holds .lt (lcmpW x y) = false ∧ ifCond.holds .ge (lcmpW x y) = true ∧ ifCond.holds .gt (lcmpW y x) = false ∧ ifCond.holds .le (lcmpW y x) = true := by
  simp only [if0]
  exact ⟨(flt (mt (lw_lt x y).mp q)).1, (flt (mt (lw_lt x y).mp q)).2.1, (flt (mt (lw_gt y x).mp q)).2.2.1, (flt (mt (lw_gt y x).mp q)).2.2.2⟩
theorem teqL {x y : Int64} (q : x = y) : ifCond.holds .eq (lcmpW x y) = true ∧ ifCond.holds .ne (lcmpW x y) = false := by
  simp only [if0]
  exact ⟨(teq ((lw_eq x y).mpr q)).1, (teq ((lw_eq x y).mpr q)).2⟩
theorem feqL {x y : Int64} (q : ¬ x = y) : ifCond.holds .eq (lcmpW x y) = false ∧ ifCond.holds .ne (lcmpW x y) = true := by
  simp only [if0]
  exact ⟨(feq (mt (lw_eq x y).mp q)).1, (feq (mt (lw_eq x y).mp q)).2⟩
theorem tlt0 {x y : Int32} (q : x < y) : (y = 0 → ifCond.holds .lt x = true ∧ ifCond.holds .ge x = false) ∧ (x = 0 → ifCond.holds .gt y = true ∧ ifCond.holds .le y = false) := by
  refine ⟨fun r => ?_, fun r => ?_⟩ <;> subst r <;> simp only [if0]
  · exact ⟨(tlt q).1, (tlt q).2.1⟩
  · exact ⟨(tlt q).2.2.1, (tlt q).2.2.2⟩
theorem g_iloadN (pc' : Nat) (X : Stand p l e R s m args below meth c T locs cells slots) (hx : p.tables.exec = Jvm.exec) {i : Fin 4} {v : Int32} (hd : decode c.code pc = .ok (.iload_n i, 1)) (hp : pc + 1 = pc') (hl : Ls[i.val]? = some (.val (.int v))) (H : Go p e below s k n Q T (mkF m pc' Ls (.int v :: st))) : Go p e below s k n Q T (mkF m pc Ls st) := by
  subst hp
  exact H.via fun t q => XS.iloadN X.here hx rfl hd hl q
theorem g_iload (pc' : Nat) (X : Stand p l e R s m args below meth c T locs cells slots) (hx : p.tables.exec = Jvm.exec) {i : Nat} {v : Int32} (hd : decode c.code pc = .ok (.iload i, 2)) (hp : pc + 2 = pc') (hl : Ls[i]? = some (.val (.int v))) (H : Go p e below s k n Q T (mkF m pc' Ls (.int v :: st))) : Go p e below s k n Q T (mkF m pc Ls st) := by
  subst hp
  exact H.via fun t q => XS.iload X.here hx rfl hd hl q
theorem g_istoreN (pc' : Nat) (X : Stand p l e R s m args below meth c T locs cells slots) (hx : p.tables.exec = Jvm.exec) {i : Fin 4} {v : Int32} {Ls' : Array Slot} (hd : decode c.code pc = .ok (.istore_n i, 1)) (hp : pc + 1 = pc') (hl : storeLocals Ls i.val (.int v) = some Ls') (H : Go p e below s k n Q T (mkF m pc' Ls' st)) : Go p e below s k n Q T (mkF m pc Ls (.int v :: st)) := by
  subst hp
  exact H.via fun t q => XS.istoreN X.here hx rfl hd rfl hl q
theorem g_istore (pc' : Nat) (X : Stand p l e R s m args below meth c T locs cells slots) (hx : p.tables.exec = Jvm.exec) {i : Nat} {v : Int32} {Ls' : Array Slot} (hd : decode c.code pc = .ok (.istore i, 2)) (hp : pc + 2 = pc') (hl : storeLocals Ls i (.int v) = some Ls') (H : Go p e below s k n Q T (mkF m pc' Ls' st)) : Go p e below s k n Q T (mkF m pc Ls (.int v :: st)) := by
  subst hp
  exact H.via fun t q => XS.istore X.here hx rfl hd rfl hl q
theorem g_lloadN (pc' : Nat) (X : Stand p l e R s m args below meth c T locs cells slots) (hx : p.tables.exec = Jvm.exec) {i : Fin 4} {v : Int64} (hd : decode c.code pc = .ok (.lload_n i, 1)) (hp : pc + 1 = pc') (hl : Ls[i.val]? = some (.val (.long v))) (H : Go p e below s k n Q T (mkF m pc' Ls (.long v :: st))) : Go p e below s k n Q T (mkF m pc Ls st) := by
  subst hp
  exact H.via fun t q => XS.lloadN X.here hx rfl hd hl q
theorem g_lload (pc' : Nat) (X : Stand p l e R s m args below meth c T locs cells slots) (hx : p.tables.exec = Jvm.exec) {i : Nat} {v : Int64} (hd : decode c.code pc = .ok (.lload i, 2)) (hp : pc + 2 = pc') (hl : Ls[i]? = some (.val (.long v))) (H : Go p e below s k n Q T (mkF m pc' Ls (.long v :: st))) : Go p e below s k n Q T (mkF m pc Ls st) := by
  subst hp
  exact H.via fun t q => XS.lload X.here hx rfl hd hl q
theorem g_lstoreN (pc' : Nat) (X : Stand p l e R s m args below meth c T locs cells slots) (hx : p.tables.exec = Jvm.exec) {i : Fin 4} {v : Int64} {Ls' : Array Slot} (hd : decode c.code pc = .ok (.lstore_n i, 1)) (hp : pc + 1 = pc') (hl : storeLocals Ls i.val (.long v) = some Ls') (H : Go p e below s k n Q T (mkF m pc' Ls' st)) : Go p e below s k n Q T (mkF m pc Ls (.long v :: st)) := by
  subst hp
  exact H.via fun t q => XS.lstoreN X.here hx rfl hd rfl hl q
theorem g_lstore (pc' : Nat) (X : Stand p l e R s m args below meth c T locs cells slots) (hx : p.tables.exec = Jvm.exec) {i : Nat} {v : Int64} {Ls' : Array Slot} (hd : decode c.code pc = .ok (.lstore i, 2)) (hp : pc + 2 = pc') (hl : storeLocals Ls i (.long v) = some Ls') (H : Go p e below s k n Q T (mkF m pc' Ls' st)) : Go p e below s k n Q T (mkF m pc Ls (.long v :: st)) := by
  subst hp
  exact H.via fun t q => XS.lstore X.here hx rfl hd rfl hl q
theorem g_aloadN (pc' : Nat) (X : Stand p l e R s m args below meth c T locs cells slots) (hx : p.tables.exec = Jvm.exec) {i : Fin 4} {v : Value} (hd : decode c.code pc = .ok (.aload_n i, 1)) (hp : pc + 1 = pc') (hl : Ls[i.val]? = some (.val v)) (hv : v.isRef = true) (H : Go p e below s k n Q T (mkF m pc' Ls (v :: st))) : Go p e below s k n Q T (mkF m pc Ls st) := by
  subst hp
  exact H.via fun t q => XS.aloadN X.here hx rfl hd hl hv q
theorem g_aload (pc' : Nat) (X : Stand p l e R s m args below meth c T locs cells slots) (hx : p.tables.exec = Jvm.exec) {i : Nat} {v : Value} (hd : decode c.code pc = .ok (.aload i, 2)) (hp : pc + 2 = pc') (hl : Ls[i]? = some (.val v)) (hv : v.isRef = true) (H : Go p e below s k n Q T (mkF m pc' Ls (v :: st))) : Go p e below s k n Q T (mkF m pc Ls st) := by
  subst hp
  exact H.via fun t q => XS.aload X.here hx rfl hd hl hv q
theorem g_astoreN (pc' : Nat) (X : Stand p l e R s m args below meth c T locs cells slots) (hx : p.tables.exec = Jvm.exec) {i : Fin 4} {v : Value} {Ls' : Array Slot} (hd : decode c.code pc = .ok (.astore_n i, 1)) (hp : pc + 1 = pc') (hv : v.isRef = true) (hl : storeLocals Ls i.val v = some Ls') (H : Go p e below s k n Q T (mkF m pc' Ls' st)) : Go p e below s k n Q T (mkF m pc Ls (v :: st)) := by
  subst hp
  exact H.via fun t q => XS.astoreN X.here hx rfl hd rfl hv hl q
theorem g_astore (pc' : Nat) (X : Stand p l e R s m args below meth c T locs cells slots) (hx : p.tables.exec = Jvm.exec) {i : Nat} {v : Value} {Ls' : Array Slot} (hd : decode c.code pc = .ok (.astore i, 2)) (hp : pc + 2 = pc') (hv : v.isRef = true) (hl : storeLocals Ls i v = some Ls') (H : Go p e below s k n Q T (mkF m pc' Ls' st)) : Go p e below s k n Q T (mkF m pc Ls (v :: st)) := by
  subst hp
  exact H.via fun t q => XS.astore X.here hx rfl hd rfl hv hl q
theorem g_iconst (pc' : Nat) (X : Stand p l e R s m args below meth c T locs cells slots) (hx : p.tables.exec = Jvm.exec) {i : Int} {z : Int32} (hd : decode c.code pc = .ok (.iconst i, 1)) (hp : pc + 1 = pc') (hz : Int32.ofInt i = z) (H : Go p e below s k n Q T (mkF m pc' Ls (.int z :: st))) : Go p e below s k n Q T (mkF m pc Ls st) := by
  subst hp hz
  exact H.via fun t q => XS.iconst X.here hx rfl hd q
theorem g_bipush (pc' : Nat) (X : Stand p l e R s m args below meth c T locs cells slots) (hx : p.tables.exec = Jvm.exec) {i : Int} {z : Int32} (hd : decode c.code pc = .ok (.bipush i, 2)) (hp : pc + 2 = pc') (hz : (Int8.ofInt i).toInt32 = z) (H : Go p e below s k n Q T (mkF m pc' Ls (.int z :: st))) : Go p e below s k n Q T (mkF m pc Ls st) := by
  subst hp hz
  exact H.via fun t q => XS.bipush X.here hx rfl hd q
theorem g_sipush (pc' : Nat) (X : Stand p l e R s m args below meth c T locs cells slots) (hx : p.tables.exec = Jvm.exec) {i : Int} {z : Int32} (hd : decode c.code pc = .ok (.sipush i, 3)) (hp : pc + 3 = pc') (hz : (Int16.ofInt i).toInt32 = z) (H : Go p e below s k n Q T (mkF m pc' Ls (.int z :: st))) : Go p e below s k n Q T (mkF m pc Ls st) := by
  subst hp hz
  exact H.via fun t q => XS.sipush X.here hx rfl hd q
theorem g_lconst (pc' : Nat) (X : Stand p l e R s m args below meth c T locs cells slots) (hx : p.tables.exec = Jvm.exec) {i : Fin 2} {z : Int64} (hd : decode c.code pc = .ok (.lconst i, 1)) (hp : pc + 1 = pc') (hz : Int64.ofNat i.val = z) (H : Go p e below s k n Q T (mkF m pc' Ls (.long z :: st))) : Go p e below s k n Q T (mkF m pc Ls st) := by
  subst hp hz
  exact H.via fun t q => XS.lconst X.here hx rfl hd q
theorem g_aconst_null (pc' : Nat) (X : Stand p l e R s m args below meth c T locs cells slots) (hx : p.tables.exec = Jvm.exec) (hd : decode c.code pc = .ok (.aconst_null, 1)) (hp : pc + 1 = pc')  (H : Go p e below s k n Q T (mkF m pc' Ls (.null :: st))) : Go p e below s k n Q T (mkF m pc Ls st) := by
  subst hp
  exact H.via fun t q => XS.aconstNull X.here hx rfl hd q
theorem g_iadd (pc' : Nat) (X : Stand p l e R s m args below meth c T locs cells slots) (hx : p.tables.exec = Jvm.exec) {x y z : Int32} (hd : decode c.code pc = .ok (.iadd, 1)) (hp : pc + 1 = pc') (hz : x + y = z) (H : Go p e below s k n Q T (mkF m pc' Ls (.int z :: st))) : Go p e below s k n Q T (mkF m pc Ls (.int y :: .int x :: st)) := by
  subst hp hz
  exact H.via fun t q => XS.iadd X.here hx rfl hd rfl q
theorem g_isub (pc' : Nat) (X : Stand p l e R s m args below meth c T locs cells slots) (hx : p.tables.exec = Jvm.exec) {x y z : Int32} (hd : decode c.code pc = .ok (.isub, 1)) (hp : pc + 1 = pc') (hz : x - y = z) (H : Go p e below s k n Q T (mkF m pc' Ls (.int z :: st))) : Go p e below s k n Q T (mkF m pc Ls (.int y :: .int x :: st)) := by
  subst hp hz
  exact H.via fun t q => XS.isub X.here hx rfl hd rfl q
theorem g_imul (pc' : Nat) (X : Stand p l e R s m args below meth c T locs cells slots) (hx : p.tables.exec = Jvm.exec) {x y z : Int32} (hd : decode c.code pc = .ok (.imul, 1)) (hp : pc + 1 = pc') (hz : x * y = z) (H : Go p e below s k n Q T (mkF m pc' Ls (.int z :: st))) : Go p e below s k n Q T (mkF m pc Ls (.int y :: .int x :: st)) := by
  subst hp hz
  exact H.via fun t q => XS.imul X.here hx rfl hd rfl q
theorem g_iand (pc' : Nat) (X : Stand p l e R s m args below meth c T locs cells slots) (hx : p.tables.exec = Jvm.exec) {x y z : Int32} (hd : decode c.code pc = .ok (.iand, 1)) (hp : pc + 1 = pc') (hz : x &&& y = z) (H : Go p e below s k n Q T (mkF m pc' Ls (.int z :: st))) : Go p e below s k n Q T (mkF m pc Ls (.int y :: .int x :: st)) := by
  subst hp hz
  exact H.via fun t q => XS.iand X.here hx rfl hd rfl q
theorem g_ior (pc' : Nat) (X : Stand p l e R s m args below meth c T locs cells slots) (hx : p.tables.exec = Jvm.exec) {x y z : Int32} (hd : decode c.code pc = .ok (.ior, 1)) (hp : pc + 1 = pc') (hz : x ||| y = z) (H : Go p e below s k n Q T (mkF m pc' Ls (.int z :: st))) : Go p e below s k n Q T (mkF m pc Ls (.int y :: .int x :: st)) := by
  subst hp hz
  exact H.via fun t q => XS.ior X.here hx rfl hd rfl q
theorem g_ixor (pc' : Nat) (X : Stand p l e R s m args below meth c T locs cells slots) (hx : p.tables.exec = Jvm.exec) {x y z : Int32} (hd : decode c.code pc = .ok (.ixor, 1)) (hp : pc + 1 = pc') (hz : x ^^^ y = z) (H : Go p e below s k n Q T (mkF m pc' Ls (.int z :: st))) : Go p e below s k n Q T (mkF m pc Ls (.int y :: .int x :: st)) := by
  subst hp hz
  exact H.via fun t q => XS.ixor X.here hx rfl hd rfl q
theorem g_ladd (pc' : Nat) (X : Stand p l e R s m args below meth c T locs cells slots) (hx : p.tables.exec = Jvm.exec) {x y z : Int64} (hd : decode c.code pc = .ok (.ladd, 1)) (hp : pc + 1 = pc') (hz : x + y = z) (H : Go p e below s k n Q T (mkF m pc' Ls (.long z :: st))) : Go p e below s k n Q T (mkF m pc Ls (.long y :: .long x :: st)) := by
  subst hp hz
  exact H.via fun t q => XS.ladd X.here hx rfl hd rfl q
theorem g_lsub (pc' : Nat) (X : Stand p l e R s m args below meth c T locs cells slots) (hx : p.tables.exec = Jvm.exec) {x y z : Int64} (hd : decode c.code pc = .ok (.lsub, 1)) (hp : pc + 1 = pc') (hz : x - y = z) (H : Go p e below s k n Q T (mkF m pc' Ls (.long z :: st))) : Go p e below s k n Q T (mkF m pc Ls (.long y :: .long x :: st)) := by
  subst hp hz
  exact H.via fun t q => XS.lsub X.here hx rfl hd rfl q
theorem g_lmul (pc' : Nat) (X : Stand p l e R s m args below meth c T locs cells slots) (hx : p.tables.exec = Jvm.exec) {x y z : Int64} (hd : decode c.code pc = .ok (.lmul, 1)) (hp : pc + 1 = pc') (hz : x * y = z) (H : Go p e below s k n Q T (mkF m pc' Ls (.long z :: st))) : Go p e below s k n Q T (mkF m pc Ls (.long y :: .long x :: st)) := by
  subst hp hz
  exact H.via fun t q => XS.lmul X.here hx rfl hd rfl q
theorem g_land (pc' : Nat) (X : Stand p l e R s m args below meth c T locs cells slots) (hx : p.tables.exec = Jvm.exec) {x y z : Int64} (hd : decode c.code pc = .ok (.land, 1)) (hp : pc + 1 = pc') (hz : x &&& y = z) (H : Go p e below s k n Q T (mkF m pc' Ls (.long z :: st))) : Go p e below s k n Q T (mkF m pc Ls (.long y :: .long x :: st)) := by
  subst hp hz
  exact H.via fun t q => XS.land X.here hx rfl hd rfl q
theorem g_lor (pc' : Nat) (X : Stand p l e R s m args below meth c T locs cells slots) (hx : p.tables.exec = Jvm.exec) {x y z : Int64} (hd : decode c.code pc = .ok (.lor, 1)) (hp : pc + 1 = pc') (hz : x ||| y = z) (H : Go p e below s k n Q T (mkF m pc' Ls (.long z :: st))) : Go p e below s k n Q T (mkF m pc Ls (.long y :: .long x :: st)) := by
  subst hp hz
  exact H.via fun t q => XS.lor X.here hx rfl hd rfl q
theorem g_lxor (pc' : Nat) (X : Stand p l e R s m args below meth c T locs cells slots) (hx : p.tables.exec = Jvm.exec) {x y z : Int64} (hd : decode c.code pc = .ok (.lxor, 1)) (hp : pc + 1 = pc') (hz : x ^^^ y = z) (H : Go p e below s k n Q T (mkF m pc' Ls (.long z :: st))) : Go p e below s k n Q T (mkF m pc Ls (.long y :: .long x :: st)) := by
  subst hp hz
  exact H.via fun t q => XS.lxor X.here hx rfl hd rfl q
theorem g_ishl (pc' : Nat) (X : Stand p l e R s m args below meth c T locs cells slots) (hx : p.tables.exec = Jvm.exec) {x y z : Int32} (hd : decode c.code pc = .ok (.ishl, 1)) (hp : pc + 1 = pc') (hz : x <<< (y &&& 31) = z) (H : Go p e below s k n Q T (mkF m pc' Ls (.int z :: st))) : Go p e below s k n Q T (mkF m pc Ls (.int y :: .int x :: st)) := by
  subst hp hz
  exact H.via fun t q => XS.ishl X.here hx rfl hd rfl q
theorem g_ishr (pc' : Nat) (X : Stand p l e R s m args below meth c T locs cells slots) (hx : p.tables.exec = Jvm.exec) {x y z : Int32} (hd : decode c.code pc = .ok (.ishr, 1)) (hp : pc + 1 = pc') (hz : x >>> (y &&& 31) = z) (H : Go p e below s k n Q T (mkF m pc' Ls (.int z :: st))) : Go p e below s k n Q T (mkF m pc Ls (.int y :: .int x :: st)) := by
  subst hp hz
  exact H.via fun t q => XS.ishr X.here hx rfl hd rfl q
theorem g_iushr (pc' : Nat) (X : Stand p l e R s m args below meth c T locs cells slots) (hx : p.tables.exec = Jvm.exec) {x y z : Int32} (hd : decode c.code pc = .ok (.iushr, 1)) (hp : pc + 1 = pc') (hz : (x.toUInt32 >>> (y &&& 31).toUInt32).toInt32 = z) (H : Go p e below s k n Q T (mkF m pc' Ls (.int z :: st))) : Go p e below s k n Q T (mkF m pc Ls (.int y :: .int x :: st)) := by
  subst hp hz
  exact H.via fun t q => XS.iushr X.here hx rfl hd rfl q
theorem g_lshl (pc' : Nat) (X : Stand p l e R s m args below meth c T locs cells slots) (hx : p.tables.exec = Jvm.exec) {x z : Int64} {y : Int32} (hd : decode c.code pc = .ok (.lshl, 1)) (hp : pc + 1 = pc') (hz : x <<< (y &&& 0x3f).toInt64 = z) (H : Go p e below s k n Q T (mkF m pc' Ls (.long z :: st))) : Go p e below s k n Q T (mkF m pc Ls (.int y :: .long x :: st)) := by
  subst hp hz
  exact H.via fun t q => XS.lshl X.here hx rfl hd rfl q
theorem g_lshr (pc' : Nat) (X : Stand p l e R s m args below meth c T locs cells slots) (hx : p.tables.exec = Jvm.exec) {x z : Int64} {y : Int32} (hd : decode c.code pc = .ok (.lshr, 1)) (hp : pc + 1 = pc') (hz : x >>> (y &&& 0x3f).toInt64 = z) (H : Go p e below s k n Q T (mkF m pc' Ls (.long z :: st))) : Go p e below s k n Q T (mkF m pc Ls (.int y :: .long x :: st)) := by
  subst hp hz
  exact H.via fun t q => XS.lshr X.here hx rfl hd rfl q
theorem g_lushr (pc' : Nat) (X : Stand p l e R s m args below meth c T locs cells slots) (hx : p.tables.exec = Jvm.exec) {x z : Int64} {y : Int32} (hd : decode c.code pc = .ok (.lushr, 1)) (hp : pc + 1 = pc') (hz : (x.toUInt64 >>> (y &&& 0x3f).toInt64.toUInt64).toInt64 = z) (H : Go p e below s k n Q T (mkF m pc' Ls (.long z :: st))) : Go p e below s k n Q T (mkF m pc Ls (.int y :: .long x :: st)) := by
  subst hp hz
  exact H.via fun t q => XS.lushr X.here hx rfl hd rfl q
theorem g_idiv (pc' : Nat) (X : Stand p l e R s m args below meth c T locs cells slots) (hx : p.tables.exec = Jvm.exec) {x y z : Int32} (hd : decode c.code pc = .ok (.idiv, 1)) (hp : pc + 1 = pc') (hy : y ≠ 0) (hz : x / y = z) (H : Go p e below s k n Q T (mkF m pc' Ls (.int z :: st))) : Go p e below s k n Q T (mkF m pc Ls (.int y :: .int x :: st)) := by
  subst hp hz
  exact H.via fun t q => XS.idiv X.here hx rfl hd rfl hy q
theorem g_irem (pc' : Nat) (X : Stand p l e R s m args below meth c T locs cells slots) (hx : p.tables.exec = Jvm.exec) {x y z : Int32} (hd : decode c.code pc = .ok (.irem, 1)) (hp : pc + 1 = pc') (hy : y ≠ 0) (hz : x % y = z) (H : Go p e below s k n Q T (mkF m pc' Ls (.int z :: st))) : Go p e below s k n Q T (mkF m pc Ls (.int y :: .int x :: st)) := by
  subst hp hz
  exact H.via fun t q => iremM X hx rfl hd rfl hy q
theorem g_ldiv (pc' : Nat) (X : Stand p l e R s m args below meth c T locs cells slots) (hx : p.tables.exec = Jvm.exec) {x y z : Int64} (hd : decode c.code pc = .ok (.ldiv, 1)) (hp : pc + 1 = pc') (hy : y ≠ 0) (hz : x / y = z) (H : Go p e below s k n Q T (mkF m pc' Ls (.long z :: st))) : Go p e below s k n Q T (mkF m pc Ls (.long y :: .long x :: st)) := by
  subst hp hz
  exact H.via fun t q => XS.ldiv X.here hx rfl hd rfl hy q
theorem g_lrem (pc' : Nat) (X : Stand p l e R s m args below meth c T locs cells slots) (hx : p.tables.exec = Jvm.exec) {x y z : Int64} (hd : decode c.code pc = .ok (.lrem, 1)) (hp : pc + 1 = pc') (hy : y ≠ 0) (hz : x % y = z) (H : Go p e below s k n Q T (mkF m pc' Ls (.long z :: st))) : Go p e below s k n Q T (mkF m pc Ls (.long y :: .long x :: st)) := by
  subst hp hz
  exact H.via fun t q => XS.lrem X.here hx rfl hd rfl hy (by rw [lrem_mod]; exact q)
theorem g_ineg (pc' : Nat) (X : Stand p l e R s m args below meth c T locs cells slots) (hx : p.tables.exec = Jvm.exec) {x : Int32} {z : Int32} (hd : decode c.code pc = .ok (.ineg, 1)) (hp : pc + 1 = pc') (hz : -x = z) (H : Go p e below s k n Q T (mkF m pc' Ls (.int z :: st))) : Go p e below s k n Q T (mkF m pc Ls (.int x :: st)) := by
  subst hp hz
  exact H.via fun t q => XS.ineg X.here hx rfl hd rfl q
theorem g_lneg (pc' : Nat) (X : Stand p l e R s m args below meth c T locs cells slots) (hx : p.tables.exec = Jvm.exec) {x : Int64} {z : Int64} (hd : decode c.code pc = .ok (.lneg, 1)) (hp : pc + 1 = pc') (hz : -x = z) (H : Go p e below s k n Q T (mkF m pc' Ls (.long z :: st))) : Go p e below s k n Q T (mkF m pc Ls (.long x :: st)) := by
  subst hp hz
  exact H.via fun t q => XS.lneg X.here hx rfl hd rfl q
theorem g_i2l (pc' : Nat) (X : Stand p l e R s m args below meth c T locs cells slots) (hx : p.tables.exec = Jvm.exec) {x : Int32} {z : Int64} (hd : decode c.code pc = .ok (.i2l, 1)) (hp : pc + 1 = pc') (hz : x.toInt64 = z) (H : Go p e below s k n Q T (mkF m pc' Ls (.long z :: st))) : Go p e below s k n Q T (mkF m pc Ls (.int x :: st)) := by
  subst hp hz
  exact H.via fun t q => XS.i2l X.here hx rfl hd rfl q
theorem g_l2i (pc' : Nat) (X : Stand p l e R s m args below meth c T locs cells slots) (hx : p.tables.exec = Jvm.exec) {x : Int64} {z : Int32} (hd : decode c.code pc = .ok (.l2i, 1)) (hp : pc + 1 = pc') (hz : x.toInt32 = z) (H : Go p e below s k n Q T (mkF m pc' Ls (.int z :: st))) : Go p e below s k n Q T (mkF m pc Ls (.long x :: st)) := by
  subst hp hz
  exact H.via fun t q => XS.l2i X.here hx rfl hd rfl q
theorem g_i2b (pc' : Nat) (X : Stand p l e R s m args below meth c T locs cells slots) (hx : p.tables.exec = Jvm.exec) {x : Int32} {z : Int32} (hd : decode c.code pc = .ok (.i2b, 1)) (hp : pc + 1 = pc') (hz : x.toInt8.toInt32 = z) (H : Go p e below s k n Q T (mkF m pc' Ls (.int z :: st))) : Go p e below s k n Q T (mkF m pc Ls (.int x :: st)) := by
  subst hp hz
  exact H.via fun t q => XS.i2b X.here hx rfl hd rfl q
theorem g_i2s (pc' : Nat) (X : Stand p l e R s m args below meth c T locs cells slots) (hx : p.tables.exec = Jvm.exec) {x : Int32} {z : Int32} (hd : decode c.code pc = .ok (.i2s, 1)) (hp : pc + 1 = pc') (hz : x.toInt16.toInt32 = z) (H : Go p e below s k n Q T (mkF m pc' Ls (.int z :: st))) : Go p e below s k n Q T (mkF m pc Ls (.int x :: st)) := by
  subst hp hz
  exact H.via fun t q => XS.i2s X.here hx rfl hd rfl q
theorem g_i2c (pc' : Nat) (X : Stand p l e R s m args below meth c T locs cells slots) (hx : p.tables.exec = Jvm.exec) {x : Int32} {z : Int32} (hd : decode c.code pc = .ok (.i2c, 1)) (hp : pc + 1 = pc') (hz : x.toUInt32.toUInt16.toUInt32.toInt32 = z) (H : Go p e below s k n Q T (mkF m pc' Ls (.int z :: st))) : Go p e below s k n Q T (mkF m pc Ls (.int x :: st)) := by
  subst hp hz
  exact H.via fun t q => XS.i2c X.here hx rfl hd rfl q
theorem g_dup (pc' : Nat) (X : Stand p l e R s m args below meth c T locs cells slots) (hx : p.tables.exec = Jvm.exec) {v : Value} (hd : decode c.code pc = .ok (.dup, 1)) (hp : pc + 1 = pc') (hv : v.category = 1) (H : Go p e below s k n Q T (mkF m pc' Ls (v :: v :: st))) : Go p e below s k n Q T (mkF m pc Ls (v :: st)) := by
  subst hp
  exact H.via fun t q => XS.dup X.here hx rfl hd rfl hv q
theorem g_pop (pc' : Nat) (X : Stand p l e R s m args below meth c T locs cells slots) (hx : p.tables.exec = Jvm.exec) {v : Value} (hd : decode c.code pc = .ok (.pop, 1)) (hp : pc + 1 = pc') (hv : v.category = 1) (H : Go p e below s k n Q T (mkF m pc' Ls st)) : Go p e below s k n Q T (mkF m pc Ls (v :: st)) := by
  subst hp
  exact H.via fun t q => XS.pop X.here hx rfl hd rfl hv q
theorem g_dup_x1 (pc' : Nat) (X : Stand p l e R s m args below meth c T locs cells slots) (hx : p.tables.exec = Jvm.exec) {v w : Value} (hd : decode c.code pc = .ok (.dup_x1, 1)) (hp : pc + 1 = pc') (hv : v.category = 1) (hw : w.category = 1) (H : Go p e below s k n Q T (mkF m pc' Ls (v :: w :: v :: st))) : Go p e below s k n Q T (mkF m pc Ls (v :: w :: st)) := by
  subst hp
  exact H.via fun t q => XS.dupX1 X.here hx rfl hd rfl hv hw q
theorem g_dup2 (pc' : Nat) (X : Stand p l e R s m args below meth c T locs cells slots) (hx : p.tables.exec = Jvm.exec) {v w : Value} (hd : decode c.code pc = .ok (.dup2, 1)) (hp : pc + 1 = pc') (hv : v.category = 1) (hw : w.category = 1) (H : Go p e below s k n Q T (mkF m pc' Ls (v :: w :: v :: w :: st))) : Go p e below s k n Q T (mkF m pc Ls (v :: w :: st)) := by
  subst hp
  exact H.via fun t q => XT.dup2 X.here hx rfl hd rfl hv hw q
theorem g_iinc (pc' : Nat) (X : Stand p l e R s m args below meth c T locs cells slots) (hx : p.tables.exec = Jvm.exec) {i : Nat} {cst : Int} {x z : Int32} {Ls' : Array Slot} (hd : decode c.code pc = .ok (.iinc i cst, 3)) (hp : pc + 3 = pc') (hl : Ls[i]? = some (.val (.int x))) (hz : x + Int32.ofInt cst = z) (hl' : storeLocals Ls i (.int z) = some Ls') (H : Go p e below s k n Q T (mkF m pc' Ls' st)) : Go p e below s k n Q T (mkF m pc Ls st) := by
  subst hp hz
  exact H.via fun t q => XS.iinc X.here hx rfl hd hl hl' q
theorem g_goto (pc' : Nat) (X : Stand p l e R s m args below meth c T locs cells slots) (hx : p.tables.exec = Jvm.exec) {o : Int} (hd : decode c.code pc = .ok (.goto o, 3)) (ho : 0 ≤ (pc : Int) + o) (hp : ((pc : Int) + o).toNat = pc') (H : Go p e below s k n Q T (mkF m pc' Ls st)) : Go p e below s k n Q T (mkF m pc Ls st) :=
  H.via fun t q => XS.goto X.here hx rfl rfl hd ho hp q
theorem g_ifYes (pc' : Nat) (X : Stand p l e R s m args below meth c T locs cells slots) (hx : p.tables.exec = Jvm.exec) {cd : ClassFile.Cond} {x : Int32} {o : Int} (hd : decode c.code pc = .ok (.ifCond cd o, 3)) (hc : ifCond.holds cd x = true) (ho : 0 ≤ (pc : Int) + o) (hp : ((pc : Int) + o).toNat = pc') (H : Go p e below s k n Q T (mkF m pc' Ls st)) : Go p e below s k n Q T (mkF m pc Ls (.int x :: st)) :=
  H.via fun t q => XS.ifYes X.here hx rfl rfl hd rfl hc ho hp q
theorem g_ifNo (pc' : Nat) (X : Stand p l e R s m args below meth c T locs cells slots) (hx : p.tables.exec = Jvm.exec) {cd : ClassFile.Cond} {x : Int32} {o : Int} (hd : decode c.code pc = .ok (.ifCond cd o, 3)) (hc : ifCond.holds cd x = false) (hp : pc + 3 = pc') (H : Go p e below s k n Q T (mkF m pc' Ls st)) : Go p e below s k n Q T (mkF m pc Ls (.int x :: st)) := by
  subst hp
  exact H.via fun t q => XS.ifNo X.here hx rfl hd rfl hc q
theorem g_icmpYes (pc' : Nat) (X : Stand p l e R s m args below meth c T locs cells slots) (hx : p.tables.exec = Jvm.exec) {cd : ClassFile.Cond} {x y : Int32} {o : Int} (hd : decode c.code pc = .ok (.if_icmp cd o, 3)) (hc : if_icmp.holds cd x y = true) (ho : 0 ≤ (pc : Int) + o) (hp : ((pc : Int) + o).toNat = pc') (H : Go p e below s k n Q T (mkF m pc' Ls st)) : Go p e below s k n Q T (mkF m pc Ls (.int y :: .int x :: st)) :=
  H.via fun t q => XS.icmpYes X.here hx rfl rfl hd rfl hc ho hp q
theorem g_icmpNo (pc' : Nat) (X : Stand p l e R s m args below meth c T locs cells slots) (hx : p.tables.exec = Jvm.exec) {cd : ClassFile.Cond} {x y : Int32} {o : Int} (hd : decode c.code pc = .ok (.if_icmp cd o, 3)) (hc : if_icmp.holds cd x y = false) (hp : pc + 3 = pc') (H : Go p e below s k n Q T (mkF m pc' Ls st)) : Go p e below s k n Q T (mkF m pc Ls (.int y :: .int x :: st)) := by
  subst hp
  exact H.via fun t q => XS.icmpNo X.here hx rfl hd rfl hc q
theorem g_lcmpYes (pc' : Nat) (X : Stand p l e R s m args below meth c T locs cells slots) (hx : p.tables.exec = Jvm.exec) {cd : ClassFile.Cond} {x y : Int64} {o : Int} {pc1 : Nat} (hd : decode c.code pc = .ok (.lcmp, 1)) (hp1 : pc + 1 = pc1) (hd' : decode c.code pc1 = .ok (.ifCond cd o, 3)) (hc : ifCond.holds cd (lcmpW x y) = true) (ho : 0 ≤ (pc1 : Int) + o) (hp : ((pc1 : Int) + o).toNat = pc') (H : Go p e below s k n Q T (mkF m pc' Ls st)) : Go p e below s k n Q T (mkF m pc Ls (.long y :: .long x :: st)) := by
  subst hp1
  exact H.via fun t q => XS.lcmp X.here hx rfl hd rfl (XS.ifYes X.here hx rfl rfl hd' rfl hc ho hp q)
theorem g_lcmpNo (pc' : Nat) (X : Stand p l e R s m args below meth c T locs cells slots) (hx : p.tables.exec = Jvm.exec) {cd : ClassFile.Cond} {x y : Int64} {o : Int} {pc1 : Nat} (hd : decode c.code pc = .ok (.lcmp, 1)) (hp1 : pc + 1 = pc1) (hd' : decode c.code pc1 = .ok (.ifCond cd o, 3)) (hc : ifCond.holds cd (lcmpW x y) = false) (hp : pc1 + 3 = pc') (H : Go p e below s k n Q T (mkF m pc' Ls st)) : Go p e below s k n Q T (mkF m pc Ls (.long y :: .long x :: st)) := by
  subst hp1; subst hp
  exact H.via fun t q => XS.lcmp X.here hx rfl hd rfl (XS.ifNo X.here hx rfl hd' rfl hc q)
theorem g_ifnullYes (pc' : Nat) (X : Stand p l e R s m args below meth c T locs cells slots) (hx : p.tables.exec = Jvm.exec) {b : Addr} {o : Int} (hd : decode c.code pc = .ok (.ifnull o, 3)) (ho : 0 ≤ (pc : Int) + o) (hp : ((pc : Int) + o).toNat = pc') (H : Go p e below s k n Q T (mkF m pc' Ls st)) : Go p e below s k n Q T (mkF m pc Ls (.null :: st)) :=
  H.via fun t q => XS.ifnullYes X.here hx rfl rfl hd rfl ho hp q
theorem g_ifnullNo (pc' : Nat) (X : Stand p l e R s m args below meth c T locs cells slots) (hx : p.tables.exec = Jvm.exec) {b : Addr} {o : Int} (hd : decode c.code pc = .ok (.ifnull o, 3)) (hp : pc + 3 = pc') (H : Go p e below s k n Q T (mkF m pc' Ls st)) : Go p e below s k n Q T (mkF m pc Ls (.ref b :: st)) := by
  subst hp
  exact H.via fun t q => XS.ifnullNo X.here hx rfl hd rfl q
theorem g_ifnonnullYes (pc' : Nat) (X : Stand p l e R s m args below meth c T locs cells slots) (hx : p.tables.exec = Jvm.exec) {b : Addr} {o : Int} (hd : decode c.code pc = .ok (.ifnonnull o, 3)) (ho : 0 ≤ (pc : Int) + o) (hp : ((pc : Int) + o).toNat = pc') (H : Go p e below s k n Q T (mkF m pc' Ls st)) : Go p e below s k n Q T (mkF m pc Ls (.ref b :: st)) :=
  H.via fun t q => XS.ifnonnullYes X.here hx rfl rfl hd rfl ho hp q
theorem g_ifnonnullNo (pc' : Nat) (X : Stand p l e R s m args below meth c T locs cells slots) (hx : p.tables.exec = Jvm.exec) {b : Addr} {o : Int} (hd : decode c.code pc = .ok (.ifnonnull o, 3)) (hp : pc + 3 = pc') (H : Go p e below s k n Q T (mkF m pc' Ls st)) : Go p e below s k n Q T (mkF m pc Ls (.null :: st)) := by
  subst hp
  exact H.via fun t q => XS.ifnonnullNo X.here hx rfl hd rfl q
theorem g_ldc (pc' : Nat) (X : Stand p l e R s m args below meth c T locs cells slots) (hx : p.tables.exec = Jvm.exec) (hZ : Z.Warmed39 s.vm) {own : String} {index : Nat} {z : Int32} (hown : s.vm.findClass own = some m.cls) (w : (Cond.constant own index z).before a0 Z = true) (hd : decode c.code pc = .ok (.ldc index, 2)) (hp : pc + 2 = pc') (H : Go p e below s k n Q T (mkF m pc' Ls (.int z :: st))) : Go p e below s k n Q T (mkF m pc Ls st) := by
  subst hp
  exact H.via fun t q => X.ldcInt hx hown (mvT hZ w) (g := mkF m pc Ls st) rfl hd t q
theorem g_ldc2 (pc' : Nat) (X : Stand p l e R s m args below meth c T locs cells slots) (hx : p.tables.exec = Jvm.exec) (hZ : Z.Warmed39 s.vm) {own : String} {index : Nat} {z : Int64} (hown : s.vm.findClass own = some m.cls) (w : (Cond.constantLong own index z).before a0 Z = true) (hd : decode c.code pc = .ok (.ldc2_w index, 3)) (hp : pc + 3 = pc') (H : Go p e below s k n Q T (mkF m pc' Ls (.long z :: st))) : Go p e below s k n Q T (mkF m pc Ls st) := by
  subst hp
  exact H.via fun t q => X.ldc2Long hx hown (mvT hZ w) (g := mkF m pc Ls st) rfl hd t q
theorem g_retI (X : Stand p l e R s m args below meth c T locs cells slots) (hx : p.tables.exec = Jvm.exec) (hret : meth.sig.returnType = some .int) (hlk : meth.locks = false) {z : Int32} (hd : decode c.code pc = .ok (.ireturn, 1)) (hk : cells ≤ k) (hn : slots ≤ n) (hQ : Q (some (.int z)) T.heap locs) : Go p e below s k n Q T (mkF m pc Ls (.int z :: st)) := by
  obtain ⟨fs, hr, hrun, hended, hW, hsame⟩ := X.leave (v := some (.int z)) (fun q => by rw [hret] at q; cases q) hlk
  exact ⟨_, _, retOut X hx hret rfl (Or.inl ⟨rfl, Or.inl rfl, z, rfl⟩) hd hr, hrun, hended, _, _, rfl, hQ, ⟨_, rfl⟩, hW, hsame.mono hk hn⟩
theorem g_retJ (X : Stand p l e R s m args below meth c T locs cells slots) (hx : p.tables.exec = Jvm.exec) (hret : meth.sig.returnType = some .long) (hlk : meth.locks = false) {z : Int64} (hd : decode c.code pc = .ok (.lreturn, 1)) (hk : cells ≤ k) (hn : slots ≤ n) (hQ : Q (some (.long z)) T.heap locs) : Go p e below s k n Q T (mkF m pc Ls (.long z :: st)) := by
  obtain ⟨fs, hr, hrun, hended, hW, hsame⟩ := X.leave (v := some (.long z)) (fun q => by rw [hret] at q; cases q) hlk
  exact ⟨_, _, retOut X hx hret rfl (Or.inr (Or.inl ⟨rfl, rfl, z, rfl⟩)) hd hr, hrun, hended, _, _, rfl, hQ, ⟨_, rfl⟩, hW, hsame.mono hk hn⟩
theorem g_retA {ty : FieldType} (X : Stand p l e R s m args below meth c T locs cells slots) (hx : p.tables.exec = Jvm.exec) (hret : meth.sig.returnType = some ty) (hlk : meth.locks = false) {v : Value} (hty : ty.isReference = true) (hv : v.isRef = true) (hnv : narrow ty v = v) (hd : decode c.code pc = .ok (.areturn, 1)) (hk : cells ≤ k) (hn : slots ≤ n) (hQ : Q (some v) T.heap locs) : Go p e below s k n Q T (mkF m pc Ls (v :: st)) := by
  obtain ⟨fs, hr, hrun, hended, hW, hsame⟩ := X.leave (v := some v) (fun q => by rw [hret] at q; cases q) hlk
  exact ⟨_, _, retOut X hx hret hnv (Or.inr (Or.inr (Or.inr (Or.inr ⟨rfl, hty, hv⟩)))) hd hr, hrun, hended, _, _, rfl, hQ, ⟨_, rfl⟩, hW, hsame.mono hk hn⟩
theorem g_ret0 (X : Stand p l e R s m args below meth c T locs cells slots) (hx : p.tables.exec = Jvm.exec) (hret : meth.sig.returnType = none) (hlk : meth.locks = false) (hd : decode c.code pc = .ok (.return_, 1)) (hk : cells ≤ k) (hn : slots ≤ n) (hQ : Q (none) T.heap locs) : Go p e below s k n Q T (mkF m pc Ls []) := by
  obtain ⟨fs, hr, hrun, hended, hW, hsame⟩ := X.leave (v := none) (fun _ => rfl) hlk
  exact ⟨_, _, X.returnOut hx hret hd hr, hrun, hended, _, _, rfl, hQ, ⟨_, rfl⟩, hW, hsame.mono hk hn⟩
theorem g_retN (X : Stand p l e R s m args below meth c T locs cells slots) (hx : p.tables.exec = Jvm.exec) {t : FieldType} (hret : meth.sig.returnType = some t) (hlk : meth.locks = false) {z z' : Int32} (ht : t = .boolean ∨ t = .byte ∨ t = .char ∨ t = .short) (hz : nar t z = z') (hd : decode c.code pc = .ok (.ireturn, 1)) (hk : cells ≤ k) (hn : slots ≤ n) (hQ : Q (some (.int z')) T.heap locs) : Go p e below s k n Q T (mkF m pc Ls (.int z :: st)) := by
  subst hz
  obtain ⟨fs, hr, hrun, hended, hW, hsame⟩ := X.leave (v := some (.int (nar t z))) (fun q => by rw [hret] at q; cases q) hlk
  exact ⟨_, _, retN X hx hret ht hd hr, hrun, hended, _, _, rfl, hQ, ⟨_, rfl⟩, hW, hsame.mono hk hn⟩
theorem g_getF (pc' : Nat) (X : Stand p l e R s m args below meth c T locs cells slots) (hx : p.tables.exec = Jvm.exec) (hZ : Z.Warmed39 s.vm) {own R0 O nm d : String} {index : Nat} (hown : s.vm.findClass own = some m.cls) (w : (Cond.fieldLink own index R0 nm d).before a0 Z = true) (via : Via Z R0 O nm d) (eT : T.heap = h) {a : Addr} {v : Value} (F : Fld Z h a O nm d v) (hd : decode c.code pc = .ok (.getfield index, 3)) (hp : pc + 3 = pc') (H : ∀ T', Stand p l e R s m args below meth c T' locs cells slots → T'.heap = h → Go p e below s k n Q T' (mkF m pc' Ls (v :: st))) : Go p e below s k n Q T (mkF m pc Ls (.ref a :: st)) := by
  subst hp
  obtain ⟨T', X', e', q⟩ := getF X hx hZ hown (host := "") (Or.inl w) via eT F (g := mkF m pc Ls (.ref a :: st)) rfl rfl hd
  exact (H T' X' e').via q
theorem g_putF (pc' : Nat) (X : Stand p l e R s m args below meth c T locs cells slots) (hx : p.tables.exec = Jvm.exec) (hZ : Z.Warmed39 s.vm) {own R0 O nm d C : String} {index kk : Nat} {ty : FieldType} (hown : s.vm.findClass own = some m.cls) (w : (Cond.fieldLink own index R0 nm d).before a0 Z = true) (via : Via Z R0 O nm d) (eT : T.heap = h) {a : Addr} {v old : Value} (F : Fld Z h a O nm d old) (E : Exa Z h a C) (L : (Cond.lays C O nm d).before a0 Z = true ∨ ((Cond.laysFinal C O nm d).before a0 Z = true ∧ own = O ∧ meth.name = "<init>")) (wi : (Cond.instantiable C kk).before a0 Z = true) (hty : parseFieldDescriptor d = some ty) (hn : narrow ty v = v) (hf : fits ty v = true) (hd : decode c.code pc = .ok (.putfield index, 3)) (hp : pc + 3 = pc') (H : ∀ T' h', Stand p l e R s m args below meth c T' (locs ++ [⟨a, Jvm.RoadKit.slotOf Z O nm d⟩]) cells slots → T'.heap = h' → Wr h h' a (Jvm.RoadKit.slotOf Z O nm d) v → Go p e below s k n Q T' (mkF m pc' Ls st)) : Go p e below s k n Q T (mkF m pc Ls (v :: .ref a :: st)) := by
  subst hp
  obtain ⟨T', h', X', e', W, q⟩ := putF X hx hZ hown (host := "") (Or.inl w) via eT F E L wi hty hn hf (g := mkF m pc Ls (v :: .ref a :: st)) rfl rfl hd
  exact (H T' h' X' e' W).via q
theorem g_newO (pc' : Nat) (X : Stand p l e R s m args below meth c T locs cells slots) (hx : p.tables.exec = Jvm.exec) (hZ : Z.Warmed39 s.vm) {own C : String} {index nn : Nat} (hown : s.vm.findClass own = some m.cls) (w : (Cond.classLink own index C).before a0 Z = true) (wi : (Cond.instantiable C nn).before a0 Z = true) (wz : (Cond.initialized C).before a0 Z = true) (eT : T.heap = h) (hd : decode c.code pc = .ok (.new index, 3)) (hc : cells + 1 ≤ R.cells) (hl : slots + nn ≤ R.slots) (hp : pc + 3 = pc') (H : ∀ T' h' b, Stand p l e R s m args below meth c T' locs (cells + 1) (slots + nn) → T'.heap = h' → Ext h h' → b = h.size → Exa Z h' b C → (∀ {O nm d : String} {ty : FieldType}, Laid Z a0 C O nm d → parseFieldDescriptor d = some ty → Fld Z h' b O nm d (defaultValue ty)) → Go p e below s k n Q T' (mkF m pc' Ls (.ref b :: st))) : Go p e below s k n Q T (mkF m pc Ls st) := by
  subst hp
  obtain ⟨T', h', X', e', E, A, D, -, q⟩ := newO X hx hZ hown w wi wz eT (g := mkF m pc Ls st) rfl hd hc hl
  exact (H T' h' _ X' e' E rfl A D).via q
theorem g_initO (pc' : Nat) (X : Stand p l e R s m args below meth c T locs cells slots) (hx : p.tables.exec = Jvm.exec) (hZ : Z.Warmed39 s.vm) {own : String} {idx : Nat} (hown : s.vm.findClass own = some m.cls) (w1 : (Cond.methodLink own idx Lib.objectInit).before a0 Z = true) (w2 : (Cond.instanceMethod Lib.objectInit).before a0 Z = true) (w3 : (Cond.code Lib.objectInit ⟨#[0xb1]⟩ 1 none).before a0 Z = true) (eT : T.heap = h) (hsize : Ls.size = c.maxLocals) {a : Addr} (hd : decode c.code pc = .ok (.invokespecial idx, 3)) (hf : 1 ≤ R.frames) (W : Nat) (hW : (st.map fun v => v.category).sum ≤ W) (hl : W + 12 ≤ R.locals) (hp : pc + 3 = pc') (H : ∀ T', Stand p l e R s m args below meth c T' locs cells slots → T'.heap = h → Go p e below s k n Q T' (mkF m pc' Ls st)) : Go p e below s k n Q T (mkF m pc Ls (.ref a :: st)) := by
  subst hp
  obtain ⟨T', X', e', q⟩ := initO X hx hZ hown w1 w2 w3 eT (g := mkF m pc Ls (.ref a :: st)) rfl hsize rfl hd hf (W := W) (by show 2 * 0 + _ ≤ _; omega) hl
  exact (H T' X' e').via q
theorem g_callS (pc' : Nat) (X : Stand p l e R s m args below meth c T locs cells slots) (hx : p.tables.exec = Jvm.exec) (hZ : Z.Warmed39 s.vm) {own : String} {index : Nat} {y : MethodName} {bytes : ByteArray} {maxL : Nat} {ret : Option FieldType} {rm : Room} {as' : Array Value} {Qc : Option Value → Heap → List Loc → Prop} (hown : s.vm.findClass own = some m.cls) (w1 : (Cond.methodLink own index y).before a0 Z = true) (w2 : (Cond.static y).before a0 Z = true) (w3 : (Cond.initialized y.cls).before a0 Z = true) (w4 : (Cond.code y bytes maxL ret).before a0 Z = true) (hy : y.cls ≠ "java/lang/invoke/MethodHandle" ∧ y.cls ≠ "java/lang/invoke/VarHandle") (eT : T.heap = h) (hM : MetFree l y (head1 [Cond.code y bytes maxL ret] rm) (fun a U => a = as' ∧ Z.Warmed39 U.vm ∧ U.heap = h) (fun _ _ _ _ _ => True) (fun _ U o U' => ∃ v L, o = .returned v ∧ Qc v U'.heap L ∧ FrameEnd U o U' L rm.cells rm.slots)) (hsize : Ls.size = c.maxLocals) (argsL rest : List Value) (ha : argsL.toArray = as') (hst : st = argsL.reverse ++ rest) (hlen : ∀ sig, parseMethodDescriptor y.desc = some sig → argsL.length = sig.parameters.length) (W : Nat) (hW : (rest.map fun v => v.category).sum ≤ W) (hd : decode c.code pc = .ok (.invokestatic index, 3)) (hfr : rm.frames + 1 ≤ R.frames) (hlo : W + (maxL + 11) + rm.locals ≤ R.locals) (hce : cells + rm.cells ≤ R.cells) (hsl : slots + rm.slots ≤ R.slots) (hp : pc + 3 = pc') (H : ∀ v T' L, Stand p l e R s m args below meth c T' (locs ++ L) (cells + rm.cells) (slots + rm.slots) → Qc v T'.heap L → Go p e below s k n Q T' (mkF m pc' Ls (v.toList ++ rest))) : Go p e below s k n Q T (mkF m pc Ls st) := by
  subst hp hst
  obtain ⟨v, _, ⟨T', L, k', n'⟩, -, X', ⟨Lc, hQ, l1, l2, l3⟩, q⟩ := Jvm.LawKit.callS X hx (y := y) hown (mvT hZ w1) (mvT hZ w2) (mvT hZ w3) (mvT hZ w4) hy (backOf (W := W) hM hZ w4 w3 hfr hlo) (g := mkF m pc Ls (argsL.reverse ++ rest)) rfl hsize (argsL := argsL) (rest := rest) hlen rfl (by show 2 * 0 + _ ≤ _; omega) hd (fun _ _ => ⟨ha, eT, hce, hsl⟩)
  dsimp only [Pt.U, Pt.locs, Pt.cells, Pt.slots] at X' l1 l2 l3 q hQ
  subst l1 l2 l3
  exact (H v T' Lc X' hQ).via q
theorem g_callI (pc' : Nat) (X : Stand p l e R s m args below meth c T locs cells slots) (hx : p.tables.exec = Jvm.exec) (hZ : Z.Warmed39 s.vm) {own : String} {index : Nat} {y : MethodName} {bytes : ByteArray} {maxL : Nat} {rm : Room} {as' : Array Value} {Qc : Option Value → Heap → List Loc → Prop} (hy1 : y.name = "<init>") (hown : s.vm.findClass own = some m.cls) (w1 : (Cond.methodLink own index y).before a0 Z = true) (w2 : (Cond.instanceMethod y).before a0 Z = true) (w3 : (Cond.initialized y.cls).before a0 Z = true) (w4 : (Cond.code y bytes maxL none).before a0 Z = true) (hy : y.cls ≠ "java/lang/invoke/MethodHandle" ∧ y.cls ≠ "java/lang/invoke/VarHandle") (eT : T.heap = h) (hM : MetFree l y (head1 [Cond.code y bytes maxL none] rm) (fun a U => a = as' ∧ Z.Warmed39 U.vm ∧ U.heap = h) (fun _ _ _ _ _ => True) (fun _ U o U' => ∃ v L, o = .returned v ∧ Qc v U'.heap L ∧ FrameEnd U o U' L rm.cells rm.slots)) (hsize : Ls.size = c.maxLocals) (a : Addr) (argsL rest : List Value) (ha : (.ref a :: argsL).toArray = as') (hst : st = argsL.reverse ++ .ref a :: rest) (hlen : ∀ sig, parseMethodDescriptor y.desc = some sig → argsL.length = sig.parameters.length) (W : Nat) (hW : (rest.map fun v => v.category).sum ≤ W) (hd : decode c.code pc = .ok (.invokespecial index, 3)) (hfr : rm.frames + 1 ≤ R.frames) (hlo : W + (maxL + 11) + rm.locals ≤ R.locals) (hce : cells + rm.cells ≤ R.cells) (hsl : slots + rm.slots ≤ R.slots) (hp : pc + 3 = pc') (H : ∀ v T' L, Stand p l e R s m args below meth c T' (locs ++ L) (cells + rm.cells) (slots + rm.slots) → Qc v T'.heap L → Go p e below s k n Q T' (mkF m pc' Ls (v.toList ++ rest))) : Go p e below s k n Q T (mkF m pc Ls st) := by
  subst hp hst
  obtain ⟨v, _, ⟨T', L, k', n'⟩, -, X', ⟨Lc, hQ, l1, l2, l3⟩, q⟩ := X.specialBack hx (y := y) hy1 hown (mvT hZ w1) (mvT hZ w2) (mvT hZ w4) hy (backOf (W := W) hM hZ w4 w3 hfr hlo) (g := mkF m pc Ls (argsL.reverse ++ .ref a :: rest)) rfl hsize (Steps.refl _) (a := a) (argsL := argsL) (rest := rest) hlen rfl (by show 2 * 0 + _ ≤ _; omega) hd (fun _ _ => ⟨ha, eT, hce, hsl⟩)
  dsimp only [Pt.U, Pt.locs, Pt.cells, Pt.slots] at X' l1 l2 l3 q hQ
  subst l1 l2 l3
  exact (H v T' Lc X' hQ).via fun t r => q.trans r
theorem g_callV (pc' : Nat) (X : Stand p l e R s m args below meth c T locs cells slots) (hx : p.tables.exec = Jvm.exec) (hZ : Z.Warmed39 s.vm) {own : String} {index : Nat} {y : MethodName} {bytes : ByteArray} {maxL : Nat} {ret : Option FieldType} {rm : Room} {as' : Array Value} {Qc : Option Value → Heap → List Loc → Prop} (hown : s.vm.findClass own = some m.cls) (w1 : (Cond.methodLink own index y).before a0 Z = true) (w2 : (Cond.declares y).before a0 Z = true) (w5 : (Cond.selects y.cls y y).before a0 Z = true) (w6 : (Cond.instanceMethod y).before a0 Z = true) (w3 : (Cond.initialized y.cls).before a0 Z = true) (w4 : (Cond.code y bytes maxL ret).before a0 Z = true) (hy : y.cls ≠ "java/lang/invoke/MethodHandle" ∧ y.cls ≠ "java/lang/invoke/VarHandle") (eT : T.heap = h) {a : Addr} (E : Exa Z h a y.cls) (hM : MetFree l y (head1 [Cond.code y bytes maxL ret] rm) (fun a U => a = as' ∧ Z.Warmed39 U.vm ∧ U.heap = h) (fun _ _ _ _ _ => True) (fun _ U o U' => ∃ v L, o = .returned v ∧ Qc v U'.heap L ∧ FrameEnd U o U' L rm.cells rm.slots)) (hsize : Ls.size = c.maxLocals) (argsL rest : List Value) (ha : (.ref a :: argsL).toArray = as') (hst : st = argsL.reverse ++ .ref a :: rest) (hlen : ∀ sig, parseMethodDescriptor y.desc = some sig → argsL.length = sig.parameters.length) (W : Nat) (hW : (rest.map fun v => v.category).sum ≤ W) (hd : decode c.code pc = .ok (.invokevirtual index, 3)) (hfr : rm.frames + 1 ≤ R.frames) (hlo : W + (maxL + 11) + rm.locals ≤ R.locals) (hce : cells + rm.cells ≤ R.cells) (hsl : slots + rm.slots ≤ R.slots) (hp : pc + 3 = pc') (H : ∀ v T' L, Stand p l e R s m args below meth c T' (locs ++ L) (cells + rm.cells) (slots + rm.slots) → Qc v T'.heap L → Go p e below s k n Q T' (mkF m pc' Ls (v.toList ++ rest))) : Go p e below s k n Q T (mkF m pc Ls st) := by
  subst hp hst
  obtain ⟨cq, kq, qa, qb, qc⟩ := isOf hZ eT E
  obtain ⟨v, _, ⟨T', L, k', n'⟩, -, X', ⟨Lc, hQ, l1, l2, l3⟩, q⟩ := X.virtualBack hx (y := y) (z := y) hown (mvT hZ w1) (mvT hZ w2) (notFace_of_selects (args := #[]) (mvT hZ w5)) (mvT hZ w5) (mvT hZ w6) hy (backOf (W := W) hM hZ w4 w3 hfr hlo) qa qc (g := mkF m pc Ls (argsL.reverse ++ .ref a :: rest)) rfl hsize (Steps.refl _) (argsL := argsL) (rest := rest) hlen rfl (by show 2 * 0 + _ ≤ _; omega) hd (fun _ _ => ⟨ha, eT, hce, hsl⟩)
  dsimp only [Pt.U, Pt.locs, Pt.cells, Pt.slots] at X' l1 l2 l3 q hQ
  subst l1 l2 l3
  exact (H v T' Lc X' hQ).via fun t r => q.trans r
/-- an array of ints (bytes, chars, shorts, booleans) at a, whole -/
def AI (Z : State) (h : Heap) (a : Addr) (ty : FieldType) (bs : List Int32) : Prop := ∃ c : Cell, Arr Z h a c ty ∧ c.slots = (bs.map Value.int).toArray ∧ bs.length < 2 ^ 31
/-- an array of longs at a, whole -/
def AJ (Z : State) (h : Heap) (a : Addr) (bs : List Int64) : Prop := ∃ c : Cell, Arr Z h a c .long ∧ c.slots = (bs.map Value.long).toArray ∧ bs.length < 2 ^ 31
theorem AI.lt {a : Addr} {ty : FieldType} {bs : List Int32} (A : AI Z h a ty bs) : a < h.size := by obtain ⟨c, A, -⟩ := A; exact A.lt
theorem AI.ext {a : Addr} {ty : FieldType} {bs : List Int32} (A : AI Z h a ty bs) (E : Ext h h') : AI Z h' a ty bs := by obtain ⟨c, A, r⟩ := A; exact ⟨c, A.ext E, r⟩
theorem AI.other {a b : Addr} {ty : FieldType} {bs : List Int32} {sl : Nat} {v : Value} (A : AI Z h b ty bs) (W : Wr h h' a sl v) (q : b ≠ a) : AI Z h' b ty bs := by obtain ⟨c, A, r⟩ := A; exact ⟨c, A.other W q, r⟩
theorem AI.keep {a : Addr} {ty : FieldType} {bs : List Int32} {ws : List Addr} (A : AI Z h a ty bs) (K : Keep h h' ws) (q : a ∉ ws) : AI Z h' a ty bs := by obtain ⟨c, A, r⟩ := A; exact ⟨c, ⟨K.2.1 a c A.1 q, A.2⟩, r⟩
theorem AJ.lt {a : Addr} {bs : List Int64} (A : AJ Z h a bs) : a < h.size := by obtain ⟨c, A, -⟩ := A; exact A.lt
theorem AJ.ext {a : Addr} {bs : List Int64} (A : AJ Z h a bs) (E : Ext h h') : AJ Z h' a bs := by obtain ⟨c, A, r⟩ := A; exact ⟨c, A.ext E, r⟩
theorem AJ.other {a b : Addr} {bs : List Int64} {sl : Nat} {v : Value} (A : AJ Z h b bs) (W : Wr h h' a sl v) (q : b ≠ a) : AJ Z h' b bs := by obtain ⟨c, A, r⟩ := A; exact ⟨c, A.other W q, r⟩
theorem AJ.keep {a : Addr} {bs : List Int64} {ws : List Addr} (A : AJ Z h a bs) (K : Keep h h' ws) (q : a ∉ ws) : AJ Z h' a bs := by obtain ⟨c, A, r⟩ := A; exact ⟨c, ⟨K.2.1 a c A.1 q, A.2⟩, r⟩
theorem own_inI {a : Addr} {c : Cell} {bs : List Int32} {j : Int32} {i : Nat} (S : c.slots = (bs.map Value.int).toArray) (h0 : ¬ j < 0) (hj : j.toNatClampNeg = i) (hi : i < bs.length) : ¬ (j < 0 ∨ c.slots.size ≤ j.toNatClampNeg) := by
  rw [S]; simp [h0, hj]; omega
theorem own_inJ {a : Addr} {c : Cell} {bs : List Int64} {j : Int32} {i : Nat} (S : c.slots = (bs.map Value.long).toArray) (h0 : ¬ j < 0) (hj : j.toNatClampNeg = i) (hi : i < bs.length) : ¬ (j < 0 ∨ c.slots.size ≤ j.toNatClampNeg) := by
  rw [S]; simp [h0, hj]; omega
theorem own_setI {c : Cell} {bs : List Int32} {i : Nat} {x : Int32} (S : c.slots = (bs.map Value.int).toArray) : (c.setSlot i (.int x)).slots = ((bs.set i x).map Value.int).toArray := by
  simp [Cell.setSlot, S, List.map_set]
theorem own_setJ {c : Cell} {bs : List Int64} {i : Nat} {x : Int64} (S : c.slots = (bs.map Value.long).toArray) : (c.setSlot i (.long x)).slots = ((bs.set i x).map Value.long).toArray := by
  simp [Cell.setSlot, S, List.map_set]
theorem g_bastore (pc' : Nat) (X : Stand p l e R s m args below meth c T locs cells slots) (hx : p.tables.exec = Jvm.exec) (hZ : Z.Warmed39 s.vm) (eT : T.heap = h) {a : Addr} {bs : List Int32} (A : AI Z h a .byte bs) {j x : Int32} (i : Nat) (h0 : ¬ j < 0) (hj : j.toNatClampNeg = i) (hi : i < bs.length) {z : Int32} (hz : x.toInt8.toInt32 = z) (hd : decode c.code pc = .ok (.bastore, 1)) (hp : pc + 1 = pc') (H : ∀ T' h', Stand p l e R s m args below meth c T' (locs ++ [⟨a, i⟩]) cells slots → T'.heap = h' → Wr h h' a i (.int z) → AI Z h' a .byte (bs.set i z) → Go p e below s k n Q T' (mkF m pc' Ls st)) : Go p e below s k n Q T (mkF m pc Ls (.int x :: .int j :: .ref a :: st)) := by
  subst hp hz hj
  obtain ⟨cl, A, S, hl⟩ := A
  obtain ⟨T', h', X', e', W, q⟩ := stB X hx hZ eT A (own_inI (a := a) S h0 rfl hi) (g := mkF m pc Ls (.int x :: .int j :: .ref a :: st)) rfl rfl hd
  exact (H T' h' X' e' W ⟨_, A.same W, own_setI S, by simpa using hl⟩).via q
theorem g_iastore (pc' : Nat) (X : Stand p l e R s m args below meth c T locs cells slots) (hx : p.tables.exec = Jvm.exec) (hZ : Z.Warmed39 s.vm) (eT : T.heap = h) {a : Addr} {bs : List Int32} (A : AI Z h a .int bs) {j x : Int32} (i : Nat) (h0 : ¬ j < 0) (hj : j.toNatClampNeg = i) (hi : i < bs.length) {z : Int32} (hz : x = z) (hd : decode c.code pc = .ok (.iastore, 1)) (hp : pc + 1 = pc') (H : ∀ T' h', Stand p l e R s m args below meth c T' (locs ++ [⟨a, i⟩]) cells slots → T'.heap = h' → Wr h h' a i (.int z) → AI Z h' a .int (bs.set i z) → Go p e below s k n Q T' (mkF m pc' Ls st)) : Go p e below s k n Q T (mkF m pc Ls (.int x :: .int j :: .ref a :: st)) := by
  subst hp hz hj
  obtain ⟨cl, A, S, hl⟩ := A
  obtain ⟨T', h', X', e', W, q⟩ := stI X hx hZ eT A (own_inI (a := a) S h0 rfl hi) (g := mkF m pc Ls (.int x :: .int j :: .ref a :: st)) rfl rfl hd
  exact (H T' h' X' e' W ⟨_, A.same W, own_setI S, by simpa using hl⟩).via q
theorem g_castore (pc' : Nat) (X : Stand p l e R s m args below meth c T locs cells slots) (hx : p.tables.exec = Jvm.exec) (hZ : Z.Warmed39 s.vm) (eT : T.heap = h) {a : Addr} {bs : List Int32} (A : AI Z h a .char bs) {j x : Int32} (i : Nat) (h0 : ¬ j < 0) (hj : j.toNatClampNeg = i) (hi : i < bs.length) {z : Int32} (hz : x.toUInt32.toUInt16.toUInt32.toInt32 = z) (hd : decode c.code pc = .ok (.castore, 1)) (hp : pc + 1 = pc') (H : ∀ T' h', Stand p l e R s m args below meth c T' (locs ++ [⟨a, i⟩]) cells slots → T'.heap = h' → Wr h h' a i (.int z) → AI Z h' a .char (bs.set i z) → Go p e below s k n Q T' (mkF m pc' Ls st)) : Go p e below s k n Q T (mkF m pc Ls (.int x :: .int j :: .ref a :: st)) := by
  subst hp hz hj
  obtain ⟨cl, A, S, hl⟩ := A
  obtain ⟨T', h', X', e', W, q⟩ := stC X hx hZ eT A (own_inI (a := a) S h0 rfl hi) (g := mkF m pc Ls (.int x :: .int j :: .ref a :: st)) rfl rfl hd
  exact (H T' h' X' e' W ⟨_, A.same W, own_setI S, by simpa using hl⟩).via q
theorem g_sastore (pc' : Nat) (X : Stand p l e R s m args below meth c T locs cells slots) (hx : p.tables.exec = Jvm.exec) (hZ : Z.Warmed39 s.vm) (eT : T.heap = h) {a : Addr} {bs : List Int32} (A : AI Z h a .short bs) {j x : Int32} (i : Nat) (h0 : ¬ j < 0) (hj : j.toNatClampNeg = i) (hi : i < bs.length) {z : Int32} (hz : x.toInt16.toInt32 = z) (hd : decode c.code pc = .ok (.sastore, 1)) (hp : pc + 1 = pc') (H : ∀ T' h', Stand p l e R s m args below meth c T' (locs ++ [⟨a, i⟩]) cells slots → T'.heap = h' → Wr h h' a i (.int z) → AI Z h' a .short (bs.set i z) → Go p e below s k n Q T' (mkF m pc' Ls st)) : Go p e below s k n Q T (mkF m pc Ls (.int x :: .int j :: .ref a :: st)) := by
  subst hp hz hj
  obtain ⟨cl, A, S, hl⟩ := A
  obtain ⟨T', h', X', e', W, q⟩ := stS X hx hZ eT A (own_inI (a := a) S h0 rfl hi) (g := mkF m pc Ls (.int x :: .int j :: .ref a :: st)) rfl rfl hd
  exact (H T' h' X' e' W ⟨_, A.same W, own_setI S, by simpa using hl⟩).via q
theorem g_lastore (pc' : Nat) (X : Stand p l e R s m args below meth c T locs cells slots) (hx : p.tables.exec = Jvm.exec) (hZ : Z.Warmed39 s.vm) (eT : T.heap = h) {a : Addr} {bs : List Int64} (A : AJ Z h a bs) {j : Int32} {x : Int64} (i : Nat) (h0 : ¬ j < 0) (hj : j.toNatClampNeg = i) (hi : i < bs.length) (hd : decode c.code pc = .ok (.lastore, 1)) (hp : pc + 1 = pc') (H : ∀ T' h', Stand p l e R s m args below meth c T' (locs ++ [⟨a, i⟩]) cells slots → T'.heap = h' → Wr h h' a i (.long x) → AJ Z h' a (bs.set i x) → Go p e below s k n Q T' (mkF m pc' Ls st)) : Go p e below s k n Q T (mkF m pc Ls (.long x :: .int j :: .ref a :: st)) := by
  subst hp hj
  obtain ⟨cl, A, S, hl⟩ := A
  obtain ⟨T', h', X', e', W, q⟩ := stJ X hx hZ eT A (own_inJ (a := a) S h0 rfl hi) (g := mkF m pc Ls (.long x :: .int j :: .ref a :: st)) rfl rfl hd
  exact (H T' h' X' e' W ⟨_, A.same W, own_setJ S, by simpa using hl⟩).via q
theorem g_baload (pc' : Nat) (X : Stand p l e R s m args below meth c T locs cells slots) (hx : p.tables.exec = Jvm.exec) (hZ : Z.Warmed39 s.vm) (eT : T.heap = h) {a : Addr} {bs : List Int32} (A : AI Z h a .byte bs) {j z : Int32} (i : Nat) (h0 : ¬ j < 0) (hj : j.toNatClampNeg = i) (hv : bs[i]? = some z) (hd : decode c.code pc = .ok (.baload, 1)) (hp : pc + 1 = pc') (H : Go p e below s k n Q T (mkF m pc' Ls (.int z :: st))) : Go p e below s k n Q T (mkF m pc Ls (.int j :: .ref a :: st)) := by
  subst hp hj
  obtain ⟨cl, A, S, hl⟩ := A
  exact H.via fun t q => X.baloadBytes hx (by rw [eT]; exact A.1) (State.isArrayOf_alike hZ.alike A.2.1) A.2.2 (own_inI (a := a) S h0 rfl (List.getElem?_eq_some_iff.mp hv).1) (v := .int z) (by rw [S]; simp [hv]) (g := mkF m pc Ls (.int j :: .ref a :: st)) rfl rfl hd t q
theorem g_iaload (pc' : Nat) (X : Stand p l e R s m args below meth c T locs cells slots) (hx : p.tables.exec = Jvm.exec) (hZ : Z.Warmed39 s.vm) (eT : T.heap = h) {a : Addr} {bs : List Int32} (A : AI Z h a .int bs) {j z : Int32} (i : Nat) (h0 : ¬ j < 0) (hj : j.toNatClampNeg = i) (hv : bs[i]? = some z) (hd : decode c.code pc = .ok (.iaload, 1)) (hp : pc + 1 = pc') (H : Go p e below s k n Q T (mkF m pc' Ls (.int z :: st))) : Go p e below s k n Q T (mkF m pc Ls (.int j :: .ref a :: st)) := by
  subst hp hj
  obtain ⟨cl, A, S, hl⟩ := A
  exact H.via fun t q => X.iaload hx (by rw [eT]; exact A.1) (State.isArrayOf_alike hZ.alike A.2.1) A.2.2 (own_inI (a := a) S h0 rfl (List.getElem?_eq_some_iff.mp hv).1) (v := .int z) (by rw [S]; simp [hv]) (g := mkF m pc Ls (.int j :: .ref a :: st)) rfl rfl hd t q
theorem g_caload (pc' : Nat) (X : Stand p l e R s m args below meth c T locs cells slots) (hx : p.tables.exec = Jvm.exec) (hZ : Z.Warmed39 s.vm) (eT : T.heap = h) {a : Addr} {bs : List Int32} (A : AI Z h a .char bs) {j z : Int32} (i : Nat) (h0 : ¬ j < 0) (hj : j.toNatClampNeg = i) (hv : bs[i]? = some z) (hd : decode c.code pc = .ok (.caload, 1)) (hp : pc + 1 = pc') (H : Go p e below s k n Q T (mkF m pc' Ls (.int z :: st))) : Go p e below s k n Q T (mkF m pc Ls (.int j :: .ref a :: st)) := by
  subst hp hj
  obtain ⟨cl, A, S, hl⟩ := A
  exact H.via fun t q => X.caload hx (by rw [eT]; exact A.1) (State.isArrayOf_alike hZ.alike A.2.1) A.2.2 (own_inI (a := a) S h0 rfl (List.getElem?_eq_some_iff.mp hv).1) (v := .int z) (by rw [S]; simp [hv]) (g := mkF m pc Ls (.int j :: .ref a :: st)) rfl rfl hd t q
theorem g_saload (pc' : Nat) (X : Stand p l e R s m args below meth c T locs cells slots) (hx : p.tables.exec = Jvm.exec) (hZ : Z.Warmed39 s.vm) (eT : T.heap = h) {a : Addr} {bs : List Int32} (A : AI Z h a .short bs) {j z : Int32} (i : Nat) (h0 : ¬ j < 0) (hj : j.toNatClampNeg = i) (hv : bs[i]? = some z) (hd : decode c.code pc = .ok (.saload, 1)) (hp : pc + 1 = pc') (H : Go p e below s k n Q T (mkF m pc' Ls (.int z :: st))) : Go p e below s k n Q T (mkF m pc Ls (.int j :: .ref a :: st)) := by
  subst hp hj
  obtain ⟨cl, A, S, hl⟩ := A
  exact H.via fun t q => X.saload hx (by rw [eT]; exact A.1) (State.isArrayOf_alike hZ.alike A.2.1) A.2.2 (own_inI (a := a) S h0 rfl (List.getElem?_eq_some_iff.mp hv).1) (v := .int z) (by rw [S]; simp [hv]) (g := mkF m pc Ls (.int j :: .ref a :: st)) rfl rfl hd t q
theorem g_laload (pc' : Nat) (X : Stand p l e R s m args below meth c T locs cells slots) (hx : p.tables.exec = Jvm.exec) (hZ : Z.Warmed39 s.vm) (eT : T.heap = h) {a : Addr} {bs : List Int64} (A : AJ Z h a bs) {j : Int32} {z : Int64} (i : Nat) (h0 : ¬ j < 0) (hj : j.toNatClampNeg = i) (hv : bs[i]? = some z) (hd : decode c.code pc = .ok (.laload, 1)) (hp : pc + 1 = pc') (H : Go p e below s k n Q T (mkF m pc' Ls (.long z :: st))) : Go p e below s k n Q T (mkF m pc Ls (.int j :: .ref a :: st)) := by
  subst hp hj
  obtain ⟨cl, A, S, hl⟩ := A
  exact H.via fun t q => X.laload hx (by rw [eT]; exact A.1) (State.isArrayOf_alike hZ.alike A.2.1) A.2.2 (own_inJ (a := a) S h0 rfl (List.getElem?_eq_some_iff.mp hv).1) (v := .long z) (by rw [S]; simp [hv]) (g := mkF m pc Ls (.int j :: .ref a :: st)) rfl rfl hd t q
theorem g_arraylengthI (pc' : Nat) (X : Stand p l e R s m args below meth c T locs cells slots) (hx : p.tables.exec = Jvm.exec) (hZ : Z.Warmed39 s.vm) (eT : T.heap = h) {a : Addr} {ty : FieldType} {bs : List Int32} (A : AI Z h a ty bs) {z : Int32} (hz : Int32.ofNat bs.length = z) (hd : decode c.code pc = .ok (.arraylength, 1)) (hp : pc + 1 = pc') (H : Go p e below s k n Q T (mkF m pc' Ls (.int z :: st))) : Go p e below s k n Q T (mkF m pc Ls (.ref a :: st)) := by
  subst hp hz
  obtain ⟨cl, A, S, hl⟩ := A
  have q0 : cl.slots.size.toInt32 = Int32.ofNat bs.length := by rw [S]; simp
  exact H.via fun t q => X.arraylength hx (by rw [eT]; exact A.1) (State.isArrayOf_alike hZ.alike A.2.1) (g := mkF m pc Ls (.ref a :: st)) rfl rfl hd t (by rw [q0]; exact q)
theorem g_arraylengthJ (pc' : Nat) (X : Stand p l e R s m args below meth c T locs cells slots) (hx : p.tables.exec = Jvm.exec) (hZ : Z.Warmed39 s.vm) (eT : T.heap = h) {a : Addr} {bs : List Int64} (A : AJ Z h a bs) {z : Int32} (hz : Int32.ofNat bs.length = z) (hd : decode c.code pc = .ok (.arraylength, 1)) (hp : pc + 1 = pc') (H : Go p e below s k n Q T (mkF m pc' Ls (.int z :: st))) : Go p e below s k n Q T (mkF m pc Ls (.ref a :: st)) := by
  subst hp hz
  obtain ⟨cl, A, S, hl⟩ := A
  have q0 : cl.slots.size.toInt32 = Int32.ofNat bs.length := by rw [S]; simp
  exact H.via fun t q => X.arraylength hx (by rw [eT]; exact A.1) (State.isArrayOf_alike hZ.alike A.2.1) (g := mkF m pc Ls (.ref a :: st)) rfl rfl hd t (by rw [q0]; exact q)
theorem g_new_byte (pc' : Nat) (X : Stand p l e R s m args below meth c T locs cells slots) (hx : p.tables.exec = Jvm.exec) (hZ : Z.Warmed39 s.vm) (w : (Cond.arrayClass .byte).before a0 Z = true) (eT : T.heap = h) {nn : Int32} (len cap : Nat) (hn0 : ¬ nn < 0) (hlen : nn.toNatClampNeg = len) (hcap : len ≤ cap) (hb : cap * 8 ≤ 536870912) (hc : cells + 1 ≤ R.cells) (hl : slots + cap ≤ R.slots) (hd : decode c.code pc = .ok (.newarray .byte, 2)) (hp : pc + 2 = pc') (H : ∀ T' h' b, Stand p l e R s m args below meth c T' locs (cells + 1) (slots + cap) → T'.heap = h' → Ext h h' → b = h.size → AI Z h' b .byte (List.replicate len (0 : Int32)) → Go p e below s k n Q T' (mkF m pc' Ls (.ref b :: st))) : Go p e below s k n Q T (mkF m pc Ls (.int nn :: st)) := by
  subst hp hlen
  obtain ⟨T', h', cA, X', e', E, A, q⟩ := newP X hx hZ (aty := .byte) w eT (g := mkF m pc Ls (.int nn :: st)) rfl hd rfl hn0 hcap hb hc hl
  exact (H T' h' _ X' e' E rfl ⟨_, A, by simp [newA, defaultValue, newarray.typeOf], by simpa using (back32 hn0).2⟩).via q
theorem g_new_int (pc' : Nat) (X : Stand p l e R s m args below meth c T locs cells slots) (hx : p.tables.exec = Jvm.exec) (hZ : Z.Warmed39 s.vm) (w : (Cond.arrayClass .int).before a0 Z = true) (eT : T.heap = h) {nn : Int32} (len cap : Nat) (hn0 : ¬ nn < 0) (hlen : nn.toNatClampNeg = len) (hcap : len ≤ cap) (hb : cap * 8 ≤ 536870912) (hc : cells + 1 ≤ R.cells) (hl : slots + cap ≤ R.slots) (hd : decode c.code pc = .ok (.newarray .int, 2)) (hp : pc + 2 = pc') (H : ∀ T' h' b, Stand p l e R s m args below meth c T' locs (cells + 1) (slots + cap) → T'.heap = h' → Ext h h' → b = h.size → AI Z h' b .int (List.replicate len (0 : Int32)) → Go p e below s k n Q T' (mkF m pc' Ls (.ref b :: st))) : Go p e below s k n Q T (mkF m pc Ls (.int nn :: st)) := by
  subst hp hlen
  obtain ⟨T', h', cA, X', e', E, A, q⟩ := newP X hx hZ (aty := .int) w eT (g := mkF m pc Ls (.int nn :: st)) rfl hd rfl hn0 hcap hb hc hl
  exact (H T' h' _ X' e' E rfl ⟨_, A, by simp [newA, defaultValue, newarray.typeOf], by simpa using (back32 hn0).2⟩).via q
theorem g_new_long (pc' : Nat) (X : Stand p l e R s m args below meth c T locs cells slots) (hx : p.tables.exec = Jvm.exec) (hZ : Z.Warmed39 s.vm) (w : (Cond.arrayClass .long).before a0 Z = true) (eT : T.heap = h) {nn : Int32} (len cap : Nat) (hn0 : ¬ nn < 0) (hlen : nn.toNatClampNeg = len) (hcap : len ≤ cap) (hb : cap * 8 ≤ 536870912) (hc : cells + 1 ≤ R.cells) (hl : slots + cap ≤ R.slots) (hd : decode c.code pc = .ok (.newarray .long, 2)) (hp : pc + 2 = pc') (H : ∀ T' h' b, Stand p l e R s m args below meth c T' locs (cells + 1) (slots + cap) → T'.heap = h' → Ext h h' → b = h.size → AJ Z h' b (List.replicate len (0 : Int64)) → Go p e below s k n Q T' (mkF m pc' Ls (.ref b :: st))) : Go p e below s k n Q T (mkF m pc Ls (.int nn :: st)) := by
  subst hp hlen
  obtain ⟨T', h', cA, X', e', E, A, q⟩ := newP X hx hZ (aty := .long) w eT (g := mkF m pc Ls (.int nn :: st)) rfl hd rfl hn0 hcap hb hc hl
  exact (H T' h' _ X' e' E rfl ⟨_, A, by simp [newA, defaultValue, newarray.typeOf], by simpa using (back32 hn0).2⟩).via q
theorem g_dup_x2 (pc' : Nat) (X : Stand p l e R s m args below meth c T locs cells slots) (hx : p.tables.exec = Jvm.exec) {v w u : Value} (hd : decode c.code pc = .ok (.dup_x2, 1)) (hp : pc + 1 = pc') (hv : v.category = 1) (hw : w.category = 1) (hu : u.category = 1) (H : Go p e below s k n Q T (mkF m pc' Ls (v :: w :: u :: v :: st))) : Go p e below s k n Q T (mkF m pc Ls (v :: w :: u :: st)) := by
  subst hp
  refine H.via fun t q => ?_
  show Steps p.tables e below (T.setTop { method := m, pc := pc, locals := Ls, stack := v :: w :: u :: st, locked := none }) _
  jvm_step X.here [X.here.top, hx, hd, hv, hw, hu]
  exact q
theorem AI.arv {a : Addr} {bs : List Int32} (A : AI Z h a .int bs) : ∃ k, Arv Z h a k .int (Int32.ofNat bs.length) (bs.map Value.int) (.int 0) := by
  obtain ⟨c, A, S, hl⟩ := A
  have hn : (Int32.ofNat bs.length).toInt = bs.length := Int32.toInt_ofNat_small hl
  refine ⟨c.cls, c, A, rfl, ?_, ?_, ?_, ?_⟩
  · rw [S]; simp only [Int32.toNatClampNeg, hn]; simp
  · rw [Int32.lt_iff_toInt_lt, hn]; simp only [Int32.reduceToInt]; omega
  · intro i hi
    rw [S] at hi ⊢
    simp at hi
    simp [List.getD, hi]
  · intro i hi
    rw [S] at hi
    simp at hi
    simp [List.getD, hi, fits]
theorem AI.of_arv {a : Addr} {kk : ClassId} {z : Int32} {bs : List Int32} (A : Arv Z h a kk .int z (bs.map Value.int) (.int 0)) (hz : z.toNatClampNeg = bs.length) : AI Z h a .int bs := by
  obtain ⟨c, A, q1, S, q3, H, G⟩ := A
  refine ⟨c, A, ?_, ?_⟩
  · apply Array.ext_getElem?
    intro i
    by_cases hi : i < c.slots.size
    · rw [H i hi]
      have hi' : i < bs.length := by rw [← hz, ← S]; exact hi
      simp [List.getD, hi']
    · rw [Array.getElem?_eq_none (Nat.le_of_not_lt hi), Array.getElem?_eq_none]
      simp
      omega
  · rw [← hz]; exact (back32 q3).2
theorem own_copied (A : List Int32) (nn : Nat) (h : nn ≤ A.length) (B : List Int32) (hB : B.length = nn) : ((B.map Value.int).take 0 ++ ((List.range nn).map fun i => (A.map Value.int).getD (0 + i) (.int 0)) ++ (B.map Value.int).drop (0 + nn)) = (A.take nn).map Value.int := by
  apply List.ext_getElem?
  intro i
  have e : (B.map Value.int).drop (0 + nn) = [] := by rw [Nat.zero_add]; apply List.drop_eq_nil_of_le; simp [hB]
  rw [e]
  simp only [List.take_zero, List.nil_append, List.append_nil, Nat.zero_add]
  by_cases c : i < nn
  · have d : i < A.length := by omega
    simp [c, d, List.getD]
  · rw [List.getElem?_eq_none (by simp; omega), List.getElem?_eq_none (by simp; omega)]
/-- System.arraycopy(a, 0, b, 0, the length of b) of ints -/
theorem g_copy (pc' : Nat) (X : Stand p l e R s m args below meth c T locs cells slots) (hx : p.tables.exec = Jvm.exec) (hZ : Z.Warmed39 s.vm) {own : String} {index : Nat} (hown : s.vm.findClass own = some m.cls) (w1 : (Cond.methodLink own index Jvm.Stand.acN).before a0 Z = true) (w2 : (Cond.native Jvm.Stand.acN).before a0 Z = true) (w3 : (Cond.static Jvm.Stand.acN).before a0 Z = true) (w4 : (Cond.initialized "java/lang/System").before a0 Z = true) (eT : T.heap = h) {a b : Addr} {A B : List Int32} (FA : AI Z h a .int A) (FB : AI Z h b .int B) {nn : Int32} (hn0 : ¬ nn < 0) (hnB : nn.toNatClampNeg = B.length) (hle : B.length ≤ A.length) {n0 : Nat} (N : Fr n0 locs) (ge : n0 ≤ b) (hsize : Ls.size = c.maxLocals) (hd : decode c.code pc = .ok (.invokestatic index, 3)) (hf : 1 ≤ R.frames) (W : Nat) (hW : (st.map fun v => v.category).sum ≤ W) (hlo : W + (nativeFrameWords "java/lang/System" "arraycopy" 5 + 11) ≤ R.locals) (hp : pc + 3 = pc') (H : ∀ T' h' L, Stand p l e R s m args below meth c T' L cells slots → T'.heap = h' → Fr n0 L → Keep h h' [b] → AI Z h' b .int (A.take B.length) → Go p e below s k n Q T' (mkF m pc' Ls st)) : Go p e below s k n Q T (mkF m pc Ls (.int nn :: .int 0 :: .ref b :: .int 0 :: .ref a :: st)) := by
  subst hp
  obtain ⟨ka, VA⟩ := FA.arv
  obtain ⟨kb, VB⟩ := FB.arv
  have lA : (Int32.ofNat A.length).toNatClampNeg = A.length := by
    obtain ⟨_, _, _, q⟩ := FA
    simp only [Int32.toNatClampNeg]; rw [Int32.toInt_ofNat_small q]; rfl
  have lB : (Int32.ofNat B.length).toNatClampNeg = B.length := by
    obtain ⟨_, _, _, q⟩ := FB
    simp only [Int32.toNatClampNeg]; rw [Int32.toInt_ofNat_small q]; rfl
  obtain ⟨T', h', L, X', e', N', K, V, q⟩ := cpA X hx hZ hown w1 w2 w3 w4 eT VA VB (sp := 0) (dp := 0) (nn := nn) (us := (List.range B.length).map fun i => (A.map Value.int).getD (0 + i) (.int 0)) (Or.inl ⟨rfl, rfl⟩) (by decide) (by decide) hn0 (by rw [lA, hnB]; show 0 + _ ≤ _; omega) (by rw [lB, hnB]; show 0 + _ ≤ _; omega) (by rw [hnB]; rfl) (by rw [hnB]; show 0 + _ ≤ _; simp) N ge (g := mkF m pc Ls (.int nn :: .int 0 :: .ref b :: .int 0 :: .ref a :: st)) rfl hsize (rest := st) rfl hd hf (W := W) (by show 2 * 0 + _ ≤ _; omega) hlo
  rw [hnB] at V
  have V' : Arv Z h' b kb .int (Int32.ofNat B.length) ((A.take B.length).map Value.int) (.int 0) := by
    rw [← own_copied A B.length hle B rfl]; exact V
  exact (H T' h' L X' e' N' K (AI.of_arv V' (by rw [lB, List.length_take]; omega))).via q
end OwnKit
theorem own_lrem (x y : Int64) (d : Int) (hy : y.toInt = d) : (0 ≤ x.toInt → (x % y).toInt = x.toInt % d) ∧ (x.toInt < 0 → (x % y).toInt = -((-x.toInt) % d)) := by
  rw [Int64.toInt_mod, hy]; exact tr _ _
theorem own_lremV (x y : Int64) : 0 ≤ x.toInt → 0 < y.toInt → 0 ≤ (x % y).toInt ∧ (x % y).toInt < y.toInt ∧ (x % y).toInt ≤ x.toInt := by
  intro h1 h2
  rw [Int64.toInt_mod, Int.tmod_eq_emod_of_nonneg h1]
  have a := Int.emod_nonneg x.toInt (by omega : y.toInt ≠ 0)
  have b := Int.emod_lt_of_pos x.toInt h2
  refine ⟨a, b, ?_⟩
  by_cases c : x.toInt < y.toInt
  · rw [Int.emod_eq_of_lt h1 c]; exact Int.le_refl _
  · omega
theorem own_prod {a b A B : Int} (h1 : 0 ≤ a) (h2 : a ≤ A) (h3 : 0 ≤ b) (h4 : b ≤ B) : 0 ≤ a * b ∧ a * b ≤ A * B :=
  ⟨Int.mul_nonneg h1 h3, Int.mul_le_mul h2 h4 h3 (Int.le_trans h1 h2)⟩
theorem own_get {bs : List Int32} {i : Nat} (h : i < bs.length) : bs[i]? = some (bs.getD i 0) := by
  rw [List.getD_eq_getElem?_getD, List.getElem?_eq_getElem h]; rfl
theorem own_nat0 {i : Int32} (h : 0 ≤ i.toInt) : ¬ i < 0 := by
  rw [Int32.lt_iff_toInt_lt]; simp only [Int32.reduceToInt]; omega
theorem own_inc {i : Int32} (h : 0 ≤ i.toInt ∧ i.toInt ≤ 100) : (i + (1 : Int32)).toInt = i.toInt + 1 := by
  have a := c_iadd i (1 : Int32)
  have b := rng32 (i + (1 : Int32))
  simp only [Int32.reduceToInt] at a
  omega
theorem own_ofNat {i : Int32} (h : 0 ≤ i.toInt) : Int32.ofNat i.toInt.toNat = i := by
  have r := rng32 i
  apply Int32.toInt_inj.mp
  rw [Int32.toInt_ofNat_small (by omega)]
  omega

theorem d3_0 : decode jdk_29_method_69_code 0 = .ok (.iload_n 0, 1) := by decide +kernel
theorem d3_1 : decode jdk_29_method_69_code 1 = .ok (.iload_n 1, 1) := by decide +kernel
theorem d3_2 : decode jdk_29_method_69_code 2 = .ok (.if_icmp .gt 7, 3) := by decide +kernel
theorem d3_5 : decode jdk_29_method_69_code 5 = .ok (.iload_n 0, 1) := by decide +kernel
theorem d3_6 : decode jdk_29_method_69_code 6 = .ok (.goto 4, 3) := by decide +kernel
theorem d3_9 : decode jdk_29_method_69_code 9 = .ok (.iload_n 1, 1) := by decide +kernel
theorem d3_10 : decode jdk_29_method_69_code 10 = .ok (.ireturn, 1) := by decide +kernel
def Rel3 (p1 : Int32) (p2 : Int32) (r : Int32) : Prop := (p2 < p1 ∧ r = p2) ∨ (¬ (p2 < p1) ∧ r = p1)
def Q3 (Z : State) (p1 : Int32) (p2 : Int32) (h0 : Heap) (n0 : Nat) (v : Option Value) (h : Heap) (L : List Loc) : Prop := ∃ r : Int32, v = some (.int r) ∧ Rel3 p1 p2 r ∧ Fr n0 L ∧ h = h0
theorem ef_rm3 (m : MethodId) (p1 : Int32) (p2 : Int32) : entryFrame m #[(.int p1), (.int p2)] 2 = mkF m 0 #[.val (.int p1), .val (.int p2)] [] := by first | (simp [entryFrame, mkF, argsToLocals, Value.category]; done) | rfl
set_option maxRecDepth 65536 in
set_option maxHeartbeats 40000000 in
theorem rm3 (l : Launch) (Z : State) (a0 : Array Value) (hw : ∀ d ∈ tables_1, d.before a0 Z = true) (ws : List Jvm.Cond) (p1 : Int32) (p2 : Int32) (h0 : Heap) (n0 : Nat) (Z0 : n0 ≤ h0.size)  :
    MetFree l (⟨"java/lang/Math", "min", "(II)I"⟩ : MethodName) (head1 (Jvm.Cond.code (⟨"java/lang/Math", "min", "(II)I"⟩ : MethodName) jdk_29_method_69_code 2 (some .int) :: ws) ({ frames := 0, cells := 0, slots := 0, locals := 0 } : Room)) (fun a U => a = #[(.int p1), (.int p2)] ∧ Z.Warmed39 U.vm ∧ U.heap = h0) (fun _ _ _ _ _ => True) (fun _ U o U' => ∃ v L, o = .returned v ∧ (Q3 Z p1 p2 h0 n0) v U'.heap L ∧ FrameEnd U o U' L ({ frames := 0, cells := 0, slots := 0, locals := 0 } : Room).cells ({ frames := 0, cells := 0, slots := 0, locals := 0 } : Room).slots) := by
  refine MetFree.of_bodySF (Jvm.Free.JP.mathPlain rfl (by decide +kernel)) hisR ?_
  intro p e s m args below meth c s₁ Bd hml0 hP hK
  obtain ⟨rfl, hZ, hh⟩ := hP
  have hx := Bd.exec
  have hby := Bd.bytes
  have hml : c.maxLocals = 2 := hml0
  have hown : s.vm.findClass "java/lang/Math" = some m.cls := findClass_of_methodNamed Bd.named
  have hnm := (name_of_methodNamed Bd.named Bd.method).1
  have hlk : meth.locks = false := BodyLoose.notSynchronized Bd
  have X0 : Stand p l e ({ frames := 0, cells := 0, slots := 0, locals := 0 } : Room) s m #[(.int p1), (.int p2)] below meth c s₁ [] 0 0 := Stand.of_body Bd
  have e0 : s₁.heap = h0 := by rw [← hh, Bd.state]; rfl
  have N0 := Fr.nil n0
  show Go p e below s ({ frames := 0, cells := 0, slots := 0, locals := 0 } : Room).cells ({ frames := 0, cells := 0, slots := 0, locals := 0 } : Room).slots (Q3 Z p1 p2 h0 n0) s₁ (entryFrame m #[(.int p1), (.int p2)] 2)
  rw [ef_rm3 m p1 p2]
  refine g_iloadN 1 X0 hx (hb hby d3_0) rfl (v := p1) rfl ?_
  refine g_iloadN 2 X0 hx (hb hby d3_1) rfl (v := p2) rfl ?_
  by_cases hc2_0 : p2 < p1
  ·
    refine g_icmpYes 9 X0 hx (hb hby d3_2)  (tlt hc2_0).2.2.1 (by decide) (by decide) ?_
    refine g_iloadN 10 X0 hx (hb hby d3_9) rfl (v := p2) rfl ?_
    exact g_retI X0 hx Bd.returns hlk (hb hby d3_10) (by decide) (by decide) ⟨p2, rfl, (Or.inl ⟨hc2_0, rfl⟩), N0, e0⟩
  ·
    refine g_icmpNo 5 X0 hx (hb hby d3_2)  (flt hc2_0).2.2.1 rfl ?_
    refine g_iloadN 6 X0 hx (hb hby d3_5) rfl (v := p1) rfl ?_
    refine g_goto 10 X0 hx (hb hby d3_6) (by decide) (by decide) ?_
    exact g_retI X0 hx Bd.returns hlk (hb hby d3_10) (by decide) (by decide) ⟨p1, rfl, (Or.inr ⟨hc2_0, rfl⟩), N0, e0⟩
def own_i1 (F : List Int32) (k : Int32) : List Int32 := F.set (k + (1 : Int32)).toInt.toNat (F.getD (k + (1 : Int32)).toInt.toNat 0 + (1 : Int32))
def own_pre : Nat → Int32 → List Int32 → List Int32
  | 0, _, F => F
  | t + 1, v, F => own_pre t (v + (1 : Int32)) (F.set (v + (1 : Int32)).toInt.toNat (F.getD (v + (1 : Int32)).toInt.toNat 0 + F.getD v.toInt.toNat 0))
def own_F1 (g k0 k1 k2 k3 : Int32) : List Int32 := own_i1 (own_i1 (own_i1 (own_i1 (List.replicate (g + (1 : Int32)).toInt.toNat 0) k0) k1) k2) k3
def own_F2 (g k0 k1 k2 k3 : Int32) : List Int32 := own_pre g.toInt.toNat 0 (own_F1 g k0 k1 k2 k3)
def own_N (N : List Int32) (k : Int32) : List Int32 := N.set k.toInt.toNat (N.getD k.toInt.toNat 0 + (1 : Int32))
def own_I (N I : List Int32) (k i : Int32) : List Int32 := I.set (N.getD k.toInt.toNat 0).toInt.toNat i
def own_N0 (g k0 k1 k2 k3 : Int32) : List Int32 := (own_F2 g k0 k1 k2 k3).take g.toInt.toNat
def own_N1 (g k0 k1 k2 k3 : Int32) : List Int32 := own_N (own_N0 g k0 k1 k2 k3) k0
def own_N2 (g k0 k1 k2 k3 : Int32) : List Int32 := own_N (own_N1 g k0 k1 k2 k3) k1
def own_N3 (g k0 k1 k2 k3 : Int32) : List Int32 := own_N (own_N2 g k0 k1 k2 k3) k2
def own_I4 (g k0 k1 k2 k3 : Int32) : List Int32 := own_I (own_N3 g k0 k1 k2 k3) (own_I (own_N2 g k0 k1 k2 k3) (own_I (own_N1 g k0 k1 k2 k3) (own_I (own_N0 g k0 k1 k2 k3) [0, 0, 0, 0] k0 0) k1 1) k2 2) k3 3
def own_lt (x y : Int32) : Int32 := if x < y then 1 else 0
def own_eq (x y : Int32) : Int32 := if x = y then 1 else 0
def own_below (k0 k1 k2 k3 h : Int32) : Int32 := ((own_lt k0 h + own_lt k1 h) + own_lt k2 h) + own_lt k3 h
def own_sok (s : List Int32) (g h k0 k1 k2 k3 : Int32) : Int32 := if g < h then 1 else if s.getD h.toInt.toNat 0 = own_below k0 k1 k2 k3 h then 1 else 0
def own_in (x : Int32) : Bool := decide (0 ≤ x.toInt ∧ x.toInt < 4)
def own_hit (I : List Int32) (p i : Int32) : Bool := own_in p && decide (I.getD p.toInt.toNat 0 = i)
def own_P (g k0 k1 k2 k3 : Int32) : Bool :=
  own_in ((own_N0 g k0 k1 k2 k3).getD k0.toInt.toNat 0) && (own_in ((own_N1 g k0 k1 k2 k3).getD k1.toInt.toNat 0) && (own_in ((own_N2 g k0 k1 k2 k3).getD k2.toInt.toNat 0) && (own_in ((own_N3 g k0 k1 k2 k3).getD k3.toInt.toNat 0) && (
  decide (own_sok (own_F2 g k0 k1 k2 k3) g 0 k0 k1 k2 k3 = 1) && (decide (own_sok (own_F2 g k0 k1 k2 k3) g 1 k0 k1 k2 k3 = 1) && (decide (own_sok (own_F2 g k0 k1 k2 k3) g 2 k0 k1 k2 k3 = 1) && (decide (own_sok (own_F2 g k0 k1 k2 k3) g 3 k0 k1 k2 k3 = 1) && (decide (own_sok (own_F2 g k0 k1 k2 k3) g 4 k0 k1 k2 k3 = 1) && (decide (own_sok (own_F2 g k0 k1 k2 k3) g 5 k0 k1 k2 k3 = 1) && (
  own_hit (own_I4 g k0 k1 k2 k3) (own_below k0 k1 k2 k3 k0) 0 && (own_hit (own_I4 g k0 k1 k2 k3) (own_below k0 k1 k2 k3 k1 + own_eq k0 k1) 1 && (own_hit (own_I4 g k0 k1 k2 k3) ((own_below k0 k1 k2 k3 k2 + own_eq k0 k2) + own_eq k1 k2) 2 && own_hit (own_I4 g k0 k1 k2 k3) (((own_below k0 k1 k2 k3 k3 + own_eq k0 k3) + own_eq k1 k3) + own_eq k2 k3) 3))))))))))))
theorem own_dec : ∀ g : Fin 6, 1 ≤ g.val → ∀ k0 : Fin 5, k0.val < g.val → ∀ k1 : Fin 5, k1.val < g.val → ∀ k2 : Fin 5, k2.val < g.val → ∀ k3 : Fin 5, k3.val < g.val → own_P (Int32.ofNat g) (Int32.ofNat k0) (Int32.ofNat k1) (Int32.ofNat k2) (Int32.ofNat k3) = true := by decide +kernel
theorem own_all (g k0 k1 k2 k3 : Int32) (hg : 1 ≤ g.toInt ∧ g.toInt ≤ 5) (h0 : 0 ≤ k0.toInt ∧ k0.toInt < g.toInt) (h1 : 0 ≤ k1.toInt ∧ k1.toInt < g.toInt) (h2 : 0 ≤ k2.toInt ∧ k2.toInt < g.toInt) (h3 : 0 ≤ k3.toInt ∧ k3.toInt < g.toInt) : own_P g k0 k1 k2 k3 = true := by
  have q := own_dec ⟨g.toInt.toNat, by omega⟩ (by show 1 ≤ g.toInt.toNat; omega) ⟨k0.toInt.toNat, by omega⟩ (by show k0.toInt.toNat < g.toInt.toNat; omega) ⟨k1.toInt.toNat, by omega⟩ (by show k1.toInt.toNat < g.toInt.toNat; omega) ⟨k2.toInt.toNat, by omega⟩ (by show k2.toInt.toNat < g.toInt.toNat; omega) ⟨k3.toInt.toNat, by omega⟩ (by show k3.toInt.toNat < g.toInt.toNat; omega)
  simp only [own_ofNat (show 0 ≤ g.toInt by omega), own_ofNat h0.1, own_ofNat h1.1, own_ofNat h2.1, own_ofNat h3.1] at q
  exact q
theorem own_parts (g k0 k1 k2 k3 : Int32) (h : own_P g k0 k1 k2 k3 = true) :
  (own_in ((own_N0 g k0 k1 k2 k3).getD k0.toInt.toNat 0) = true ∧ own_in ((own_N1 g k0 k1 k2 k3).getD k1.toInt.toNat 0) = true ∧ own_in ((own_N2 g k0 k1 k2 k3).getD k2.toInt.toNat 0) = true ∧ own_in ((own_N3 g k0 k1 k2 k3).getD k3.toInt.toNat 0) = true) ∧ (own_sok (own_F2 g k0 k1 k2 k3) g 0 k0 k1 k2 k3 = 1 ∧ own_sok (own_F2 g k0 k1 k2 k3) g 1 k0 k1 k2 k3 = 1 ∧ own_sok (own_F2 g k0 k1 k2 k3) g 2 k0 k1 k2 k3 = 1 ∧ own_sok (own_F2 g k0 k1 k2 k3) g 3 k0 k1 k2 k3 = 1 ∧ own_sok (own_F2 g k0 k1 k2 k3) g 4 k0 k1 k2 k3 = 1 ∧ own_sok (own_F2 g k0 k1 k2 k3) g 5 k0 k1 k2 k3 = 1) ∧ (own_hit (own_I4 g k0 k1 k2 k3) (own_below k0 k1 k2 k3 k0) 0 = true ∧ own_hit (own_I4 g k0 k1 k2 k3) (own_below k0 k1 k2 k3 k1 + own_eq k0 k1) 1 = true ∧ own_hit (own_I4 g k0 k1 k2 k3) ((own_below k0 k1 k2 k3 k2 + own_eq k0 k2) + own_eq k1 k2) 2 = true ∧ own_hit (own_I4 g k0 k1 k2 k3) (((own_below k0 k1 k2 k3 k3 + own_eq k0 k3) + own_eq k1 k3) + own_eq k2 k3) 3 = true) := by
  unfold own_P at h
  simp only [Bool.and_eq_true, decide_eq_true_iff] at h
  obtain ⟨a, b, c, d, e, f, g1, h1, i, j, k, l, m, n⟩ := h
  exact ⟨⟨a, b, c, d⟩, ⟨e, f, g1, h1, i, j⟩, ⟨k, l, m, n⟩⟩
theorem own_inE {x : Int32} (h : own_in x = true) : 0 ≤ x.toInt ∧ x.toInt < 4 := of_decide_eq_true h
theorem own_hitE {I : List Int32} {p i : Int32} (h : own_hit I p i = true) : (0 ≤ p.toInt ∧ p.toInt < 4) ∧ I.getD p.toInt.toNat 0 = i := by
  unfold own_hit at h
  rw [Bool.and_eq_true, decide_eq_true_iff] at h
  exact ⟨own_inE h.1, h.2⟩
theorem own_prestep (g v : Int32) (F : List Int32) (h0 : 0 ≤ v.toInt ∧ v.toInt ≤ 50) (h : v < g) : own_pre (g.toInt - (v + (1 : Int32)).toInt).toNat (v + (1 : Int32)) (F.set (v + (1 : Int32)).toInt.toNat (F.getD (v + (1 : Int32)).toInt.toNat 0 + F.getD v.toInt.toNat 0)) = own_pre (g.toInt - v.toInt).toNat v F := by
  rw [Int32.lt_iff_toInt_lt] at h
  rw [show (g.toInt - v.toInt).toNat = (g.toInt - (v + (1 : Int32)).toInt).toNat + 1 by rw [own_inc (by omega)]; omega]
  rfl
theorem own_preend (g v : Int32) (F : List Int32) (h : ¬ v < g) : F = own_pre (g.toInt - v.toInt).toNat v F := by
  rw [Int32.lt_iff_toInt_lt] at h
  rw [show (g.toInt - v.toInt).toNat = 0 by omega]; rfl
theorem own_prelen : ∀ (t : Nat) (v : Int32) (F : List Int32), (own_pre t v F).length = F.length
  | 0, _, _ => rfl
  | t + 1, v, F => by rw [own_pre, own_prelen t, List.length_set]
theorem own_F2len (g k0 k1 k2 k3 : Int32) : (own_F2 g k0 k1 k2 k3).length = (g + (1 : Int32)).toInt.toNat := by
  unfold own_F2 own_F1 own_i1
  rw [own_prelen, List.length_set, List.length_set, List.length_set, List.length_set, List.length_replicate]
theorem own_I4len (g k0 k1 k2 k3 : Int32) : (own_I4 g k0 k1 k2 k3).length = 4 := by
  unfold own_I4 own_I
  rw [List.length_set, List.length_set, List.length_set, List.length_set]; rfl

theorem pd_0 : parseMethodDescriptor "(II)I" = some ⟨[.int, .int], some .int⟩ := by decide +kernel
theorem d2_0 : decode jdk_65_method_123_code 0 = .ok (.iload_n 1, 1) := by decide +kernel
theorem d2_1 : decode jdk_65_method_123_code 1 = .ok (.aload_n 0, 1) := by decide +kernel
theorem d2_2 : decode jdk_65_method_123_code 2 = .ok (.arraylength, 1) := by decide +kernel
theorem d2_3 : decode jdk_65_method_123_code 3 = .ok (.if_icmp .ne 11, 3) := by decide +kernel
theorem d2_6 : decode jdk_65_method_123_code 6 = .ok (.aload_n 0, 1) := by decide +kernel
theorem d2_7 : decode jdk_65_method_123_code 7 = .ok (.invokevirtual 316, 3) := by decide +kernel
theorem d2_10 : decode jdk_65_method_123_code 10 = .ok (.checkcast 317, 3) := by decide +kernel
theorem d2_13 : decode jdk_65_method_123_code 13 = .ok (.areturn, 1) := by decide +kernel
theorem d2_14 : decode jdk_65_method_123_code 14 = .ok (.iload_n 1, 1) := by decide +kernel
theorem d2_15 : decode jdk_65_method_123_code 15 = .ok (.newarray .int, 2) := by decide +kernel
theorem d2_17 : decode jdk_65_method_123_code 17 = .ok (.astore_n 2, 1) := by decide +kernel
theorem d2_18 : decode jdk_65_method_123_code 18 = .ok (.aload_n 0, 1) := by decide +kernel
theorem d2_19 : decode jdk_65_method_123_code 19 = .ok (.iconst 0, 1) := by decide +kernel
theorem d2_20 : decode jdk_65_method_123_code 20 = .ok (.aload_n 2, 1) := by decide +kernel
theorem d2_21 : decode jdk_65_method_123_code 21 = .ok (.iconst 0, 1) := by decide +kernel
theorem d2_22 : decode jdk_65_method_123_code 22 = .ok (.aload_n 0, 1) := by decide +kernel
theorem d2_23 : decode jdk_65_method_123_code 23 = .ok (.arraylength, 1) := by decide +kernel
theorem d2_24 : decode jdk_65_method_123_code 24 = .ok (.iload_n 1, 1) := by decide +kernel
theorem d2_25 : decode jdk_65_method_123_code 25 = .ok (.invokestatic 304, 3) := by decide +kernel
theorem d2_28 : decode jdk_65_method_123_code 28 = .ok (.invokestatic 150, 3) := by decide +kernel
theorem d2_31 : decode jdk_65_method_123_code 31 = .ok (.aload_n 2, 1) := by decide +kernel
theorem d2_32 : decode jdk_65_method_123_code 32 = .ok (.areturn, 1) := by decide +kernel
def Q2 (Z : State) (a1 : Addr) (p2 : Int32) (bs1 : List Int32) (h0 : Heap) (n0 : Nat) (v : Option Value) (h : Heap) (L : List Loc) : Prop := ∃ b : Addr, v = some (.ref b) ∧ Fr n0 L ∧ Keep h0 h [] ∧ n0 ≤ b ∧ h0.size ≤ b ∧ AI Z h b .int (List.take p2.toInt.toNat bs1)
theorem pn_0 : plainName "java/util/Arrays" = true := by first | (simp [plainName, overriddenIn]; done) | decide +kernel
theorem ef_rm2 (m : MethodId) (a1 : Addr) (p2 : Int32) : entryFrame m #[(.ref a1), (.int p2)] 3 = mkF m 0 #[.val (.ref a1), .val (.int p2), .unset] [] := by first | (simp [entryFrame, mkF, argsToLocals, Value.category]; done) | rfl
set_option maxRecDepth 65536 in
set_option maxHeartbeats 40000000 in
theorem rm2 (l : Launch) (Z : State) (a0 : Array Value) (hw : ∀ d ∈ tables_1, d.before a0 Z = true) (ws : List Jvm.Cond) (a1 : Addr) (p2 : Int32) (bs1 : List Int32) (h0 : Heap) (n0 : Nat) (Z0 : n0 ≤ h0.size) (A_a1 : AI Z h0 a1 .int bs1) (hp : 1 ≤ p2.toInt ∧ p2.toInt ≤ 5) (hbl : bs1.length = p2.toInt.toNat + 1) :
    MetFree l (⟨"java/util/Arrays", "copyOf", "([II)[I"⟩ : MethodName) (head1 (Jvm.Cond.code (⟨"java/util/Arrays", "copyOf", "([II)[I"⟩ : MethodName) jdk_65_method_123_code 3 (some (.array .int)) :: ws) ({ frames := 1, cells := 1, slots := 5, locals := 60 } : Room)) (fun a U => a = #[(.ref a1), (.int p2)] ∧ Z.Warmed39 U.vm ∧ U.heap = h0) (fun _ _ _ _ _ => True) (fun _ U o U' => ∃ v L, o = .returned v ∧ (Q2 Z a1 p2 bs1 h0 n0) v U'.heap L ∧ FrameEnd U o U' L ({ frames := 1, cells := 1, slots := 5, locals := 60 } : Room).cells ({ frames := 1, cells := 1, slots := 5, locals := 60 } : Room).slots) := by
  refine MetFree.of_bodySF (plainFor_of_name pn_0) hisR ?_
  intro p e s m args below meth c s₁ Bd hml0 hP hK
  obtain ⟨rfl, hZ, hh⟩ := hP
  have hx := Bd.exec
  have hby := Bd.bytes
  have hml : c.maxLocals = 3 := hml0
  have hown : s.vm.findClass "java/util/Arrays" = some m.cls := findClass_of_methodNamed Bd.named
  have hnm := (name_of_methodNamed Bd.named Bd.method).1
  have hlk : meth.locks = false := BodyLoose.notSynchronized Bd
  have X0 : Stand p l e ({ frames := 1, cells := 1, slots := 5, locals := 60 } : Room) s m #[(.ref a1), (.int p2)] below meth c s₁ [] 0 0 := Stand.of_body Bd
  have e0 : s₁.heap = h0 := by rw [← hh, Bd.state]; rfl
  have N0 := Fr.nil n0
  have K0 := Keep.refl h0 []
  show Go p e below s ({ frames := 1, cells := 1, slots := 5, locals := 60 } : Room).cells ({ frames := 1, cells := 1, slots := 5, locals := 60 } : Room).slots (Q2 Z a1 p2 bs1 h0 n0) s₁ (entryFrame m #[(.ref a1), (.int p2)] 3)
  rw [ef_rm2 m a1 p2]
  refine g_iloadN 1 X0 hx (hb hby d2_0) rfl (v := p2) rfl ?_
  refine g_aloadN 2 X0 hx (hb hby d2_1) rfl (v := (.ref a1)) rfl rfl ?_
  refine g_arraylengthI 3 X0 hx hZ e0 A_a1 (z := (Int32.ofNat bs1.length)) rfl (hb hby d2_2) rfl ?_
  have hc3_0 : ¬ (p2 = (Int32.ofNat bs1.length)) := (fun e => by have q := congrArg Int32.toInt e; rw [hbl, Int32.toInt_ofNat_small (by omega)] at q; omega)
  refine g_icmpYes 14 X0 hx (hb hby d2_3)  (feq hc3_0).2 (by decide) (by decide) ?_
  refine g_iloadN 15 X0 hx (hb hby d2_14) rfl (v := p2) rfl ?_
  refine g_new_int 17 X0 hx hZ (hw _ (List.mem_of_getElem? (i := 1) rfl)) e0 (p2.toInt.toNat) 5 (own_nat0 (by omega)) rfl (by omega) (by decide) (by decide) (by decide) (hb hby d2_15) rfl ?_
  intro T2 h2 b2 X2 e2 E2 g2 A2
  have f3 := A_a1.ext E2
  have Zs4 : n0 ≤ h2.size := (Nat.le_trans Z0 E2.1)
  have K5 : Keep h0 h2 [] := K0.ext E2
  have g_b2 : n0 ≤ b2 := Nat.le_trans Z0 (Nat.le_of_eq g2.symm)
  have sz_b2 : h0.size ≤ b2 := Nat.le_trans K0.1 (Nat.le_of_eq g2.symm)
  refine g_astoreN 18 X2 hx (hb hby d2_17) rfl (Ls' := #[.val (.ref a1), .val (.int p2), .val (.ref b2)]) rfl rfl ?_
  refine g_aloadN 19 X2 hx (hb hby d2_18) rfl (v := (.ref a1)) rfl rfl ?_
  refine g_iconst 20 X2 hx (hb hby d2_19) rfl (z := (0 : Int32)) rfl ?_
  refine g_aloadN 21 X2 hx (hb hby d2_20) rfl (v := (.ref b2)) rfl rfl ?_
  refine g_iconst 22 X2 hx (hb hby d2_21) rfl (z := (0 : Int32)) rfl ?_
  refine g_aloadN 23 X2 hx (hb hby d2_22) rfl (v := (.ref a1)) rfl rfl ?_
  refine g_arraylengthI 24 X2 hx hZ e2 f3 (z := (Int32.ofNat bs1.length)) rfl (hb hby d2_23) rfl ?_
  refine g_iloadN 25 X2 hx (hb hby d2_24) rfl (v := p2) rfl ?_
  refine g_callS 28 X2 hx hZ (y := (⟨"java/lang/Math", "min", "(II)I"⟩ : MethodName)) hown (hw _ (List.mem_of_getElem? (i := 10) rfl)) (hw _ (List.mem_of_getElem? (i := 11) rfl)) (hw _ (List.mem_of_getElem? (i := 12) rfl)) (hw _ (List.mem_of_getElem? (i := 13) rfl)) (by decide) e2 (rm3 l Z a0 hw [] (Int32.ofNat bs1.length) p2  h2 n0 Zs4 ) (by rw [hml]; rfl) [(.int (Int32.ofNat bs1.length)), (.int p2)] [(.int (0 : Int32)), (.ref b2), (.int (0 : Int32)), (.ref a1)] rfl rfl (lenOf pd_0 rfl) 4 (Nat.le_of_eq rfl) (hb hby d2_25) (by decide) (by decide) (by decide) (by decide) rfl ?_
  intro v6 T6 L6 X6 hQ6
  obtain ⟨r6, rfl, hr6, N6q, e6⟩ := hQ6
  have N6 := Fr.app N0 N6q
  show Go p e below s ({ frames := 1, cells := 1, slots := 5, locals := 60 } : Room).cells ({ frames := 1, cells := 1, slots := 5, locals := 60 } : Room).slots (Q2 Z a1 p2 bs1 h0 n0) T6 (mkF m 28 #[.val (.ref a1), .val (.int p2), .val (.ref b2)] [(.int r6), (.int (0 : Int32)), (.ref b2), (.int (0 : Int32)), (.ref a1)])
  have hnn : r6 = p2 := by rcases hr6 with ⟨_, q⟩ | ⟨q, _⟩; exact q; exact absurd (Int32.lt_iff_toInt_lt.mpr (by rw [hbl, Int32.toInt_ofNat_small (by omega)]; omega)) q
  rw [hnn]
  refine g_copy 31 X6 hx hZ hown (hw _ (List.mem_of_getElem? (i := 14) rfl)) (hw _ (List.mem_of_getElem? (i := 17) rfl)) (hw _ (List.mem_of_getElem? (i := 15) rfl)) (hw _ (List.mem_of_getElem? (i := 16) rfl)) e6 f3 A2 (own_nat0 (by omega)) (by rw [List.length_replicate]; rfl) (by rw [List.length_replicate]; omega) N6 g_b2 (by rw [hml]; rfl) (hb hby d2_28) (by decide) 0 (Nat.le_of_eq rfl) (by decide) rfl ?_
  intro T7 h7 L7 X7 e7 N7 K7 A7
  have f8 := f3.keep K7 (ninS (Nat.ne_of_lt (Nat.lt_of_lt_of_le A_a1.lt (Nat.le_of_eq g2.symm))) nin0)
  have Zs9 : n0 ≤ h7.size := (Nat.le_trans Zs4 K7.1)
  have K10 : Keep h0 h7 [] := K5.trans K7 (allS (Or.inr sz_b2) all0)
  rw [List.length_replicate] at A7
  refine g_aloadN 32 X7 hx (hb hby d2_31) rfl (v := (.ref b2)) rfl rfl ?_
  exact g_retA X7 hx Bd.returns hlk rfl rfl rfl (hb hby d2_32) (by decide) (by decide) (by
        show Q2 Z a1 p2 bs1 h0 n0 _ T7.heap _
        rw [e7]
        exact ⟨b2, rfl, N7, K10, g_b2, sz_b2, A7⟩)
theorem d4_0 : decode prog_6_method_1_code 0 = .ok (.aload_n 0, 1) := by decide +kernel
theorem d4_1 : decode prog_6_method_1_code 1 = .ok (.invokespecial 1, 3) := by decide +kernel
theorem d4_4 : decode prog_6_method_1_code 4 = .ok (.aload_n 0, 1) := by decide +kernel
theorem d4_5 : decode prog_6_method_1_code 5 = .ok (.aload_n 1, 1) := by decide +kernel
theorem d4_6 : decode prog_6_method_1_code 6 = .ok (.putfield 7, 3) := by decide +kernel
theorem d4_9 : decode prog_6_method_1_code 9 = .ok (.aload_n 0, 1) := by decide +kernel
theorem d4_10 : decode prog_6_method_1_code 10 = .ok (.aload_n 2, 1) := by decide +kernel
theorem d4_11 : decode prog_6_method_1_code 11 = .ok (.putfield 13, 3) := by decide +kernel
theorem d4_14 : decode prog_6_method_1_code 14 = .ok (.return_, 1) := by decide +kernel
def Q4 (Z : State) (a1 : Addr) (a2 : Addr) (a3 : Addr) (h0 : Heap) (n0 : Nat) (v : Option Value) (h : Heap) (L : List Loc) : Prop := v = none ∧ Fr n0 L ∧ Keep h0 h [a1] ∧ Exa Z h a1 "com/example/bar_visibility/barvisibility/Groups" ∧ Fld Z h a1 "com/example/bar_visibility/barvisibility/Groups" "first" "[I" (.ref a2) ∧ Fld Z h a1 "com/example/bar_visibility/barvisibility/Groups" "items" "[I" (.ref a3)
theorem pn_1 : plainName "com/example/bar_visibility/barvisibility/Groups" = true := by first | (simp [plainName, overriddenIn]; done) | decide +kernel
theorem ef_rm4 (m : MethodId) (a1 : Addr) (a2 : Addr) (a3 : Addr) : entryFrame m #[(.ref a1), (.ref a2), (.ref a3)] 3 = mkF m 0 #[.val (.ref a1), .val (.ref a2), .val (.ref a3)] [] := by first | (simp [entryFrame, mkF, argsToLocals, Value.category]; done) | rfl
set_option maxRecDepth 65536 in
set_option maxHeartbeats 40000000 in
theorem rm4 (l : Launch) (Z : State) (a0 : Array Value) (hw : ∀ d ∈ tables_1, d.before a0 Z = true) (ws : List Jvm.Cond) (a1 : Addr) (a2 : Addr) (a3 : Addr) (h0 : Heap) (n0 : Nat) (Z0 : n0 ≤ h0.size) (E_a1 : Exa Z h0 a1 "com/example/bar_visibility/barvisibility/Groups") (F_first : Fld Z h0 a1 "com/example/bar_visibility/barvisibility/Groups" "first" "[I" .null) (F_items : Fld Z h0 a1 "com/example/bar_visibility/barvisibility/Groups" "items" "[I" .null) (g_a1 : n0 ≤ a1) :
    MetFree l (⟨"com/example/bar_visibility/barvisibility/Groups", "<init>", "([I[I)V"⟩ : MethodName) (head1 (Jvm.Cond.code (⟨"com/example/bar_visibility/barvisibility/Groups", "<init>", "([I[I)V"⟩ : MethodName) prog_6_method_1_code 3 none :: ws) ({ frames := 1, cells := 0, slots := 0, locals := 12 } : Room)) (fun a U => a = #[(.ref a1), (.ref a2), (.ref a3)] ∧ Z.Warmed39 U.vm ∧ U.heap = h0) (fun _ _ _ _ _ => True) (fun _ U o U' => ∃ v L, o = .returned v ∧ (Q4 Z a1 a2 a3 h0 n0) v U'.heap L ∧ FrameEnd U o U' L ({ frames := 1, cells := 0, slots := 0, locals := 12 } : Room).cells ({ frames := 1, cells := 0, slots := 0, locals := 12 } : Room).slots) := by
  refine MetFree.of_bodySF (plainFor_of_name pn_1) hisR ?_
  intro p e s m args below meth c s₁ Bd hml0 hP hK
  obtain ⟨rfl, hZ, hh⟩ := hP
  have hx := Bd.exec
  have hby := Bd.bytes
  have hml : c.maxLocals = 3 := hml0
  have hown : s.vm.findClass "com/example/bar_visibility/barvisibility/Groups" = some m.cls := findClass_of_methodNamed Bd.named
  have hnm := (name_of_methodNamed Bd.named Bd.method).1
  have hlk : meth.locks = false := BodyLoose.notSynchronized Bd
  have X0 : Stand p l e ({ frames := 1, cells := 0, slots := 0, locals := 12 } : Room) s m #[(.ref a1), (.ref a2), (.ref a3)] below meth c s₁ [] 0 0 := Stand.of_body Bd
  have e0 : s₁.heap = h0 := by rw [← hh, Bd.state]; rfl
  have N0 := Fr.nil n0
  have K0 := Keep.refl h0 [a1]
  show Go p e below s ({ frames := 1, cells := 0, slots := 0, locals := 12 } : Room).cells ({ frames := 1, cells := 0, slots := 0, locals := 12 } : Room).slots (Q4 Z a1 a2 a3 h0 n0) s₁ (entryFrame m #[(.ref a1), (.ref a2), (.ref a3)] 3)
  rw [ef_rm4 m a1 a2 a3]
  refine g_aloadN 1 X0 hx (hb hby d4_0) rfl (v := (.ref a1)) rfl rfl ?_
  refine g_initO 4 X0 hx hZ hown (hw _ (List.mem_of_getElem? (i := 23) rfl)) (hw _ (List.mem_of_getElem? (i := 24) rfl)) (hw _ (List.mem_of_getElem? (i := 25) rfl)) e0 (by rw [hml]; rfl) (hb hby d4_1) (by decide) 0 (Nat.le_of_eq rfl) (by decide) rfl ?_
  intro T1 X1 e1
  refine g_aloadN 5 X1 hx (hb hby d4_4) rfl (v := (.ref a1)) rfl rfl ?_
  refine g_aloadN 6 X1 hx (hb hby d4_5) rfl (v := (.ref a2)) rfl rfl ?_
  refine g_putF 9 X1 hx hZ hown (hw _ (List.mem_of_getElem? (i := 26) rfl)) Via.refl e1 F_first E_a1 (Or.inr ⟨(hw _ (List.mem_of_getElem? (i := 27) rfl)), rfl, hnm⟩) (hw _ (List.mem_of_getElem? (i := 19) rfl)) (ty := (.array .int)) (by decide) rfl rfl (hb hby d4_6) rfl ?_
  intro T2 h2 X2 e2 W2
  have f3 := E_a1.wr W2
  have f4 := F_items.other W2 (Or.inr (slot_ne (Or.inr (hw _ (List.mem_of_getElem? (i := 29) rfl))) (Or.inr (hw _ (List.mem_of_getElem? (i := 27) rfl))) (by decide) (t := (.array .int)) (t' := (.array .int)) (by decide) (by decide)))
  have Zs5 : n0 ≤ h2.size := (Nat.le_trans Z0 (Keep.of_wr W2).1)
  have K6 : Keep h0 h2 [a1] := K0.wr W2 (Or.inl (List.mem_of_getElem? (i := 0) rfl))
  have f7 := F_first.same W2
  have N8 := Fr.snoc X2 N0 g_a1
  refine g_aloadN 10 X2 hx (hb hby d4_9) rfl (v := (.ref a1)) rfl rfl ?_
  refine g_aloadN 11 X2 hx (hb hby d4_10) rfl (v := (.ref a3)) rfl rfl ?_
  refine g_putF 14 X2 hx hZ hown (hw _ (List.mem_of_getElem? (i := 28) rfl)) Via.refl e2 f4 f3 (Or.inr ⟨(hw _ (List.mem_of_getElem? (i := 29) rfl)), rfl, hnm⟩) (hw _ (List.mem_of_getElem? (i := 19) rfl)) (ty := (.array .int)) (by decide) rfl rfl (hb hby d4_11) rfl ?_
  intro T9 h9 X9 e9 W9
  have f10 := f3.wr W9
  have f11 := f7.other W9 (Or.inr (slot_ne (Or.inr (hw _ (List.mem_of_getElem? (i := 27) rfl))) (Or.inr (hw _ (List.mem_of_getElem? (i := 29) rfl))) (by decide) (t := (.array .int)) (t' := (.array .int)) (by decide) (by decide)))
  have Zs12 : n0 ≤ h9.size := (Nat.le_trans Zs5 (Keep.of_wr W9).1)
  have K13 : Keep h0 h9 [a1] := K6.wr W9 (Or.inl (List.mem_of_getElem? (i := 0) rfl))
  have f14 := f4.same W9
  have N15 := Fr.snoc X9 N8 g_a1
  exact g_ret0 X9 hx Bd.returns hlk (hb hby d4_14) (by decide) (by decide) (by
      show Q4 Z a1 a2 a3 h0 n0 _ T9.heap _
      rw [e9]
      exact ⟨rfl, N15, K13, f10, f11, f14⟩)
theorem pd_1 : parseMethodDescriptor "([II)[I" = some ⟨[(.array .int), .int], some (.array .int)⟩ := by decide +kernel
theorem pd_2 : parseMethodDescriptor "([I[I)V" = some ⟨[(.array .int), (.array .int)], none⟩ := by decide +kernel
theorem d1_0 : decode prog_6_method_2_code 0 = .ok (.iload_n 1, 1) := by decide +kernel
theorem d1_1 : decode prog_6_method_2_code 1 = .ok (.iconst 1, 1) := by decide +kernel
theorem d1_2 : decode prog_6_method_2_code 2 = .ok (.iadd, 1) := by decide +kernel
theorem d1_3 : decode prog_6_method_2_code 3 = .ok (.newarray .int, 2) := by decide +kernel
theorem d1_5 : decode prog_6_method_2_code 5 = .ok (.astore_n 2, 1) := by decide +kernel
theorem d1_6 : decode prog_6_method_2_code 6 = .ok (.aload_n 0, 1) := by decide +kernel
theorem d1_7 : decode prog_6_method_2_code 7 = .ok (.astore_n 3, 1) := by decide +kernel
theorem d1_8 : decode prog_6_method_2_code 8 = .ok (.aload_n 3, 1) := by decide +kernel
theorem d1_9 : decode prog_6_method_2_code 9 = .ok (.arraylength, 1) := by decide +kernel
theorem d1_10 : decode prog_6_method_2_code 10 = .ok (.istore 4, 2) := by decide +kernel
theorem d1_12 : decode prog_6_method_2_code 12 = .ok (.iconst 0, 1) := by decide +kernel
theorem d1_13 : decode prog_6_method_2_code 13 = .ok (.istore 5, 2) := by decide +kernel
theorem d1_15 : decode prog_6_method_2_code 15 = .ok (.iload 5, 2) := by decide +kernel
theorem d1_17 : decode prog_6_method_2_code 17 = .ok (.iload 4, 2) := by decide +kernel
theorem d1_19 : decode prog_6_method_2_code 19 = .ok (.if_icmp .ge 25, 3) := by decide +kernel
theorem d1_22 : decode prog_6_method_2_code 22 = .ok (.aload_n 3, 1) := by decide +kernel
theorem d1_23 : decode prog_6_method_2_code 23 = .ok (.iload 5, 2) := by decide +kernel
theorem d1_25 : decode prog_6_method_2_code 25 = .ok (.iaload, 1) := by decide +kernel
theorem d1_26 : decode prog_6_method_2_code 26 = .ok (.istore 6, 2) := by decide +kernel
theorem d1_28 : decode prog_6_method_2_code 28 = .ok (.aload_n 2, 1) := by decide +kernel
theorem d1_29 : decode prog_6_method_2_code 29 = .ok (.iload 6, 2) := by decide +kernel
theorem d1_31 : decode prog_6_method_2_code 31 = .ok (.iconst 1, 1) := by decide +kernel
theorem d1_32 : decode prog_6_method_2_code 32 = .ok (.iadd, 1) := by decide +kernel
theorem d1_33 : decode prog_6_method_2_code 33 = .ok (.dup2, 1) := by decide +kernel
theorem d1_34 : decode prog_6_method_2_code 34 = .ok (.iaload, 1) := by decide +kernel
theorem d1_35 : decode prog_6_method_2_code 35 = .ok (.iconst 1, 1) := by decide +kernel
theorem d1_36 : decode prog_6_method_2_code 36 = .ok (.iadd, 1) := by decide +kernel
theorem d1_37 : decode prog_6_method_2_code 37 = .ok (.iastore, 1) := by decide +kernel
theorem d1_38 : decode prog_6_method_2_code 38 = .ok (.iinc 5 1, 3) := by decide +kernel
theorem d1_41 : decode prog_6_method_2_code 41 = .ok (.goto (-26), 3) := by decide +kernel
theorem d1_44 : decode prog_6_method_2_code 44 = .ok (.iconst 0, 1) := by decide +kernel
theorem d1_45 : decode prog_6_method_2_code 45 = .ok (.istore_n 3, 1) := by decide +kernel
theorem d1_46 : decode prog_6_method_2_code 46 = .ok (.iload_n 3, 1) := by decide +kernel
theorem d1_47 : decode prog_6_method_2_code 47 = .ok (.iload_n 1, 1) := by decide +kernel
theorem d1_48 : decode prog_6_method_2_code 48 = .ok (.if_icmp .ge 20, 3) := by decide +kernel
theorem d1_51 : decode prog_6_method_2_code 51 = .ok (.aload_n 2, 1) := by decide +kernel
theorem d1_52 : decode prog_6_method_2_code 52 = .ok (.iload_n 3, 1) := by decide +kernel
theorem d1_53 : decode prog_6_method_2_code 53 = .ok (.iconst 1, 1) := by decide +kernel
theorem d1_54 : decode prog_6_method_2_code 54 = .ok (.iadd, 1) := by decide +kernel
theorem d1_55 : decode prog_6_method_2_code 55 = .ok (.dup2, 1) := by decide +kernel
theorem d1_56 : decode prog_6_method_2_code 56 = .ok (.iaload, 1) := by decide +kernel
theorem d1_57 : decode prog_6_method_2_code 57 = .ok (.aload_n 2, 1) := by decide +kernel
theorem d1_58 : decode prog_6_method_2_code 58 = .ok (.iload_n 3, 1) := by decide +kernel
theorem d1_59 : decode prog_6_method_2_code 59 = .ok (.iaload, 1) := by decide +kernel
theorem d1_60 : decode prog_6_method_2_code 60 = .ok (.iadd, 1) := by decide +kernel
theorem d1_61 : decode prog_6_method_2_code 61 = .ok (.iastore, 1) := by decide +kernel
theorem d1_62 : decode prog_6_method_2_code 62 = .ok (.iinc 3 1, 3) := by decide +kernel
theorem d1_65 : decode prog_6_method_2_code 65 = .ok (.goto (-19), 3) := by decide +kernel
theorem d1_68 : decode prog_6_method_2_code 68 = .ok (.aload_n 0, 1) := by decide +kernel
theorem d1_69 : decode prog_6_method_2_code 69 = .ok (.arraylength, 1) := by decide +kernel
theorem d1_70 : decode prog_6_method_2_code 70 = .ok (.newarray .int, 2) := by decide +kernel
theorem d1_72 : decode prog_6_method_2_code 72 = .ok (.astore_n 3, 1) := by decide +kernel
theorem d1_73 : decode prog_6_method_2_code 73 = .ok (.aload_n 2, 1) := by decide +kernel
theorem d1_74 : decode prog_6_method_2_code 74 = .ok (.iload_n 1, 1) := by decide +kernel
theorem d1_75 : decode prog_6_method_2_code 75 = .ok (.invokestatic 16, 3) := by decide +kernel
theorem d1_78 : decode prog_6_method_2_code 78 = .ok (.astore 4, 2) := by decide +kernel
theorem d1_80 : decode prog_6_method_2_code 80 = .ok (.iconst 0, 1) := by decide +kernel
theorem d1_81 : decode prog_6_method_2_code 81 = .ok (.istore 5, 2) := by decide +kernel
theorem d1_83 : decode prog_6_method_2_code 83 = .ok (.iload 5, 2) := by decide +kernel
theorem d1_85 : decode prog_6_method_2_code 85 = .ok (.aload_n 0, 1) := by decide +kernel
theorem d1_86 : decode prog_6_method_2_code 86 = .ok (.arraylength, 1) := by decide +kernel
theorem d1_87 : decode prog_6_method_2_code 87 = .ok (.if_icmp .ge 25, 3) := by decide +kernel
theorem d1_90 : decode prog_6_method_2_code 90 = .ok (.aload_n 3, 1) := by decide +kernel
theorem d1_91 : decode prog_6_method_2_code 91 = .ok (.aload 4, 2) := by decide +kernel
theorem d1_93 : decode prog_6_method_2_code 93 = .ok (.aload_n 0, 1) := by decide +kernel
theorem d1_94 : decode prog_6_method_2_code 94 = .ok (.iload 5, 2) := by decide +kernel
theorem d1_96 : decode prog_6_method_2_code 96 = .ok (.iaload, 1) := by decide +kernel
theorem d1_97 : decode prog_6_method_2_code 97 = .ok (.dup2, 1) := by decide +kernel
theorem d1_98 : decode prog_6_method_2_code 98 = .ok (.iaload, 1) := by decide +kernel
theorem d1_99 : decode prog_6_method_2_code 99 = .ok (.dup_x2, 1) := by decide +kernel
theorem d1_100 : decode prog_6_method_2_code 100 = .ok (.iconst 1, 1) := by decide +kernel
theorem d1_101 : decode prog_6_method_2_code 101 = .ok (.iadd, 1) := by decide +kernel
theorem d1_102 : decode prog_6_method_2_code 102 = .ok (.iastore, 1) := by decide +kernel
theorem d1_103 : decode prog_6_method_2_code 103 = .ok (.iload 5, 2) := by decide +kernel
theorem d1_105 : decode prog_6_method_2_code 105 = .ok (.iastore, 1) := by decide +kernel
theorem d1_106 : decode prog_6_method_2_code 106 = .ok (.iinc 5 1, 3) := by decide +kernel
theorem d1_109 : decode prog_6_method_2_code 109 = .ok (.goto (-26), 3) := by decide +kernel
theorem d1_112 : decode prog_6_method_2_code 112 = .ok (.new 8, 3) := by decide +kernel
theorem d1_115 : decode prog_6_method_2_code 115 = .ok (.dup, 1) := by decide +kernel
theorem d1_116 : decode prog_6_method_2_code 116 = .ok (.aload_n 2, 1) := by decide +kernel
theorem d1_117 : decode prog_6_method_2_code 117 = .ok (.aload_n 3, 1) := by decide +kernel
theorem d1_118 : decode prog_6_method_2_code 118 = .ok (.invokespecial 22, 3) := by decide +kernel
theorem d1_121 : decode prog_6_method_2_code 121 = .ok (.areturn, 1) := by decide +kernel
def Q1 (Z : State) (a1 : Addr) (p2 : Int32) (k0 k1 k2 k3 : Int32) (h0 : Heap) (n0 : Nat) (v : Option Value) (h : Heap) (L : List Loc) : Prop := ∃ b f i : Addr, v = some (.ref b) ∧ Fr n0 L ∧ Keep h0 h [] ∧ Exa Z h b "com/example/bar_visibility/barvisibility/Groups" ∧ Fld Z h b "com/example/bar_visibility/barvisibility/Groups" "first" "[I" (.ref f) ∧ Fld Z h b "com/example/bar_visibility/barvisibility/Groups" "items" "[I" (.ref i) ∧ AI Z h f .int (own_F2 p2 k0 k1 k2 k3) ∧ AI Z h i .int (own_I4 p2 k0 k1 k2 k3)
theorem ef_rm1 (m : MethodId) (a1 : Addr) (p2 : Int32) : entryFrame m #[(.ref a1), (.int p2)] 7 = mkF m 0 #[.val (.ref a1), .val (.int p2), .unset, .unset, .unset, .unset, .unset] [] := by first | (simp [entryFrame, mkF, argsToLocals, Value.category]; done) | rfl
set_option maxRecDepth 65536 in
set_option maxHeartbeats 40000000 in
theorem rm1 (l : Launch) (Z : State) (a0 : Array Value) (hw : ∀ d ∈ tables_1, d.before a0 Z = true) (ws : List Jvm.Cond) (a1 : Addr) (p2 : Int32) (k0 k1 k2 k3 : Int32) (h0 : Heap) (n0 : Nat) (Z0 : n0 ≤ h0.size) (A_a1 : AI Z h0 a1 .int [k0, k1, k2, k3]) (hp : 1 ≤ p2.toInt ∧ p2.toInt ≤ 5) (hk0 : 0 ≤ k0.toInt ∧ k0.toInt < p2.toInt) (hk1 : 0 ≤ k1.toInt ∧ k1.toInt < p2.toInt) (hk2 : 0 ≤ k2.toInt ∧ k2.toInt < p2.toInt) (hk3 : 0 ≤ k3.toInt ∧ k3.toInt < p2.toInt) :
    MetFree l (⟨"com/example/bar_visibility/barvisibility/Groups", "byKey", "([II)Lcom/example/bar_visibility/barvisibility/Groups;"⟩ : MethodName) (head1 (Jvm.Cond.code (⟨"com/example/bar_visibility/barvisibility/Groups", "byKey", "([II)Lcom/example/bar_visibility/barvisibility/Groups;"⟩ : MethodName) prog_6_method_2_code 7 (some (.object "com/example/bar_visibility/barvisibility/Groups")) :: ws) ({ frames := 2, cells := 4, slots := 17, locals := 74 } : Room)) (fun a U => a = #[(.ref a1), (.int p2)] ∧ Z.Warmed39 U.vm ∧ U.heap = h0) (fun _ _ _ _ _ => True) (fun _ U o U' => ∃ v L, o = .returned v ∧ (Q1 Z a1 p2 k0 k1 k2 k3 h0 n0) v U'.heap L ∧ FrameEnd U o U' L ({ frames := 2, cells := 4, slots := 17, locals := 74 } : Room).cells ({ frames := 2, cells := 4, slots := 17, locals := 74 } : Room).slots) := by
  refine MetFree.of_bodySF (plainFor_of_name pn_1) hisR ?_
  intro p e s m args below meth c s₁ Bd hml0 hP hK
  obtain ⟨rfl, hZ, hh⟩ := hP
  have hx := Bd.exec
  have hby := Bd.bytes
  have hml : c.maxLocals = 7 := hml0
  have hown : s.vm.findClass "com/example/bar_visibility/barvisibility/Groups" = some m.cls := findClass_of_methodNamed Bd.named
  have hnm := (name_of_methodNamed Bd.named Bd.method).1
  have hlk : meth.locks = false := BodyLoose.notSynchronized Bd
  have X0 : Stand p l e ({ frames := 2, cells := 4, slots := 17, locals := 74 } : Room) s m #[(.ref a1), (.int p2)] below meth c s₁ [] 0 0 := Stand.of_body Bd
  have e0 : s₁.heap = h0 := by rw [← hh, Bd.state]; rfl
  have N0 := Fr.nil n0
  have K0 := Keep.refl h0 []
  show Go p e below s ({ frames := 2, cells := 4, slots := 17, locals := 74 } : Room).cells ({ frames := 2, cells := 4, slots := 17, locals := 74 } : Room).slots (Q1 Z a1 p2 k0 k1 k2 k3 h0 n0) s₁ (entryFrame m #[(.ref a1), (.int p2)] 7)
  rw [ef_rm1 m a1 p2]
  refine g_iloadN 1 X0 hx (hb hby d1_0) rfl (v := p2) rfl ?_
  refine g_iconst 2 X0 hx (hb hby d1_1) rfl (z := (1 : Int32)) rfl ?_
  refine g_iadd 3 X0 hx (hb hby d1_2) rfl (z := (p2 + (1 : Int32))) rfl ?_
  refine g_new_int 5 X0 hx hZ (hw _ (List.mem_of_getElem? (i := 1) rfl)) e0 ((p2 + (1 : Int32)).toInt.toNat) 6 (own_nat0 (by rw [own_inc (by omega)]; omega)) rfl (by rw [own_inc (by omega)]; omega) (by decide) (by decide) (by decide) (hb hby d1_3) rfl ?_
  intro T1 h1 b1 X1 e1 E1 g1 A1
  have f2 := A_a1.ext E1
  have Zs3 : n0 ≤ h1.size := (Nat.le_trans Z0 E1.1)
  have K4 : Keep h0 h1 [] := K0.ext E1
  have g_b1 : n0 ≤ b1 := Nat.le_trans Z0 (Nat.le_of_eq g1.symm)
  have sz_b1 : h0.size ≤ b1 := Nat.le_trans K0.1 (Nat.le_of_eq g1.symm)
  refine g_astoreN 6 X1 hx (hb hby d1_5) rfl (Ls' := #[.val (.ref a1), .val (.int p2), .val (.ref b1), .unset, .unset, .unset, .unset]) rfl rfl ?_
  have hFl : (List.replicate (p2 + (1 : Int32)).toInt.toNat (0 : Int32)).length = p2.toInt.toNat + 1 := by rw [List.length_replicate, own_inc (by omega)]; omega
  refine g_aloadN 7 X1 hx (hb hby d1_6) rfl (v := (.ref a1)) rfl rfl ?_
  refine g_astoreN 8 X1 hx (hb hby d1_7) rfl (Ls' := #[.val (.ref a1), .val (.int p2), .val (.ref b1), .val (.ref a1), .unset, .unset, .unset]) rfl rfl ?_
  refine g_aloadN 9 X1 hx (hb hby d1_8) rfl (v := (.ref a1)) rfl rfl ?_
  refine g_arraylengthI 10 X1 hx hZ e1 f2 (z := (4 : Int32)) rfl (hb hby d1_9) rfl ?_
  refine g_istore 12 X1 hx (hb hby d1_10) rfl (Ls' := #[.val (.ref a1), .val (.int p2), .val (.ref b1), .val (.ref a1), .val (.int (4 : Int32)), .unset, .unset]) rfl ?_
  refine g_iconst 13 X1 hx (hb hby d1_12) rfl (z := (0 : Int32)) rfl ?_
  refine g_istore 15 X1 hx (hb hby d1_13) rfl (Ls' := #[.val (.ref a1), .val (.int p2), .val (.ref b1), .val (.ref a1), .val (.int (4 : Int32)), .val (.int (0 : Int32)), .unset]) rfl ?_
  refine g_iload 17 X1 hx (hb hby d1_15) rfl (v := (0 : Int32)) rfl ?_
  refine g_iload 19 X1 hx (hb hby d1_17) rfl (v := (4 : Int32)) rfl ?_
  refine g_icmpNo 22 X1 hx (hb hby d1_19)  (tlt (by decide : (0 : Int32) < (4 : Int32))).2.1 rfl ?_
  refine g_aloadN 23 X1 hx (hb hby d1_22) rfl (v := (.ref a1)) rfl rfl ?_
  refine g_iload 25 X1 hx (hb hby d1_23) rfl (v := (0 : Int32)) rfl ?_
  refine g_iaload 26 X1 hx hZ e1 f2 0 (by decide) rfl (z := k0) rfl (hb hby d1_25) rfl ?_
  refine g_istore 28 X1 hx (hb hby d1_26) rfl (Ls' := #[.val (.ref a1), .val (.int p2), .val (.ref b1), .val (.ref a1), .val (.int (4 : Int32)), .val (.int (0 : Int32)), .val (.int k0)]) rfl ?_
  refine g_aloadN 29 X1 hx (hb hby d1_28) rfl (v := (.ref b1)) rfl rfl ?_
  refine g_iload 31 X1 hx (hb hby d1_29) rfl (v := k0) rfl ?_
  refine g_iconst 32 X1 hx (hb hby d1_31) rfl (z := (1 : Int32)) rfl ?_
  refine g_iadd 33 X1 hx (hb hby d1_32) rfl (z := (k0 + (1 : Int32))) rfl ?_
  refine g_dup2 34 X1 hx (hb hby d1_33) rfl rfl rfl ?_
  refine g_iaload 35 X1 hx hZ e1 A1 ((k0 + (1 : Int32)).toInt.toNat) (own_nat0 (by rw [own_inc (by omega)]; omega)) rfl (z := ((List.replicate ((p2 + (1 : Int32)).toInt.toNat) (0 : Int32)).getD (k0 + (1 : Int32)).toInt.toNat 0)) (own_get (by rw [hFl, own_inc (by omega)]; omega)) (hb hby d1_34) rfl ?_
  refine g_iconst 36 X1 hx (hb hby d1_35) rfl (z := (1 : Int32)) rfl ?_
  refine g_iadd 37 X1 hx (hb hby d1_36) rfl (z := (((List.replicate ((p2 + (1 : Int32)).toInt.toNat) (0 : Int32)).getD (k0 + (1 : Int32)).toInt.toNat 0) + (1 : Int32))) rfl ?_
  refine g_iastore 38 X1 hx hZ e1 A1 ((k0 + (1 : Int32)).toInt.toNat) (own_nat0 (by rw [own_inc (by omega)]; omega)) rfl (by rw [hFl, own_inc (by omega)]; omega) (z := (((List.replicate ((p2 + (1 : Int32)).toInt.toNat) (0 : Int32)).getD (k0 + (1 : Int32)).toInt.toNat 0) + (1 : Int32))) rfl (hb hby d1_37) rfl ?_
  intro T5 h5 X5 e5 W5 A5
  have f6 := f2.other W5 (Nat.ne_of_lt (Nat.lt_of_lt_of_le A_a1.lt (Nat.le_of_eq g1.symm)))
  have Zs7 : n0 ≤ h5.size := (Nat.le_trans Zs3 (Keep.of_wr W5).1)
  have K8 : Keep h0 h5 [] := K4.wr W5 (Or.inr sz_b1)
  have N9 := Fr.snoc X5 N0 g_b1
  obtain ⟨FF10, hFF10⟩ : ∃ F, F = own_i1 (List.replicate (p2 + (1 : Int32)).toInt.toNat (0 : Int32)) k0 := ⟨_, rfl⟩
  have AFF10 : AI Z h5 b1 .int FF10 := by rw [hFF10]; exact A5
  have lFF10 : FF10.length = p2.toInt.toNat + 1 := by rw [hFF10, own_i1, List.length_set]; exact hFl
  refine g_iinc 41 X5 hx (hb hby d1_38) rfl (x := (0 : Int32)) rfl (z := (1 : Int32)) (by decide) (Ls' := #[.val (.ref a1), .val (.int p2), .val (.ref b1), .val (.ref a1), .val (.int (4 : Int32)), .val (.int (1 : Int32)), .val (.int k0)]) rfl ?_
  refine g_goto 15 X5 hx (hb hby d1_41) (by decide) (by decide) ?_
  refine g_iload 17 X5 hx (hb hby d1_15) rfl (v := (1 : Int32)) rfl ?_
  refine g_iload 19 X5 hx (hb hby d1_17) rfl (v := (4 : Int32)) rfl ?_
  refine g_icmpNo 22 X5 hx (hb hby d1_19)  (tlt (by decide : (1 : Int32) < (4 : Int32))).2.1 rfl ?_
  refine g_aloadN 23 X5 hx (hb hby d1_22) rfl (v := (.ref a1)) rfl rfl ?_
  refine g_iload 25 X5 hx (hb hby d1_23) rfl (v := (1 : Int32)) rfl ?_
  refine g_iaload 26 X5 hx hZ e5 f6 1 (by decide) rfl (z := k1) rfl (hb hby d1_25) rfl ?_
  refine g_istore 28 X5 hx (hb hby d1_26) rfl (Ls' := #[.val (.ref a1), .val (.int p2), .val (.ref b1), .val (.ref a1), .val (.int (4 : Int32)), .val (.int (1 : Int32)), .val (.int k1)]) rfl ?_
  refine g_aloadN 29 X5 hx (hb hby d1_28) rfl (v := (.ref b1)) rfl rfl ?_
  refine g_iload 31 X5 hx (hb hby d1_29) rfl (v := k1) rfl ?_
  refine g_iconst 32 X5 hx (hb hby d1_31) rfl (z := (1 : Int32)) rfl ?_
  refine g_iadd 33 X5 hx (hb hby d1_32) rfl (z := (k1 + (1 : Int32))) rfl ?_
  refine g_dup2 34 X5 hx (hb hby d1_33) rfl rfl rfl ?_
  refine g_iaload 35 X5 hx hZ e5 AFF10 ((k1 + (1 : Int32)).toInt.toNat) (own_nat0 (by rw [own_inc (by omega)]; omega)) rfl (z := (FF10.getD (k1 + (1 : Int32)).toInt.toNat 0)) (own_get (by rw [lFF10, own_inc (by omega)]; omega)) (hb hby d1_34) rfl ?_
  refine g_iconst 36 X5 hx (hb hby d1_35) rfl (z := (1 : Int32)) rfl ?_
  refine g_iadd 37 X5 hx (hb hby d1_36) rfl (z := ((FF10.getD (k1 + (1 : Int32)).toInt.toNat 0) + (1 : Int32))) rfl ?_
  refine g_iastore 38 X5 hx hZ e5 AFF10 ((k1 + (1 : Int32)).toInt.toNat) (own_nat0 (by rw [own_inc (by omega)]; omega)) rfl (by rw [lFF10, own_inc (by omega)]; omega) (z := ((FF10.getD (k1 + (1 : Int32)).toInt.toNat 0) + (1 : Int32))) rfl (hb hby d1_37) rfl ?_
  intro T11 h11 X11 e11 W11 A11
  have f12 := f6.other W11 (Nat.ne_of_lt (Nat.lt_of_lt_of_le A_a1.lt (Nat.le_of_eq g1.symm)))
  have Zs13 : n0 ≤ h11.size := (Nat.le_trans Zs7 (Keep.of_wr W11).1)
  have K14 : Keep h0 h11 [] := K8.wr W11 (Or.inr sz_b1)
  have N15 := Fr.snoc X11 N9 g_b1
  obtain ⟨FF16, hFF16⟩ : ∃ F, F = own_i1 FF10 k1 := ⟨_, rfl⟩
  have AFF16 : AI Z h11 b1 .int FF16 := by rw [hFF16]; exact A11
  have lFF16 : FF16.length = p2.toInt.toNat + 1 := by rw [hFF16, own_i1, List.length_set]; exact lFF10
  refine g_iinc 41 X11 hx (hb hby d1_38) rfl (x := (1 : Int32)) rfl (z := (2 : Int32)) (by decide) (Ls' := #[.val (.ref a1), .val (.int p2), .val (.ref b1), .val (.ref a1), .val (.int (4 : Int32)), .val (.int (2 : Int32)), .val (.int k1)]) rfl ?_
  refine g_goto 15 X11 hx (hb hby d1_41) (by decide) (by decide) ?_
  refine g_iload 17 X11 hx (hb hby d1_15) rfl (v := (2 : Int32)) rfl ?_
  refine g_iload 19 X11 hx (hb hby d1_17) rfl (v := (4 : Int32)) rfl ?_
  refine g_icmpNo 22 X11 hx (hb hby d1_19)  (tlt (by decide : (2 : Int32) < (4 : Int32))).2.1 rfl ?_
  refine g_aloadN 23 X11 hx (hb hby d1_22) rfl (v := (.ref a1)) rfl rfl ?_
  refine g_iload 25 X11 hx (hb hby d1_23) rfl (v := (2 : Int32)) rfl ?_
  refine g_iaload 26 X11 hx hZ e11 f12 2 (by decide) rfl (z := k2) rfl (hb hby d1_25) rfl ?_
  refine g_istore 28 X11 hx (hb hby d1_26) rfl (Ls' := #[.val (.ref a1), .val (.int p2), .val (.ref b1), .val (.ref a1), .val (.int (4 : Int32)), .val (.int (2 : Int32)), .val (.int k2)]) rfl ?_
  refine g_aloadN 29 X11 hx (hb hby d1_28) rfl (v := (.ref b1)) rfl rfl ?_
  refine g_iload 31 X11 hx (hb hby d1_29) rfl (v := k2) rfl ?_
  refine g_iconst 32 X11 hx (hb hby d1_31) rfl (z := (1 : Int32)) rfl ?_
  refine g_iadd 33 X11 hx (hb hby d1_32) rfl (z := (k2 + (1 : Int32))) rfl ?_
  refine g_dup2 34 X11 hx (hb hby d1_33) rfl rfl rfl ?_
  refine g_iaload 35 X11 hx hZ e11 AFF16 ((k2 + (1 : Int32)).toInt.toNat) (own_nat0 (by rw [own_inc (by omega)]; omega)) rfl (z := (FF16.getD (k2 + (1 : Int32)).toInt.toNat 0)) (own_get (by rw [lFF16, own_inc (by omega)]; omega)) (hb hby d1_34) rfl ?_
  refine g_iconst 36 X11 hx (hb hby d1_35) rfl (z := (1 : Int32)) rfl ?_
  refine g_iadd 37 X11 hx (hb hby d1_36) rfl (z := ((FF16.getD (k2 + (1 : Int32)).toInt.toNat 0) + (1 : Int32))) rfl ?_
  refine g_iastore 38 X11 hx hZ e11 AFF16 ((k2 + (1 : Int32)).toInt.toNat) (own_nat0 (by rw [own_inc (by omega)]; omega)) rfl (by rw [lFF16, own_inc (by omega)]; omega) (z := ((FF16.getD (k2 + (1 : Int32)).toInt.toNat 0) + (1 : Int32))) rfl (hb hby d1_37) rfl ?_
  intro T17 h17 X17 e17 W17 A17
  have f18 := f12.other W17 (Nat.ne_of_lt (Nat.lt_of_lt_of_le A_a1.lt (Nat.le_of_eq g1.symm)))
  have Zs19 : n0 ≤ h17.size := (Nat.le_trans Zs13 (Keep.of_wr W17).1)
  have K20 : Keep h0 h17 [] := K14.wr W17 (Or.inr sz_b1)
  have N21 := Fr.snoc X17 N15 g_b1
  obtain ⟨FF22, hFF22⟩ : ∃ F, F = own_i1 FF16 k2 := ⟨_, rfl⟩
  have AFF22 : AI Z h17 b1 .int FF22 := by rw [hFF22]; exact A17
  have lFF22 : FF22.length = p2.toInt.toNat + 1 := by rw [hFF22, own_i1, List.length_set]; exact lFF16
  refine g_iinc 41 X17 hx (hb hby d1_38) rfl (x := (2 : Int32)) rfl (z := (3 : Int32)) (by decide) (Ls' := #[.val (.ref a1), .val (.int p2), .val (.ref b1), .val (.ref a1), .val (.int (4 : Int32)), .val (.int (3 : Int32)), .val (.int k2)]) rfl ?_
  refine g_goto 15 X17 hx (hb hby d1_41) (by decide) (by decide) ?_
  refine g_iload 17 X17 hx (hb hby d1_15) rfl (v := (3 : Int32)) rfl ?_
  refine g_iload 19 X17 hx (hb hby d1_17) rfl (v := (4 : Int32)) rfl ?_
  refine g_icmpNo 22 X17 hx (hb hby d1_19)  (tlt (by decide : (3 : Int32) < (4 : Int32))).2.1 rfl ?_
  refine g_aloadN 23 X17 hx (hb hby d1_22) rfl (v := (.ref a1)) rfl rfl ?_
  refine g_iload 25 X17 hx (hb hby d1_23) rfl (v := (3 : Int32)) rfl ?_
  refine g_iaload 26 X17 hx hZ e17 f18 3 (by decide) rfl (z := k3) rfl (hb hby d1_25) rfl ?_
  refine g_istore 28 X17 hx (hb hby d1_26) rfl (Ls' := #[.val (.ref a1), .val (.int p2), .val (.ref b1), .val (.ref a1), .val (.int (4 : Int32)), .val (.int (3 : Int32)), .val (.int k3)]) rfl ?_
  refine g_aloadN 29 X17 hx (hb hby d1_28) rfl (v := (.ref b1)) rfl rfl ?_
  refine g_iload 31 X17 hx (hb hby d1_29) rfl (v := k3) rfl ?_
  refine g_iconst 32 X17 hx (hb hby d1_31) rfl (z := (1 : Int32)) rfl ?_
  refine g_iadd 33 X17 hx (hb hby d1_32) rfl (z := (k3 + (1 : Int32))) rfl ?_
  refine g_dup2 34 X17 hx (hb hby d1_33) rfl rfl rfl ?_
  refine g_iaload 35 X17 hx hZ e17 AFF22 ((k3 + (1 : Int32)).toInt.toNat) (own_nat0 (by rw [own_inc (by omega)]; omega)) rfl (z := (FF22.getD (k3 + (1 : Int32)).toInt.toNat 0)) (own_get (by rw [lFF22, own_inc (by omega)]; omega)) (hb hby d1_34) rfl ?_
  refine g_iconst 36 X17 hx (hb hby d1_35) rfl (z := (1 : Int32)) rfl ?_
  refine g_iadd 37 X17 hx (hb hby d1_36) rfl (z := ((FF22.getD (k3 + (1 : Int32)).toInt.toNat 0) + (1 : Int32))) rfl ?_
  refine g_iastore 38 X17 hx hZ e17 AFF22 ((k3 + (1 : Int32)).toInt.toNat) (own_nat0 (by rw [own_inc (by omega)]; omega)) rfl (by rw [lFF22, own_inc (by omega)]; omega) (z := ((FF22.getD (k3 + (1 : Int32)).toInt.toNat 0) + (1 : Int32))) rfl (hb hby d1_37) rfl ?_
  intro T23 h23 X23 e23 W23 A23
  have f24 := f18.other W23 (Nat.ne_of_lt (Nat.lt_of_lt_of_le A_a1.lt (Nat.le_of_eq g1.symm)))
  have Zs25 : n0 ≤ h23.size := (Nat.le_trans Zs19 (Keep.of_wr W23).1)
  have K26 : Keep h0 h23 [] := K20.wr W23 (Or.inr sz_b1)
  have N27 := Fr.snoc X23 N21 g_b1
  obtain ⟨FF28, hFF28⟩ : ∃ F, F = own_i1 FF22 k3 := ⟨_, rfl⟩
  have AFF28 : AI Z h23 b1 .int FF28 := by rw [hFF28]; exact A23
  have lFF28 : FF28.length = p2.toInt.toNat + 1 := by rw [hFF28, own_i1, List.length_set]; exact lFF22
  refine g_iinc 41 X23 hx (hb hby d1_38) rfl (x := (3 : Int32)) rfl (z := (4 : Int32)) (by decide) (Ls' := #[.val (.ref a1), .val (.int p2), .val (.ref b1), .val (.ref a1), .val (.int (4 : Int32)), .val (.int (4 : Int32)), .val (.int k3)]) rfl ?_
  refine g_goto 15 X23 hx (hb hby d1_41) (by decide) (by decide) ?_
  refine g_iload 17 X23 hx (hb hby d1_15) rfl (v := (4 : Int32)) rfl ?_
  refine g_iload 19 X23 hx (hb hby d1_17) rfl (v := (4 : Int32)) rfl ?_
  refine g_icmpYes 44 X23 hx (hb hby d1_19)  (flt (Int32.lt_irrefl)).2.1 (by decide) (by decide) ?_
  refine g_iconst 45 X23 hx (hb hby d1_44) rfl (z := (0 : Int32)) rfl ?_
  refine g_istoreN 46 X23 hx (hb hby d1_45) rfl (Ls' := #[.val (.ref a1), .val (.int p2), .val (.ref b1), .val (.int (0 : Int32)), .val (.int (4 : Int32)), .val (.int (4 : Int32)), .val (.int k3)]) rfl ?_
  have hF1 : FF28 = own_F1 p2 k0 k1 k2 k3 := by rw [hFF28, hFF22, hFF16, hFF10]; rfl
  have LOOP46 : ∀ (fuel : Nat) (lv : Int32) (gF : List Int32) (Tl : State) (hl : Heap) (lo : List Loc), (p2.toInt - lv.toInt).toNat < fuel → (0 ≤ lv.toInt ∧ lv.toInt ≤ p2.toInt) → (gF.length = p2.toInt.toNat + 1) → (own_pre (p2.toInt - lv.toInt).toNat lv gF = own_F2 p2 k0 k1 k2 k3) → (Stand p l e ({ frames := 2, cells := 4, slots := 17, locals := 74 } : Room) s m #[(.ref a1), (.int p2)] below meth c Tl lo 1 6) → (Tl.heap = hl) → (Fr n0 lo) → (n0 ≤ hl.size) → (Keep h0 hl []) → (AI Z hl a1 .int [k0, k1, k2, k3]) → (AI Z hl b1 .int gF) → Go p e below s ({ frames := 2, cells := 4, slots := 17, locals := 74 } : Room).cells ({ frames := 2, cells := 4, slots := 17, locals := 74 } : Room).slots (Q1 Z a1 p2 k0 k1 k2 k3 h0 n0) Tl (mkF m 46 #[.val (.ref a1), .val (.int p2), .val (.ref b1), .val (.int lv), .val (.int (4 : Int32)), .val (.int (4 : Int32)), .val (.int k3)] []) := by
    intro fuel
    induction fuel with
    | zero => intro lv gF Tl hl lo hm; exact absurd hm (Nat.not_lt_zero _)
    | succ fuel ih =>
      intro lv gF Tl hl lo hm hv0 hgl hgF Xl el Nl Zl Kl fl_0 fl_1
      refine g_iloadN 47 Xl hx (hb hby d1_46) rfl (v := lv) rfl ?_
      refine g_iloadN 48 Xl hx (hb hby d1_47) rfl (v := p2) rfl ?_
      by_cases hc48_28 : lv < p2
      ·
        refine g_icmpNo 51 Xl hx (hb hby d1_48)  (tlt hc48_28).2.1 rfl ?_
        refine g_aloadN 52 Xl hx (hb hby d1_51) rfl (v := (.ref b1)) rfl rfl ?_
        refine g_iloadN 53 Xl hx (hb hby d1_52) rfl (v := lv) rfl ?_
        refine g_iconst 54 Xl hx (hb hby d1_53) rfl (z := (1 : Int32)) rfl ?_
        refine g_iadd 55 Xl hx (hb hby d1_54) rfl (z := (lv + (1 : Int32))) rfl ?_
        refine g_dup2 56 Xl hx (hb hby d1_55) rfl rfl rfl ?_
        refine g_iaload 57 Xl hx hZ el fl_1 ((lv + (1 : Int32)).toInt.toNat) (own_nat0 (by have q := Int32.lt_iff_toInt_lt.mp hc48_28; rw [own_inc (by omega)]; omega)) rfl (z := (gF.getD (lv + (1 : Int32)).toInt.toNat 0)) (own_get (by have q := Int32.lt_iff_toInt_lt.mp hc48_28; rw [hgl, own_inc (by omega)]; omega)) (hb hby d1_56) rfl ?_
        refine g_aloadN 58 Xl hx (hb hby d1_57) rfl (v := (.ref b1)) rfl rfl ?_
        refine g_iloadN 59 Xl hx (hb hby d1_58) rfl (v := lv) rfl ?_
        refine g_iaload 60 Xl hx hZ el fl_1 (lv.toInt.toNat) (own_nat0 hv0.1) rfl (z := (gF.getD lv.toInt.toNat 0)) (own_get (by have q := Int32.lt_iff_toInt_lt.mp hc48_28; rw [hgl]; omega)) (hb hby d1_59) rfl ?_
        refine g_iadd 61 Xl hx (hb hby d1_60) rfl (z := ((gF.getD (lv + (1 : Int32)).toInt.toNat 0) + (gF.getD lv.toInt.toNat 0))) rfl ?_
        refine g_iastore 62 Xl hx hZ el fl_1 ((lv + (1 : Int32)).toInt.toNat) (own_nat0 (by have q := Int32.lt_iff_toInt_lt.mp hc48_28; rw [own_inc (by omega)]; omega)) rfl (by have q := Int32.lt_iff_toInt_lt.mp hc48_28; rw [hgl, own_inc (by omega)]; omega) (z := ((gF.getD (lv + (1 : Int32)).toInt.toNat 0) + (gF.getD lv.toInt.toNat 0))) rfl (hb hby d1_61) rfl ?_
        intro T30 h30 X30 e30 W30 A30
        have f31 := fl_0.other W30 (Nat.ne_of_lt (Nat.lt_of_lt_of_le A_a1.lt (Nat.le_of_eq g1.symm)))
        have Zs32 : n0 ≤ h30.size := (Nat.le_trans Zl (Keep.of_wr W30).1)
        have K33 : Keep h0 h30 [] := Kl.wr W30 (Or.inr sz_b1)
        have N34 := Fr.snoc X30 Nl g_b1
        refine g_iinc 65 X30 hx (hb hby d1_62) rfl (x := lv) rfl (z := (lv + (1 : Int32))) rfl (Ls' := #[.val (.ref a1), .val (.int p2), .val (.ref b1), .val (.int (lv + (1 : Int32))), .val (.int (4 : Int32)), .val (.int (4 : Int32)), .val (.int k3)]) rfl ?_
        refine g_goto 46 X30 hx (hb hby d1_65) (by decide) (by decide) ?_
        exact ih (lv + (1 : Int32)) (List.set gF ((lv + (1 : Int32)).toInt.toNat) ((gF.getD (lv + (1 : Int32)).toInt.toNat 0) + (gF.getD lv.toInt.toNat 0))) T30 h30 _ (by have q := Int32.lt_iff_toInt_lt.mp hc48_28; rw [own_inc (by omega)]; omega) (by have q := Int32.lt_iff_toInt_lt.mp hc48_28; rw [own_inc (by omega)]; omega) (by rw [List.length_set]; exact hgl) ((own_prestep p2 lv gF (by have q := Int32.lt_iff_toInt_lt.mp hc48_28; omega) hc48_28).trans hgF) X30 e30 N34 Zs32 K33 f31 A30
      ·
        refine g_icmpYes 68 Xl hx (hb hby d1_48)  (flt hc48_28).2.1 (by decide) (by decide) ?_
        have hF2 : gF = own_F2 p2 k0 k1 k2 k3 := (own_preend p2 lv gF hc48_28).trans hgF
        have hF2l : (own_F2 p2 k0 k1 k2 k3).length = p2.toInt.toNat + 1 := by rw [← hF2]; exact hgl
        rw [hF2] at fl_1
        have hP := own_parts p2 k0 k1 k2 k3 (own_all p2 k0 k1 k2 k3 hp hk0 hk1 hk2 hk3)
        refine g_aloadN 69 Xl hx (hb hby d1_68) rfl (v := (.ref a1)) rfl rfl ?_
        refine g_arraylengthI 70 Xl hx hZ el fl_0 (z := (4 : Int32)) rfl (hb hby d1_69) rfl ?_
        refine g_new_int 72 Xl hx hZ (hw _ (List.mem_of_getElem? (i := 1) rfl)) el 4 4 (by decide) rfl (by decide) (by decide) (by decide) (by decide) (hb hby d1_70) rfl ?_
        intro T35 h35 b35 X35 e35 E35 g35 A35
        have f36 := fl_0.ext E35
        have f37 := fl_1.ext E35
        have Zs38 : n0 ≤ h35.size := (Nat.le_trans Zl E35.1)
        have K39 : Keep h0 h35 [] := Kl.ext E35
        have g_b35 : n0 ≤ b35 := Nat.le_trans Zl (Nat.le_of_eq g35.symm)
        have sz_b35 : h0.size ≤ b35 := Nat.le_trans Kl.1 (Nat.le_of_eq g35.symm)
        have A35' : AI Z h35 b35 .int [(0 : Int32), (0 : Int32), (0 : Int32), (0 : Int32)] := A35
        refine g_astoreN 73 X35 hx (hb hby d1_72) rfl (Ls' := #[.val (.ref a1), .val (.int p2), .val (.ref b1), .val (.ref b35), .val (.int (4 : Int32)), .val (.int (4 : Int32)), .val (.int k3)]) rfl rfl ?_
        refine g_aloadN 74 X35 hx (hb hby d1_73) rfl (v := (.ref b1)) rfl rfl ?_
        refine g_iloadN 75 X35 hx (hb hby d1_74) rfl (v := p2) rfl ?_
        refine g_callS 78 X35 hx hZ (y := (⟨"java/util/Arrays", "copyOf", "([II)[I"⟩ : MethodName)) hown (hw _ (List.mem_of_getElem? (i := 6) rfl)) (hw _ (List.mem_of_getElem? (i := 7) rfl)) (hw _ (List.mem_of_getElem? (i := 8) rfl)) (hw _ (List.mem_of_getElem? (i := 9) rfl)) (by decide) e35 (rm2 l Z a0 hw [] b1 p2 (own_F2 p2 k0 k1 k2 k3) h35 n0 Zs38 f37 hp hF2l) (by rw [hml]; rfl) [(.ref b1), (.int p2)] [] rfl rfl (lenOf pd_1 rfl) 0 (Nat.le_of_eq rfl) (hb hby d1_75) (by decide) (by decide) (by decide) (by decide) rfl ?_
        intro v40 T40 L40 X40 hQ40
        obtain ⟨b40, rfl, N40q, K40, g_b40, sz40, A40⟩ := hQ40
        have N40 := Fr.app Nl N40q
        have sz_b40 : h0.size ≤ b40 := Nat.le_trans K39.1 sz40
        have f41 := f36.keep K40 nin0
        have f42 := f37.keep K40 nin0
        have f43 := A35'.keep K40 nin0
        have Zs44 : n0 ≤ T40.heap.size := (Nat.le_trans Zs38 K40.1)
        have K45 : Keep h0 T40.heap [] := K39.trans K40 all0
        show Go p e below s ({ frames := 2, cells := 4, slots := 17, locals := 74 } : Room).cells ({ frames := 2, cells := 4, slots := 17, locals := 74 } : Room).slots (Q1 Z a1 p2 k0 k1 k2 k3 h0 n0) T40 (mkF m 78 #[.val (.ref a1), .val (.int p2), .val (.ref b1), .val (.ref b35), .val (.int (4 : Int32)), .val (.int (4 : Int32)), .val (.int k3)] [(.ref b40)])
        refine g_astore 80 X40 hx (hb hby d1_78) rfl (Ls' := #[.val (.ref a1), .val (.int p2), .val (.ref b1), .val (.ref b35), .val (.ref b40), .val (.int (4 : Int32)), .val (.int k3)]) rfl rfl ?_
        have AN0 : AI Z T40.heap b40 .int (own_N0 p2 k0 k1 k2 k3) := A40
        have hN0 : (own_N0 p2 k0 k1 k2 k3).length = p2.toInt.toNat := by rw [own_N0, List.length_take, hF2l]; omega
        refine g_iconst 81 X40 hx (hb hby d1_80) rfl (z := (0 : Int32)) rfl ?_
        refine g_istore 83 X40 hx (hb hby d1_81) rfl (Ls' := #[.val (.ref a1), .val (.int p2), .val (.ref b1), .val (.ref b35), .val (.ref b40), .val (.int (0 : Int32)), .val (.int k3)]) rfl ?_
        refine g_iload 85 X40 hx (hb hby d1_83) rfl (v := (0 : Int32)) rfl ?_
        refine g_aloadN 86 X40 hx (hb hby d1_85) rfl (v := (.ref a1)) rfl rfl ?_
        refine g_arraylengthI 87 X40 hx hZ rfl f41 (z := (4 : Int32)) rfl (hb hby d1_86) rfl ?_
        refine g_icmpNo 90 X40 hx (hb hby d1_87)  (tlt (by decide : (0 : Int32) < (4 : Int32))).2.1 rfl ?_
        refine g_aloadN 91 X40 hx (hb hby d1_90) rfl (v := (.ref b35)) rfl rfl ?_
        refine g_aload 93 X40 hx (hb hby d1_91) rfl (v := (.ref b40)) rfl rfl ?_
        refine g_aloadN 94 X40 hx (hb hby d1_93) rfl (v := (.ref a1)) rfl rfl ?_
        refine g_iload 96 X40 hx (hb hby d1_94) rfl (v := (0 : Int32)) rfl ?_
        refine g_iaload 97 X40 hx hZ rfl f41 0 (by decide) rfl (z := k0) rfl (hb hby d1_96) rfl ?_
        refine g_dup2 98 X40 hx (hb hby d1_97) rfl rfl rfl ?_
        refine g_iaload 99 X40 hx hZ rfl AN0 (k0.toInt.toNat) (own_nat0 hk0.1) rfl (z := ((own_N0 p2 k0 k1 k2 k3).getD k0.toInt.toNat 0)) (own_get (by rw [hN0]; omega)) (hb hby d1_98) rfl ?_
        refine g_dup_x2 100 X40 hx (hb hby d1_99) rfl rfl rfl rfl ?_
        refine g_iconst 101 X40 hx (hb hby d1_100) rfl (z := (1 : Int32)) rfl ?_
        refine g_iadd 102 X40 hx (hb hby d1_101) rfl (z := (((own_N0 p2 k0 k1 k2 k3).getD k0.toInt.toNat 0) + (1 : Int32))) rfl ?_
        refine g_iastore 103 X40 hx hZ rfl AN0 (k0.toInt.toNat) (own_nat0 hk0.1) rfl (by rw [hN0]; omega) (z := (((own_N0 p2 k0 k1 k2 k3).getD k0.toInt.toNat 0) + (1 : Int32))) rfl (hb hby d1_102) rfl ?_
        intro T46 h46 X46 e46 W46 A46
        have f47 := f41.other W46 (Nat.ne_of_lt (Nat.lt_of_lt_of_le f36.lt sz40))
        have f48 := f42.other W46 (Nat.ne_of_lt (Nat.lt_of_lt_of_le f37.lt sz40))
        have f49 := f43.other W46 (Nat.ne_of_lt (Nat.lt_of_lt_of_le A35'.lt sz40))
        have Zs50 : n0 ≤ h46.size := (Nat.le_trans Zs44 (Keep.of_wr W46).1)
        have K51 : Keep h0 h46 [] := K45.wr W46 (Or.inr sz_b40)
        have N52 := Fr.snoc X46 N40 g_b40
        have AN1 : AI Z h46 b40 .int (own_N1 p2 k0 k1 k2 k3) := A46
        have hN1 : (own_N1 p2 k0 k1 k2 k3).length = p2.toInt.toNat := by rw [own_N1, own_N, List.length_set]; exact hN0
        refine g_iload 105 X46 hx (hb hby d1_103) rfl (v := (0 : Int32)) rfl ?_
        refine g_iastore 106 X46 hx hZ e46 f49 (((own_N0 p2 k0 k1 k2 k3).getD k0.toInt.toNat 0).toInt.toNat) (own_nat0 (own_inE hP.1.1).1) rfl (by have q := (own_inE hP.1.1); show _ < 4; omega) (z := (0 : Int32)) rfl (hb hby d1_105) rfl ?_
        intro T53 h53 X53 e53 W53 A53
        have f54 := f47.other W53 (Nat.ne_of_lt (Nat.lt_of_lt_of_le fl_0.lt (Nat.le_of_eq g35.symm)))
        have f55 := f48.other W53 (Nat.ne_of_lt (Nat.lt_of_lt_of_le fl_1.lt (Nat.le_of_eq g35.symm)))
        have f56 := AN1.other W53 (Ne.symm (Nat.ne_of_lt (Nat.lt_of_lt_of_le A35'.lt sz40)))
        have Zs57 : n0 ≤ h53.size := (Nat.le_trans Zs50 (Keep.of_wr W53).1)
        have K58 : Keep h0 h53 [] := K51.wr W53 (Or.inr sz_b35)
        have N59 := Fr.snoc X53 N52 g_b35
        refine g_iinc 109 X53 hx (hb hby d1_106) rfl (x := (0 : Int32)) rfl (z := (1 : Int32)) (by decide) (Ls' := #[.val (.ref a1), .val (.int p2), .val (.ref b1), .val (.ref b35), .val (.ref b40), .val (.int (1 : Int32)), .val (.int k3)]) rfl ?_
        refine g_goto 83 X53 hx (hb hby d1_109) (by decide) (by decide) ?_
        refine g_iload 85 X53 hx (hb hby d1_83) rfl (v := (1 : Int32)) rfl ?_
        refine g_aloadN 86 X53 hx (hb hby d1_85) rfl (v := (.ref a1)) rfl rfl ?_
        refine g_arraylengthI 87 X53 hx hZ e53 f54 (z := (4 : Int32)) rfl (hb hby d1_86) rfl ?_
        refine g_icmpNo 90 X53 hx (hb hby d1_87)  (tlt (by decide : (1 : Int32) < (4 : Int32))).2.1 rfl ?_
        refine g_aloadN 91 X53 hx (hb hby d1_90) rfl (v := (.ref b35)) rfl rfl ?_
        refine g_aload 93 X53 hx (hb hby d1_91) rfl (v := (.ref b40)) rfl rfl ?_
        refine g_aloadN 94 X53 hx (hb hby d1_93) rfl (v := (.ref a1)) rfl rfl ?_
        refine g_iload 96 X53 hx (hb hby d1_94) rfl (v := (1 : Int32)) rfl ?_
        refine g_iaload 97 X53 hx hZ e53 f54 1 (by decide) rfl (z := k1) rfl (hb hby d1_96) rfl ?_
        refine g_dup2 98 X53 hx (hb hby d1_97) rfl rfl rfl ?_
        refine g_iaload 99 X53 hx hZ e53 f56 (k1.toInt.toNat) (own_nat0 hk1.1) rfl (z := ((own_N1 p2 k0 k1 k2 k3).getD k1.toInt.toNat 0)) (own_get (by rw [hN1]; omega)) (hb hby d1_98) rfl ?_
        refine g_dup_x2 100 X53 hx (hb hby d1_99) rfl rfl rfl rfl ?_
        refine g_iconst 101 X53 hx (hb hby d1_100) rfl (z := (1 : Int32)) rfl ?_
        refine g_iadd 102 X53 hx (hb hby d1_101) rfl (z := (((own_N1 p2 k0 k1 k2 k3).getD k1.toInt.toNat 0) + (1 : Int32))) rfl ?_
        refine g_iastore 103 X53 hx hZ e53 f56 (k1.toInt.toNat) (own_nat0 hk1.1) rfl (by rw [hN1]; omega) (z := (((own_N1 p2 k0 k1 k2 k3).getD k1.toInt.toNat 0) + (1 : Int32))) rfl (hb hby d1_102) rfl ?_
        intro T60 h60 X60 e60 W60 A60
        have f61 := f54.other W60 (Nat.ne_of_lt (Nat.lt_of_lt_of_le f36.lt sz40))
        have f62 := f55.other W60 (Nat.ne_of_lt (Nat.lt_of_lt_of_le f37.lt sz40))
        have f63 := A53.other W60 (Nat.ne_of_lt (Nat.lt_of_lt_of_le A35'.lt sz40))
        have Zs64 : n0 ≤ h60.size := (Nat.le_trans Zs57 (Keep.of_wr W60).1)
        have K65 : Keep h0 h60 [] := K58.wr W60 (Or.inr sz_b40)
        have N66 := Fr.snoc X60 N59 g_b40
        have AN2 : AI Z h60 b40 .int (own_N2 p2 k0 k1 k2 k3) := A60
        have hN2 : (own_N2 p2 k0 k1 k2 k3).length = p2.toInt.toNat := by rw [own_N2, own_N, List.length_set]; exact hN1
        refine g_iload 105 X60 hx (hb hby d1_103) rfl (v := (1 : Int32)) rfl ?_
        refine g_iastore 106 X60 hx hZ e60 f63 (((own_N1 p2 k0 k1 k2 k3).getD k1.toInt.toNat 0).toInt.toNat) (own_nat0 (own_inE hP.1.2.1).1) rfl (by have q := (own_inE hP.1.2.1); rw [List.length_set]; show _ < 4; omega) (z := (1 : Int32)) rfl (hb hby d1_105) rfl ?_
        intro T67 h67 X67 e67 W67 A67
        have f68 := f61.other W67 (Nat.ne_of_lt (Nat.lt_of_lt_of_le fl_0.lt (Nat.le_of_eq g35.symm)))
        have f69 := f62.other W67 (Nat.ne_of_lt (Nat.lt_of_lt_of_le fl_1.lt (Nat.le_of_eq g35.symm)))
        have f70 := AN2.other W67 (Ne.symm (Nat.ne_of_lt (Nat.lt_of_lt_of_le A35'.lt sz40)))
        have Zs71 : n0 ≤ h67.size := (Nat.le_trans Zs64 (Keep.of_wr W67).1)
        have K72 : Keep h0 h67 [] := K65.wr W67 (Or.inr sz_b35)
        have N73 := Fr.snoc X67 N66 g_b35
        refine g_iinc 109 X67 hx (hb hby d1_106) rfl (x := (1 : Int32)) rfl (z := (2 : Int32)) (by decide) (Ls' := #[.val (.ref a1), .val (.int p2), .val (.ref b1), .val (.ref b35), .val (.ref b40), .val (.int (2 : Int32)), .val (.int k3)]) rfl ?_
        refine g_goto 83 X67 hx (hb hby d1_109) (by decide) (by decide) ?_
        refine g_iload 85 X67 hx (hb hby d1_83) rfl (v := (2 : Int32)) rfl ?_
        refine g_aloadN 86 X67 hx (hb hby d1_85) rfl (v := (.ref a1)) rfl rfl ?_
        refine g_arraylengthI 87 X67 hx hZ e67 f68 (z := (4 : Int32)) rfl (hb hby d1_86) rfl ?_
        refine g_icmpNo 90 X67 hx (hb hby d1_87)  (tlt (by decide : (2 : Int32) < (4 : Int32))).2.1 rfl ?_
        refine g_aloadN 91 X67 hx (hb hby d1_90) rfl (v := (.ref b35)) rfl rfl ?_
        refine g_aload 93 X67 hx (hb hby d1_91) rfl (v := (.ref b40)) rfl rfl ?_
        refine g_aloadN 94 X67 hx (hb hby d1_93) rfl (v := (.ref a1)) rfl rfl ?_
        refine g_iload 96 X67 hx (hb hby d1_94) rfl (v := (2 : Int32)) rfl ?_
        refine g_iaload 97 X67 hx hZ e67 f68 2 (by decide) rfl (z := k2) rfl (hb hby d1_96) rfl ?_
        refine g_dup2 98 X67 hx (hb hby d1_97) rfl rfl rfl ?_
        refine g_iaload 99 X67 hx hZ e67 f70 (k2.toInt.toNat) (own_nat0 hk2.1) rfl (z := ((own_N2 p2 k0 k1 k2 k3).getD k2.toInt.toNat 0)) (own_get (by rw [hN2]; omega)) (hb hby d1_98) rfl ?_
        refine g_dup_x2 100 X67 hx (hb hby d1_99) rfl rfl rfl rfl ?_
        refine g_iconst 101 X67 hx (hb hby d1_100) rfl (z := (1 : Int32)) rfl ?_
        refine g_iadd 102 X67 hx (hb hby d1_101) rfl (z := (((own_N2 p2 k0 k1 k2 k3).getD k2.toInt.toNat 0) + (1 : Int32))) rfl ?_
        refine g_iastore 103 X67 hx hZ e67 f70 (k2.toInt.toNat) (own_nat0 hk2.1) rfl (by rw [hN2]; omega) (z := (((own_N2 p2 k0 k1 k2 k3).getD k2.toInt.toNat 0) + (1 : Int32))) rfl (hb hby d1_102) rfl ?_
        intro T74 h74 X74 e74 W74 A74
        have f75 := f68.other W74 (Nat.ne_of_lt (Nat.lt_of_lt_of_le f36.lt sz40))
        have f76 := f69.other W74 (Nat.ne_of_lt (Nat.lt_of_lt_of_le f37.lt sz40))
        have f77 := A67.other W74 (Nat.ne_of_lt (Nat.lt_of_lt_of_le A35'.lt sz40))
        have Zs78 : n0 ≤ h74.size := (Nat.le_trans Zs71 (Keep.of_wr W74).1)
        have K79 : Keep h0 h74 [] := K72.wr W74 (Or.inr sz_b40)
        have N80 := Fr.snoc X74 N73 g_b40
        have AN3 : AI Z h74 b40 .int (own_N3 p2 k0 k1 k2 k3) := A74
        have hN3 : (own_N3 p2 k0 k1 k2 k3).length = p2.toInt.toNat := by rw [own_N3, own_N, List.length_set]; exact hN2
        refine g_iload 105 X74 hx (hb hby d1_103) rfl (v := (2 : Int32)) rfl ?_
        refine g_iastore 106 X74 hx hZ e74 f77 (((own_N2 p2 k0 k1 k2 k3).getD k2.toInt.toNat 0).toInt.toNat) (own_nat0 (own_inE hP.1.2.2.1).1) rfl (by have q := (own_inE hP.1.2.2.1); rw [List.length_set, List.length_set]; show _ < 4; omega) (z := (2 : Int32)) rfl (hb hby d1_105) rfl ?_
        intro T81 h81 X81 e81 W81 A81
        have f82 := f75.other W81 (Nat.ne_of_lt (Nat.lt_of_lt_of_le fl_0.lt (Nat.le_of_eq g35.symm)))
        have f83 := f76.other W81 (Nat.ne_of_lt (Nat.lt_of_lt_of_le fl_1.lt (Nat.le_of_eq g35.symm)))
        have f84 := AN3.other W81 (Ne.symm (Nat.ne_of_lt (Nat.lt_of_lt_of_le A35'.lt sz40)))
        have Zs85 : n0 ≤ h81.size := (Nat.le_trans Zs78 (Keep.of_wr W81).1)
        have K86 : Keep h0 h81 [] := K79.wr W81 (Or.inr sz_b35)
        have N87 := Fr.snoc X81 N80 g_b35
        refine g_iinc 109 X81 hx (hb hby d1_106) rfl (x := (2 : Int32)) rfl (z := (3 : Int32)) (by decide) (Ls' := #[.val (.ref a1), .val (.int p2), .val (.ref b1), .val (.ref b35), .val (.ref b40), .val (.int (3 : Int32)), .val (.int k3)]) rfl ?_
        refine g_goto 83 X81 hx (hb hby d1_109) (by decide) (by decide) ?_
        refine g_iload 85 X81 hx (hb hby d1_83) rfl (v := (3 : Int32)) rfl ?_
        refine g_aloadN 86 X81 hx (hb hby d1_85) rfl (v := (.ref a1)) rfl rfl ?_
        refine g_arraylengthI 87 X81 hx hZ e81 f82 (z := (4 : Int32)) rfl (hb hby d1_86) rfl ?_
        refine g_icmpNo 90 X81 hx (hb hby d1_87)  (tlt (by decide : (3 : Int32) < (4 : Int32))).2.1 rfl ?_
        refine g_aloadN 91 X81 hx (hb hby d1_90) rfl (v := (.ref b35)) rfl rfl ?_
        refine g_aload 93 X81 hx (hb hby d1_91) rfl (v := (.ref b40)) rfl rfl ?_
        refine g_aloadN 94 X81 hx (hb hby d1_93) rfl (v := (.ref a1)) rfl rfl ?_
        refine g_iload 96 X81 hx (hb hby d1_94) rfl (v := (3 : Int32)) rfl ?_
        refine g_iaload 97 X81 hx hZ e81 f82 3 (by decide) rfl (z := k3) rfl (hb hby d1_96) rfl ?_
        refine g_dup2 98 X81 hx (hb hby d1_97) rfl rfl rfl ?_
        refine g_iaload 99 X81 hx hZ e81 f84 (k3.toInt.toNat) (own_nat0 hk3.1) rfl (z := ((own_N3 p2 k0 k1 k2 k3).getD k3.toInt.toNat 0)) (own_get (by rw [hN3]; omega)) (hb hby d1_98) rfl ?_
        refine g_dup_x2 100 X81 hx (hb hby d1_99) rfl rfl rfl rfl ?_
        refine g_iconst 101 X81 hx (hb hby d1_100) rfl (z := (1 : Int32)) rfl ?_
        refine g_iadd 102 X81 hx (hb hby d1_101) rfl (z := (((own_N3 p2 k0 k1 k2 k3).getD k3.toInt.toNat 0) + (1 : Int32))) rfl ?_
        refine g_iastore 103 X81 hx hZ e81 f84 (k3.toInt.toNat) (own_nat0 hk3.1) rfl (by rw [hN3]; omega) (z := (((own_N3 p2 k0 k1 k2 k3).getD k3.toInt.toNat 0) + (1 : Int32))) rfl (hb hby d1_102) rfl ?_
        intro T88 h88 X88 e88 W88 A88
        have f89 := f82.other W88 (Nat.ne_of_lt (Nat.lt_of_lt_of_le f36.lt sz40))
        have f90 := f83.other W88 (Nat.ne_of_lt (Nat.lt_of_lt_of_le f37.lt sz40))
        have f91 := A81.other W88 (Nat.ne_of_lt (Nat.lt_of_lt_of_le A35'.lt sz40))
        have Zs92 : n0 ≤ h88.size := (Nat.le_trans Zs85 (Keep.of_wr W88).1)
        have K93 : Keep h0 h88 [] := K86.wr W88 (Or.inr sz_b40)
        have N94 := Fr.snoc X88 N87 g_b40
        refine g_iload 105 X88 hx (hb hby d1_103) rfl (v := (3 : Int32)) rfl ?_
        refine g_iastore 106 X88 hx hZ e88 f91 (((own_N3 p2 k0 k1 k2 k3).getD k3.toInt.toNat 0).toInt.toNat) (own_nat0 (own_inE hP.1.2.2.2).1) rfl (by have q := (own_inE hP.1.2.2.2); rw [List.length_set, List.length_set, List.length_set]; show _ < 4; omega) (z := (3 : Int32)) rfl (hb hby d1_105) rfl ?_
        intro T95 h95 X95 e95 W95 A95
        have f96 := f89.other W95 (Nat.ne_of_lt (Nat.lt_of_lt_of_le fl_0.lt (Nat.le_of_eq g35.symm)))
        have f97 := f90.other W95 (Nat.ne_of_lt (Nat.lt_of_lt_of_le fl_1.lt (Nat.le_of_eq g35.symm)))
        have f98 := A88.other W95 (Ne.symm (Nat.ne_of_lt (Nat.lt_of_lt_of_le A35'.lt sz40)))
        have Zs99 : n0 ≤ h95.size := (Nat.le_trans Zs92 (Keep.of_wr W95).1)
        have K100 : Keep h0 h95 [] := K93.wr W95 (Or.inr sz_b35)
        have N101 := Fr.snoc X95 N94 g_b35
        refine g_iinc 109 X95 hx (hb hby d1_106) rfl (x := (3 : Int32)) rfl (z := (4 : Int32)) (by decide) (Ls' := #[.val (.ref a1), .val (.int p2), .val (.ref b1), .val (.ref b35), .val (.ref b40), .val (.int (4 : Int32)), .val (.int k3)]) rfl ?_
        refine g_goto 83 X95 hx (hb hby d1_109) (by decide) (by decide) ?_
        refine g_iload 85 X95 hx (hb hby d1_83) rfl (v := (4 : Int32)) rfl ?_
        refine g_aloadN 86 X95 hx (hb hby d1_85) rfl (v := (.ref a1)) rfl rfl ?_
        refine g_arraylengthI 87 X95 hx hZ e95 f96 (z := (4 : Int32)) rfl (hb hby d1_86) rfl ?_
        refine g_icmpYes 112 X95 hx (hb hby d1_87)  (flt (Int32.lt_irrefl)).2.1 (by decide) (by decide) ?_
        refine g_newO 115 X95 hx hZ hown (hw _ (List.mem_of_getElem? (i := 18) rfl)) (hw _ (List.mem_of_getElem? (i := 19) rfl)) (hw _ (List.mem_of_getElem? (i := 4) rfl)) e95 (hb hby d1_112) (by decide) (by decide) rfl ?_
        intro T102 h102 b102 X102 e102 E102 g102 A102 D102
        have f103 := f96.ext E102
        have f104 := f97.ext E102
        have f105 := A95.ext E102
        have f106 := f98.ext E102
        have Zs107 : n0 ≤ h102.size := (Nat.le_trans Zs99 E102.1)
        have K108 : Keep h0 h102 [] := K100.ext E102
        have g_b102 : n0 ≤ b102 := Nat.le_trans Zs99 (Nat.le_of_eq g102.symm)
        have sz_b102 : h0.size ≤ b102 := Nat.le_trans K100.1 (Nat.le_of_eq g102.symm)
        have f109 : Fld Z h102 b102 "com/example/bar_visibility/barvisibility/Groups" "first" "[I" .null := D102 (Or.inr (hw _ (List.mem_of_getElem? (i := 27) rfl))) (ty := (.array .int)) (by decide)
        have f110 : Fld Z h102 b102 "com/example/bar_visibility/barvisibility/Groups" "items" "[I" .null := D102 (Or.inr (hw _ (List.mem_of_getElem? (i := 29) rfl))) (ty := (.array .int)) (by decide)
        refine g_dup 116 X102 hx (hb hby d1_115) rfl rfl ?_
        refine g_aloadN 117 X102 hx (hb hby d1_116) rfl (v := (.ref b1)) rfl rfl ?_
        refine g_aloadN 118 X102 hx (hb hby d1_117) rfl (v := (.ref b35)) rfl rfl ?_
        refine g_callI 121 X102 hx hZ (y := (⟨"com/example/bar_visibility/barvisibility/Groups", "<init>", "([I[I)V"⟩ : MethodName)) rfl hown (hw _ (List.mem_of_getElem? (i := 20) rfl)) (hw _ (List.mem_of_getElem? (i := 21) rfl)) (hw _ (List.mem_of_getElem? (i := 4) rfl)) (hw _ (List.mem_of_getElem? (i := 22) rfl)) (by decide) e102 (rm4 l Z a0 hw [] b102 b1 b35 h102 n0 Zs107 A102 f109 f110 g_b102) (by rw [hml]; rfl) b102 [(.ref b1), (.ref b35)] [(.ref b102)] rfl rfl (lenOf pd_2 rfl) 1 (Nat.le_of_eq rfl) (hb hby d1_118) (by decide) (by decide) (by decide) (by decide) rfl ?_
        intro v111 T111 L111 X111 hQ111
        obtain ⟨rfl, N111q, K111, E111, F111_0, F111_1⟩ := hQ111
        have N111 := Fr.app N101 N111q
        have f112 := f103.keep K111 (ninS (Nat.ne_of_lt (Nat.lt_of_lt_of_le f96.lt (Nat.le_of_eq g102.symm))) nin0)
        have f113 := f104.keep K111 (ninS (Nat.ne_of_lt (Nat.lt_of_lt_of_le f97.lt (Nat.le_of_eq g102.symm))) nin0)
        have f114 := f105.keep K111 (ninS (Nat.ne_of_lt (Nat.lt_of_lt_of_le A95.lt (Nat.le_of_eq g102.symm))) nin0)
        have f115 := f106.keep K111 (ninS (Nat.ne_of_lt (Nat.lt_of_lt_of_le f98.lt (Nat.le_of_eq g102.symm))) nin0)
        have Zs116 : n0 ≤ T111.heap.size := (Nat.le_trans Zs107 K111.1)
        have K117 : Keep h0 T111.heap [] := K108.trans K111 (allS (Or.inr sz_b102) all0)
        show Go p e below s ({ frames := 2, cells := 4, slots := 17, locals := 74 } : Room).cells ({ frames := 2, cells := 4, slots := 17, locals := 74 } : Room).slots (Q1 Z a1 p2 k0 k1 k2 k3 h0 n0) T111 (mkF m 121 #[.val (.ref a1), .val (.int p2), .val (.ref b1), .val (.ref b35), .val (.ref b40), .val (.int (4 : Int32)), .val (.int k3)] [(.ref b102)])
        exact g_retA X111 hx Bd.returns hlk rfl rfl rfl (hb hby d1_121) (by decide) (by decide) (by
        show Q1 Z a1 p2 k0 k1 k2 k3 h0 n0 _ T111.heap _
        exact ⟨b102, b1, b35, rfl, N111, K117, E111, F111_0, F111_1, f113, f114⟩)
  exact LOOP46 _ (0 : Int32) FF28 T23 h23 _ (Nat.lt_succ_self _) (⟨by decide, by simp only [Int32.reduceToInt]; omega⟩) lFF28 (by rw [hF1, own_F2, show (p2.toInt - (0 : Int32).toInt).toNat = p2.toInt.toNat by simp only [Int32.reduceToInt]; omega]) X23 e23 N27 Zs25 K26 f24 AFF28
theorem d6_0 : decode prog_6_method_4_code 0 = .ok (.aload_n 0, 1) := by decide +kernel
theorem d6_1 : decode prog_6_method_4_code 1 = .ok (.getfield 7, 3) := by decide +kernel
theorem d6_4 : decode prog_6_method_4_code 4 = .ok (.areturn, 1) := by decide +kernel
def Q6 (Z : State) (a1 w : Addr) (h0 : Heap) (n0 : Nat) (v : Option Value) (h : Heap) (L : List Loc) : Prop := v = some (.ref w) ∧ Fr n0 L ∧ h = h0
theorem ef_rm6 (m : MethodId) (a1 : Addr) : entryFrame m #[(.ref a1)] 1 = mkF m 0 #[.val (.ref a1)] [] := by first | (simp [entryFrame, mkF, argsToLocals, Value.category]; done) | rfl
set_option maxRecDepth 65536 in
set_option maxHeartbeats 40000000 in
theorem rm6 (l : Launch) (Z : State) (a0 : Array Value) (hw : ∀ d ∈ tables_1, d.before a0 Z = true) (ws : List Jvm.Cond) (a1 w : Addr) (h0 : Heap) (n0 : Nat) (Z0 : n0 ≤ h0.size) (F_f : Fld Z h0 a1 "com/example/bar_visibility/barvisibility/Groups" "first" "[I" (.ref w)) :
    MetFree l (⟨"com/example/bar_visibility/barvisibility/Groups", "starts", "()[I"⟩ : MethodName) (head1 (Jvm.Cond.code (⟨"com/example/bar_visibility/barvisibility/Groups", "starts", "()[I"⟩ : MethodName) prog_6_method_4_code 1 (some (.array .int)) :: ws) ({ frames := 0, cells := 0, slots := 0, locals := 0 } : Room)) (fun a U => a = #[(.ref a1)] ∧ Z.Warmed39 U.vm ∧ U.heap = h0) (fun _ _ _ _ _ => True) (fun _ U o U' => ∃ v L, o = .returned v ∧ (Q6 Z a1 w h0 n0) v U'.heap L ∧ FrameEnd U o U' L ({ frames := 0, cells := 0, slots := 0, locals := 0 } : Room).cells ({ frames := 0, cells := 0, slots := 0, locals := 0 } : Room).slots) := by
  refine MetFree.of_bodySF (plainFor_of_name pn_1) hisR ?_
  intro p e s m args below meth c s₁ Bd hml0 hP hK
  obtain ⟨rfl, hZ, hh⟩ := hP
  have hx := Bd.exec
  have hby := Bd.bytes
  have hml : c.maxLocals = 1 := hml0
  have hown : s.vm.findClass "com/example/bar_visibility/barvisibility/Groups" = some m.cls := findClass_of_methodNamed Bd.named
  have hnm := (name_of_methodNamed Bd.named Bd.method).1
  have hlk : meth.locks = false := BodyLoose.notSynchronized Bd
  have X0 : Stand p l e ({ frames := 0, cells := 0, slots := 0, locals := 0 } : Room) s m #[(.ref a1)] below meth c s₁ [] 0 0 := Stand.of_body Bd
  have e0 : s₁.heap = h0 := by rw [← hh, Bd.state]; rfl
  have N0 := Fr.nil n0
  show Go p e below s ({ frames := 0, cells := 0, slots := 0, locals := 0 } : Room).cells ({ frames := 0, cells := 0, slots := 0, locals := 0 } : Room).slots (Q6 Z a1 w h0 n0) s₁ (entryFrame m #[(.ref a1)] 1)
  rw [ef_rm6 m a1]
  refine g_aloadN 1 X0 hx (hb hby d6_0) rfl (v := (.ref a1)) rfl rfl ?_
  refine g_getF 4 X0 hx hZ hown (hw _ (List.mem_of_getElem? (i := 26) rfl)) Via.refl e0 F_f (hb hby d6_1) rfl ?_
  intro T1 X1 e1
  exact g_retA X1 hx Bd.returns hlk rfl rfl rfl (hb hby d6_4) (by decide) (by decide) ⟨rfl, N0, e1⟩
theorem d7_0 : decode prog_6_method_5_code 0 = .ok (.aload_n 0, 1) := by decide +kernel
theorem d7_1 : decode prog_6_method_5_code 1 = .ok (.getfield 13, 3) := by decide +kernel
theorem d7_4 : decode prog_6_method_5_code 4 = .ok (.areturn, 1) := by decide +kernel
def Q7 (Z : State) (a1 w : Addr) (h0 : Heap) (n0 : Nat) (v : Option Value) (h : Heap) (L : List Loc) : Prop := v = some (.ref w) ∧ Fr n0 L ∧ h = h0
theorem ef_rm7 (m : MethodId) (a1 : Addr) : entryFrame m #[(.ref a1)] 1 = mkF m 0 #[.val (.ref a1)] [] := by first | (simp [entryFrame, mkF, argsToLocals, Value.category]; done) | rfl
set_option maxRecDepth 65536 in
set_option maxHeartbeats 40000000 in
theorem rm7 (l : Launch) (Z : State) (a0 : Array Value) (hw : ∀ d ∈ tables_1, d.before a0 Z = true) (ws : List Jvm.Cond) (a1 w : Addr) (h0 : Heap) (n0 : Nat) (Z0 : n0 ≤ h0.size) (F_f : Fld Z h0 a1 "com/example/bar_visibility/barvisibility/Groups" "items" "[I" (.ref w)) :
    MetFree l (⟨"com/example/bar_visibility/barvisibility/Groups", "items", "()[I"⟩ : MethodName) (head1 (Jvm.Cond.code (⟨"com/example/bar_visibility/barvisibility/Groups", "items", "()[I"⟩ : MethodName) prog_6_method_5_code 1 (some (.array .int)) :: ws) ({ frames := 0, cells := 0, slots := 0, locals := 0 } : Room)) (fun a U => a = #[(.ref a1)] ∧ Z.Warmed39 U.vm ∧ U.heap = h0) (fun _ _ _ _ _ => True) (fun _ U o U' => ∃ v L, o = .returned v ∧ (Q7 Z a1 w h0 n0) v U'.heap L ∧ FrameEnd U o U' L ({ frames := 0, cells := 0, slots := 0, locals := 0 } : Room).cells ({ frames := 0, cells := 0, slots := 0, locals := 0 } : Room).slots) := by
  refine MetFree.of_bodySF (plainFor_of_name pn_1) hisR ?_
  intro p e s m args below meth c s₁ Bd hml0 hP hK
  obtain ⟨rfl, hZ, hh⟩ := hP
  have hx := Bd.exec
  have hby := Bd.bytes
  have hml : c.maxLocals = 1 := hml0
  have hown : s.vm.findClass "com/example/bar_visibility/barvisibility/Groups" = some m.cls := findClass_of_methodNamed Bd.named
  have hnm := (name_of_methodNamed Bd.named Bd.method).1
  have hlk : meth.locks = false := BodyLoose.notSynchronized Bd
  have X0 : Stand p l e ({ frames := 0, cells := 0, slots := 0, locals := 0 } : Room) s m #[(.ref a1)] below meth c s₁ [] 0 0 := Stand.of_body Bd
  have e0 : s₁.heap = h0 := by rw [← hh, Bd.state]; rfl
  have N0 := Fr.nil n0
  show Go p e below s ({ frames := 0, cells := 0, slots := 0, locals := 0 } : Room).cells ({ frames := 0, cells := 0, slots := 0, locals := 0 } : Room).slots (Q7 Z a1 w h0 n0) s₁ (entryFrame m #[(.ref a1)] 1)
  rw [ef_rm7 m a1]
  refine g_aloadN 1 X0 hx (hb hby d7_0) rfl (v := (.ref a1)) rfl rfl ?_
  refine g_getF 4 X0 hx hZ hown (hw _ (List.mem_of_getElem? (i := 28) rfl)) Via.refl e0 F_f (hb hby d7_1) rfl ?_
  intro T1 X1 e1
  exact g_retA X1 hx Bd.returns hlk rfl rfl rfl (hb hby d7_4) (by decide) (by decide) ⟨rfl, N0, e1⟩
theorem d8_0 : decode prog_6_method_3_code 0 = .ok (.aload_n 0, 1) := by decide +kernel
theorem d8_1 : decode prog_6_method_3_code 1 = .ok (.getfield 7, 3) := by decide +kernel
theorem d8_4 : decode prog_6_method_3_code 4 = .ok (.arraylength, 1) := by decide +kernel
theorem d8_5 : decode prog_6_method_3_code 5 = .ok (.iconst 1, 1) := by decide +kernel
theorem d8_6 : decode prog_6_method_3_code 6 = .ok (.isub, 1) := by decide +kernel
theorem d8_7 : decode prog_6_method_3_code 7 = .ok (.ireturn, 1) := by decide +kernel
def Q8 (Z : State) (a1 w : Addr) (bs : List Int32) (h0 : Heap) (n0 : Nat) (v : Option Value) (h : Heap) (L : List Loc) : Prop := v = some (.int (Int32.ofNat bs.length - (1 : Int32))) ∧ Fr n0 L ∧ h = h0
theorem ef_rm8 (m : MethodId) (a1 : Addr) : entryFrame m #[(.ref a1)] 1 = mkF m 0 #[.val (.ref a1)] [] := by first | (simp [entryFrame, mkF, argsToLocals, Value.category]; done) | rfl
set_option maxRecDepth 65536 in
set_option maxHeartbeats 40000000 in
theorem rm8 (l : Launch) (Z : State) (a0 : Array Value) (hw : ∀ d ∈ tables_1, d.before a0 Z = true) (ws : List Jvm.Cond) (a1 w : Addr) (bs : List Int32) (h0 : Heap) (n0 : Nat) (Z0 : n0 ≤ h0.size) (F_f : Fld Z h0 a1 "com/example/bar_visibility/barvisibility/Groups" "first" "[I" (.ref w)) (A_w : AI Z h0 w .int bs) :
    MetFree l (⟨"com/example/bar_visibility/barvisibility/Groups", "groupCount", "()I"⟩ : MethodName) (head1 (Jvm.Cond.code (⟨"com/example/bar_visibility/barvisibility/Groups", "groupCount", "()I"⟩ : MethodName) prog_6_method_3_code 1 (some .int) :: ws) ({ frames := 0, cells := 0, slots := 0, locals := 0 } : Room)) (fun a U => a = #[(.ref a1)] ∧ Z.Warmed39 U.vm ∧ U.heap = h0) (fun _ _ _ _ _ => True) (fun _ U o U' => ∃ v L, o = .returned v ∧ (Q8 Z a1 w bs h0 n0) v U'.heap L ∧ FrameEnd U o U' L ({ frames := 0, cells := 0, slots := 0, locals := 0 } : Room).cells ({ frames := 0, cells := 0, slots := 0, locals := 0 } : Room).slots) := by
  refine MetFree.of_bodySF (plainFor_of_name pn_1) hisR ?_
  intro p e s m args below meth c s₁ Bd hml0 hP hK
  obtain ⟨rfl, hZ, hh⟩ := hP
  have hx := Bd.exec
  have hby := Bd.bytes
  have hml : c.maxLocals = 1 := hml0
  have hown : s.vm.findClass "com/example/bar_visibility/barvisibility/Groups" = some m.cls := findClass_of_methodNamed Bd.named
  have hnm := (name_of_methodNamed Bd.named Bd.method).1
  have hlk : meth.locks = false := BodyLoose.notSynchronized Bd
  have X0 : Stand p l e ({ frames := 0, cells := 0, slots := 0, locals := 0 } : Room) s m #[(.ref a1)] below meth c s₁ [] 0 0 := Stand.of_body Bd
  have e0 : s₁.heap = h0 := by rw [← hh, Bd.state]; rfl
  have N0 := Fr.nil n0
  show Go p e below s ({ frames := 0, cells := 0, slots := 0, locals := 0 } : Room).cells ({ frames := 0, cells := 0, slots := 0, locals := 0 } : Room).slots (Q8 Z a1 w bs h0 n0) s₁ (entryFrame m #[(.ref a1)] 1)
  rw [ef_rm8 m a1]
  refine g_aloadN 1 X0 hx (hb hby d8_0) rfl (v := (.ref a1)) rfl rfl ?_
  refine g_getF 4 X0 hx hZ hown (hw _ (List.mem_of_getElem? (i := 26) rfl)) Via.refl e0 F_f (hb hby d8_1) rfl ?_
  intro T1 X1 e1
  refine g_arraylengthI 5 X1 hx hZ e1 A_w (z := (Int32.ofNat bs.length)) rfl (hb hby d8_4) rfl ?_
  refine g_iconst 6 X1 hx (hb hby d8_5) rfl (z := (1 : Int32)) rfl ?_
  refine g_isub 7 X1 hx (hb hby d8_6) rfl (z := ((Int32.ofNat bs.length) - (1 : Int32))) rfl ?_
  exact g_retI X1 hx Bd.returns hlk (hb hby d8_7) (by decide) (by decide) ⟨rfl, N0, e1⟩
theorem pn_2 : plainName "com/example/bar_visibility/barvisibility/GroupsByKeyPinLaw" = true := by first | (simp [plainName, overriddenIn]; done) | decide +kernel
theorem d11_0 : decode method_2_code 0 = .ok (.iload_n 0, 1) := by decide +kernel
theorem d11_1 : decode method_2_code 1 = .ok (.iload_n 1, 1) := by decide +kernel
theorem d11_2 : decode method_2_code 2 = .ok (.if_icmp .ge 7, 3) := by decide +kernel
theorem d11_5 : decode method_2_code 5 = .ok (.iconst 1, 1) := by decide +kernel
theorem d11_6 : decode method_2_code 6 = .ok (.goto 4, 3) := by decide +kernel
theorem d11_9 : decode method_2_code 9 = .ok (.iconst 0, 1) := by decide +kernel
theorem d11_10 : decode method_2_code 10 = .ok (.ireturn, 1) := by decide +kernel
def Rel11 (p1 : Int32) (p2 : Int32) (r : Int32) : Prop := r = own_lt p1 p2
def Q11 (Z : State) (p1 : Int32) (p2 : Int32) (h0 : Heap) (n0 : Nat) (v : Option Value) (h : Heap) (L : List Loc) : Prop := ∃ r : Int32, v = some (.int r) ∧ Rel11 p1 p2 r ∧ Fr n0 L ∧ h = h0
theorem ef_rm11 (m : MethodId) (p1 : Int32) (p2 : Int32) : entryFrame m #[(.int p1), (.int p2)] 2 = mkF m 0 #[.val (.int p1), .val (.int p2)] [] := by first | (simp [entryFrame, mkF, argsToLocals, Value.category]; done) | rfl
set_option maxRecDepth 65536 in
set_option maxHeartbeats 40000000 in
theorem rm11 (l : Launch) (Z : State) (a0 : Array Value) (hw : ∀ d ∈ tables_1, d.before a0 Z = true) (ws : List Jvm.Cond) (p1 : Int32) (p2 : Int32) (h0 : Heap) (n0 : Nat) (Z0 : n0 ≤ h0.size)  :
    MetFree l (⟨"com/example/bar_visibility/barvisibility/GroupsByKeyPinLaw", "lt", "(II)I"⟩ : MethodName) (head1 (Jvm.Cond.code (⟨"com/example/bar_visibility/barvisibility/GroupsByKeyPinLaw", "lt", "(II)I"⟩ : MethodName) method_2_code 2 (some .int) :: ws) ({ frames := 0, cells := 0, slots := 0, locals := 0 } : Room)) (fun a U => a = #[(.int p1), (.int p2)] ∧ Z.Warmed39 U.vm ∧ U.heap = h0) (fun _ _ _ _ _ => True) (fun _ U o U' => ∃ v L, o = .returned v ∧ (Q11 Z p1 p2 h0 n0) v U'.heap L ∧ FrameEnd U o U' L ({ frames := 0, cells := 0, slots := 0, locals := 0 } : Room).cells ({ frames := 0, cells := 0, slots := 0, locals := 0 } : Room).slots) := by
  refine MetFree.of_bodySF (plainFor_of_name pn_2) hisR ?_
  intro p e s m args below meth c s₁ Bd hml0 hP hK
  obtain ⟨rfl, hZ, hh⟩ := hP
  have hx := Bd.exec
  have hby := Bd.bytes
  have hml : c.maxLocals = 2 := hml0
  have hown : s.vm.findClass "com/example/bar_visibility/barvisibility/GroupsByKeyPinLaw" = some m.cls := findClass_of_methodNamed Bd.named
  have hnm := (name_of_methodNamed Bd.named Bd.method).1
  have hlk : meth.locks = false := BodyLoose.notSynchronized Bd
  have X0 : Stand p l e ({ frames := 0, cells := 0, slots := 0, locals := 0 } : Room) s m #[(.int p1), (.int p2)] below meth c s₁ [] 0 0 := Stand.of_body Bd
  have e0 : s₁.heap = h0 := by rw [← hh, Bd.state]; rfl
  have N0 := Fr.nil n0
  show Go p e below s ({ frames := 0, cells := 0, slots := 0, locals := 0 } : Room).cells ({ frames := 0, cells := 0, slots := 0, locals := 0 } : Room).slots (Q11 Z p1 p2 h0 n0) s₁ (entryFrame m #[(.int p1), (.int p2)] 2)
  rw [ef_rm11 m p1 p2]
  refine g_iloadN 1 X0 hx (hb hby d11_0) rfl (v := p1) rfl ?_
  refine g_iloadN 2 X0 hx (hb hby d11_1) rfl (v := p2) rfl ?_
  by_cases hc2_0 : p1 < p2
  ·
    refine g_icmpNo 5 X0 hx (hb hby d11_2)  (tlt hc2_0).2.1 rfl ?_
    refine g_iconst 6 X0 hx (hb hby d11_5) rfl (z := (1 : Int32)) rfl ?_
    refine g_goto 10 X0 hx (hb hby d11_6) (by decide) (by decide) ?_
    exact g_retI X0 hx Bd.returns hlk (hb hby d11_10) (by decide) (by decide) ⟨(1 : Int32), rfl, (by show _ = own_lt _ _; unfold own_lt; rw [if_pos hc2_0]), N0, e0⟩
  ·
    refine g_icmpYes 9 X0 hx (hb hby d11_2)  (flt hc2_0).2.1 (by decide) (by decide) ?_
    refine g_iconst 10 X0 hx (hb hby d11_9) rfl (z := (0 : Int32)) rfl ?_
    exact g_retI X0 hx Bd.returns hlk (hb hby d11_10) (by decide) (by decide) ⟨(0 : Int32), rfl, (by show _ = own_lt _ _; unfold own_lt; rw [if_neg hc2_0]), N0, e0⟩
theorem d12_0 : decode method_3_code 0 = .ok (.iload_n 0, 1) := by decide +kernel
theorem d12_1 : decode method_3_code 1 = .ok (.iload_n 1, 1) := by decide +kernel
theorem d12_2 : decode method_3_code 2 = .ok (.if_icmp .ne 7, 3) := by decide +kernel
theorem d12_5 : decode method_3_code 5 = .ok (.iconst 1, 1) := by decide +kernel
theorem d12_6 : decode method_3_code 6 = .ok (.goto 4, 3) := by decide +kernel
theorem d12_9 : decode method_3_code 9 = .ok (.iconst 0, 1) := by decide +kernel
theorem d12_10 : decode method_3_code 10 = .ok (.ireturn, 1) := by decide +kernel
def Rel12 (p1 : Int32) (p2 : Int32) (r : Int32) : Prop := r = own_eq p1 p2
def Q12 (Z : State) (p1 : Int32) (p2 : Int32) (h0 : Heap) (n0 : Nat) (v : Option Value) (h : Heap) (L : List Loc) : Prop := ∃ r : Int32, v = some (.int r) ∧ Rel12 p1 p2 r ∧ Fr n0 L ∧ h = h0
theorem ef_rm12 (m : MethodId) (p1 : Int32) (p2 : Int32) : entryFrame m #[(.int p1), (.int p2)] 2 = mkF m 0 #[.val (.int p1), .val (.int p2)] [] := by first | (simp [entryFrame, mkF, argsToLocals, Value.category]; done) | rfl
set_option maxRecDepth 65536 in
set_option maxHeartbeats 40000000 in
theorem rm12 (l : Launch) (Z : State) (a0 : Array Value) (hw : ∀ d ∈ tables_1, d.before a0 Z = true) (ws : List Jvm.Cond) (p1 : Int32) (p2 : Int32) (h0 : Heap) (n0 : Nat) (Z0 : n0 ≤ h0.size)  :
    MetFree l (⟨"com/example/bar_visibility/barvisibility/GroupsByKeyPinLaw", "eq", "(II)I"⟩ : MethodName) (head1 (Jvm.Cond.code (⟨"com/example/bar_visibility/barvisibility/GroupsByKeyPinLaw", "eq", "(II)I"⟩ : MethodName) method_3_code 2 (some .int) :: ws) ({ frames := 0, cells := 0, slots := 0, locals := 0 } : Room)) (fun a U => a = #[(.int p1), (.int p2)] ∧ Z.Warmed39 U.vm ∧ U.heap = h0) (fun _ _ _ _ _ => True) (fun _ U o U' => ∃ v L, o = .returned v ∧ (Q12 Z p1 p2 h0 n0) v U'.heap L ∧ FrameEnd U o U' L ({ frames := 0, cells := 0, slots := 0, locals := 0 } : Room).cells ({ frames := 0, cells := 0, slots := 0, locals := 0 } : Room).slots) := by
  refine MetFree.of_bodySF (plainFor_of_name pn_2) hisR ?_
  intro p e s m args below meth c s₁ Bd hml0 hP hK
  obtain ⟨rfl, hZ, hh⟩ := hP
  have hx := Bd.exec
  have hby := Bd.bytes
  have hml : c.maxLocals = 2 := hml0
  have hown : s.vm.findClass "com/example/bar_visibility/barvisibility/GroupsByKeyPinLaw" = some m.cls := findClass_of_methodNamed Bd.named
  have hnm := (name_of_methodNamed Bd.named Bd.method).1
  have hlk : meth.locks = false := BodyLoose.notSynchronized Bd
  have X0 : Stand p l e ({ frames := 0, cells := 0, slots := 0, locals := 0 } : Room) s m #[(.int p1), (.int p2)] below meth c s₁ [] 0 0 := Stand.of_body Bd
  have e0 : s₁.heap = h0 := by rw [← hh, Bd.state]; rfl
  have N0 := Fr.nil n0
  show Go p e below s ({ frames := 0, cells := 0, slots := 0, locals := 0 } : Room).cells ({ frames := 0, cells := 0, slots := 0, locals := 0 } : Room).slots (Q12 Z p1 p2 h0 n0) s₁ (entryFrame m #[(.int p1), (.int p2)] 2)
  rw [ef_rm12 m p1 p2]
  refine g_iloadN 1 X0 hx (hb hby d12_0) rfl (v := p1) rfl ?_
  refine g_iloadN 2 X0 hx (hb hby d12_1) rfl (v := p2) rfl ?_
  by_cases hc2_0 : p1 = p2
  ·
    refine g_icmpNo 5 X0 hx (hb hby d12_2)  (teq hc2_0).2 rfl ?_
    refine g_iconst 6 X0 hx (hb hby d12_5) rfl (z := (1 : Int32)) rfl ?_
    refine g_goto 10 X0 hx (hb hby d12_6) (by decide) (by decide) ?_
    exact g_retI X0 hx Bd.returns hlk (hb hby d12_10) (by decide) (by decide) ⟨(1 : Int32), rfl, (by show _ = own_eq _ _; unfold own_eq; rw [if_pos hc2_0]), N0, e0⟩
  ·
    refine g_icmpYes 9 X0 hx (hb hby d12_2)  (feq hc2_0).2 (by decide) (by decide) ?_
    refine g_iconst 10 X0 hx (hb hby d12_9) rfl (z := (0 : Int32)) rfl ?_
    exact g_retI X0 hx Bd.returns hlk (hb hby d12_10) (by decide) (by decide) ⟨(0 : Int32), rfl, (by show _ = own_eq _ _; unfold own_eq; rw [if_neg hc2_0]), N0, e0⟩
theorem d10_0 : decode method_4_code 0 = .ok (.iload_n 0, 1) := by decide +kernel
theorem d10_1 : decode method_4_code 1 = .ok (.iload 4, 2) := by decide +kernel
theorem d10_3 : decode method_4_code 3 = .ok (.invokestatic 7, 3) := by decide +kernel
theorem d10_6 : decode method_4_code 6 = .ok (.iload_n 1, 1) := by decide +kernel
theorem d10_7 : decode method_4_code 7 = .ok (.iload 4, 2) := by decide +kernel
theorem d10_9 : decode method_4_code 9 = .ok (.invokestatic 7, 3) := by decide +kernel
theorem d10_12 : decode method_4_code 12 = .ok (.iadd, 1) := by decide +kernel
theorem d10_13 : decode method_4_code 13 = .ok (.iload_n 2, 1) := by decide +kernel
theorem d10_14 : decode method_4_code 14 = .ok (.iload 4, 2) := by decide +kernel
theorem d10_16 : decode method_4_code 16 = .ok (.invokestatic 7, 3) := by decide +kernel
theorem d10_19 : decode method_4_code 19 = .ok (.iadd, 1) := by decide +kernel
theorem d10_20 : decode method_4_code 20 = .ok (.iload_n 3, 1) := by decide +kernel
theorem d10_21 : decode method_4_code 21 = .ok (.iload 4, 2) := by decide +kernel
theorem d10_23 : decode method_4_code 23 = .ok (.invokestatic 7, 3) := by decide +kernel
theorem d10_26 : decode method_4_code 26 = .ok (.iadd, 1) := by decide +kernel
theorem d10_27 : decode method_4_code 27 = .ok (.ireturn, 1) := by decide +kernel
def Rel10 (p1 : Int32) (p2 : Int32) (p3 : Int32) (p4 : Int32) (p5 : Int32) (r : Int32) : Prop := r = own_below p1 p2 p3 p4 p5
def Q10 (Z : State) (p1 : Int32) (p2 : Int32) (p3 : Int32) (p4 : Int32) (p5 : Int32) (h0 : Heap) (n0 : Nat) (v : Option Value) (h : Heap) (L : List Loc) : Prop := ∃ r : Int32, v = some (.int r) ∧ Rel10 p1 p2 p3 p4 p5 r ∧ Fr n0 L ∧ h = h0
theorem ef_rm10 (m : MethodId) (p1 : Int32) (p2 : Int32) (p3 : Int32) (p4 : Int32) (p5 : Int32) : entryFrame m #[(.int p1), (.int p2), (.int p3), (.int p4), (.int p5)] 5 = mkF m 0 #[.val (.int p1), .val (.int p2), .val (.int p3), .val (.int p4), .val (.int p5)] [] := by first | (simp [entryFrame, mkF, argsToLocals, Value.category]; done) | rfl
set_option maxRecDepth 65536 in
set_option maxHeartbeats 40000000 in
theorem rm10 (l : Launch) (Z : State) (a0 : Array Value) (hw : ∀ d ∈ tables_1, d.before a0 Z = true) (ws : List Jvm.Cond) (p1 : Int32) (p2 : Int32) (p3 : Int32) (p4 : Int32) (p5 : Int32) (h0 : Heap) (n0 : Nat) (Z0 : n0 ≤ h0.size)  :
    MetFree l (⟨"com/example/bar_visibility/barvisibility/GroupsByKeyPinLaw", "below", "(IIIII)I"⟩ : MethodName) (head1 (Jvm.Cond.code (⟨"com/example/bar_visibility/barvisibility/GroupsByKeyPinLaw", "below", "(IIIII)I"⟩ : MethodName) method_4_code 5 (some .int) :: ws) ({ frames := 1, cells := 0, slots := 0, locals := 14 } : Room)) (fun a U => a = #[(.int p1), (.int p2), (.int p3), (.int p4), (.int p5)] ∧ Z.Warmed39 U.vm ∧ U.heap = h0) (fun _ _ _ _ _ => True) (fun _ U o U' => ∃ v L, o = .returned v ∧ (Q10 Z p1 p2 p3 p4 p5 h0 n0) v U'.heap L ∧ FrameEnd U o U' L ({ frames := 1, cells := 0, slots := 0, locals := 14 } : Room).cells ({ frames := 1, cells := 0, slots := 0, locals := 14 } : Room).slots) := by
  refine MetFree.of_bodySF (plainFor_of_name pn_2) hisR ?_
  intro p e s m args below meth c s₁ Bd hml0 hP hK
  obtain ⟨rfl, hZ, hh⟩ := hP
  have hx := Bd.exec
  have hby := Bd.bytes
  have hml : c.maxLocals = 5 := hml0
  have hown : s.vm.findClass "com/example/bar_visibility/barvisibility/GroupsByKeyPinLaw" = some m.cls := findClass_of_methodNamed Bd.named
  have hnm := (name_of_methodNamed Bd.named Bd.method).1
  have hlk : meth.locks = false := BodyLoose.notSynchronized Bd
  have X0 : Stand p l e ({ frames := 1, cells := 0, slots := 0, locals := 14 } : Room) s m #[(.int p1), (.int p2), (.int p3), (.int p4), (.int p5)] below meth c s₁ [] 0 0 := Stand.of_body Bd
  have e0 : s₁.heap = h0 := by rw [← hh, Bd.state]; rfl
  have N0 := Fr.nil n0
  show Go p e below s ({ frames := 1, cells := 0, slots := 0, locals := 14 } : Room).cells ({ frames := 1, cells := 0, slots := 0, locals := 14 } : Room).slots (Q10 Z p1 p2 p3 p4 p5 h0 n0) s₁ (entryFrame m #[(.int p1), (.int p2), (.int p3), (.int p4), (.int p5)] 5)
  rw [ef_rm10 m p1 p2 p3 p4 p5]
  refine g_iloadN 1 X0 hx (hb hby d10_0) rfl (v := p1) rfl ?_
  refine g_iload 3 X0 hx (hb hby d10_1) rfl (v := p5) rfl ?_
  refine g_callS 6 X0 hx hZ (y := (⟨"com/example/bar_visibility/barvisibility/GroupsByKeyPinLaw", "lt", "(II)I"⟩ : MethodName)) hown (hw _ (List.mem_of_getElem? (i := 52) rfl)) (hw _ (List.mem_of_getElem? (i := 53) rfl)) (hw _ (List.mem_of_getElem? (i := 47) rfl)) (hw _ (List.mem_of_getElem? (i := 54) rfl)) (by decide) e0 (rm11 l Z a0 hw [] p1 p5  h0 n0 Z0 ) (by rw [hml]; rfl) [(.int p1), (.int p5)] [] rfl rfl (lenOf pd_0 rfl) 0 (Nat.le_of_eq rfl) (hb hby d10_3) (by decide) (by decide) (by decide) (by decide) rfl ?_
  intro v1 T1 L1 X1 hQ1
  obtain ⟨r1, rfl, hr1, N1q, e1⟩ := hQ1
  have N1 := Fr.app N0 N1q
  show Go p e below s ({ frames := 1, cells := 0, slots := 0, locals := 14 } : Room).cells ({ frames := 1, cells := 0, slots := 0, locals := 14 } : Room).slots (Q10 Z p1 p2 p3 p4 p5 h0 n0) T1 (mkF m 6 #[.val (.int p1), .val (.int p2), .val (.int p3), .val (.int p4), .val (.int p5)] [(.int r1)])
  refine g_iloadN 7 X1 hx (hb hby d10_6) rfl (v := p2) rfl ?_
  refine g_iload 9 X1 hx (hb hby d10_7) rfl (v := p5) rfl ?_
  refine g_callS 12 X1 hx hZ (y := (⟨"com/example/bar_visibility/barvisibility/GroupsByKeyPinLaw", "lt", "(II)I"⟩ : MethodName)) hown (hw _ (List.mem_of_getElem? (i := 52) rfl)) (hw _ (List.mem_of_getElem? (i := 53) rfl)) (hw _ (List.mem_of_getElem? (i := 47) rfl)) (hw _ (List.mem_of_getElem? (i := 54) rfl)) (by decide) e1 (rm11 l Z a0 hw [] p2 p5  h0 n0 Z0 ) (by rw [hml]; rfl) [(.int p2), (.int p5)] [(.int r1)] rfl rfl (lenOf pd_0 rfl) 1 (Nat.le_of_eq rfl) (hb hby d10_9) (by decide) (by decide) (by decide) (by decide) rfl ?_
  intro v2 T2 L2 X2 hQ2
  obtain ⟨r2, rfl, hr2, N2q, e2⟩ := hQ2
  have N2 := Fr.app N1 N2q
  show Go p e below s ({ frames := 1, cells := 0, slots := 0, locals := 14 } : Room).cells ({ frames := 1, cells := 0, slots := 0, locals := 14 } : Room).slots (Q10 Z p1 p2 p3 p4 p5 h0 n0) T2 (mkF m 12 #[.val (.int p1), .val (.int p2), .val (.int p3), .val (.int p4), .val (.int p5)] [(.int r2), (.int r1)])
  refine g_iadd 13 X2 hx (hb hby d10_12) rfl (z := (r1 + r2)) rfl ?_
  refine g_iloadN 14 X2 hx (hb hby d10_13) rfl (v := p3) rfl ?_
  refine g_iload 16 X2 hx (hb hby d10_14) rfl (v := p5) rfl ?_
  refine g_callS 19 X2 hx hZ (y := (⟨"com/example/bar_visibility/barvisibility/GroupsByKeyPinLaw", "lt", "(II)I"⟩ : MethodName)) hown (hw _ (List.mem_of_getElem? (i := 52) rfl)) (hw _ (List.mem_of_getElem? (i := 53) rfl)) (hw _ (List.mem_of_getElem? (i := 47) rfl)) (hw _ (List.mem_of_getElem? (i := 54) rfl)) (by decide) e2 (rm11 l Z a0 hw [] p3 p5  h0 n0 Z0 ) (by rw [hml]; rfl) [(.int p3), (.int p5)] [(.int (r1 + r2))] rfl rfl (lenOf pd_0 rfl) 1 (Nat.le_of_eq rfl) (hb hby d10_16) (by decide) (by decide) (by decide) (by decide) rfl ?_
  intro v3 T3 L3 X3 hQ3
  obtain ⟨r3, rfl, hr3, N3q, e3⟩ := hQ3
  have N3 := Fr.app N2 N3q
  show Go p e below s ({ frames := 1, cells := 0, slots := 0, locals := 14 } : Room).cells ({ frames := 1, cells := 0, slots := 0, locals := 14 } : Room).slots (Q10 Z p1 p2 p3 p4 p5 h0 n0) T3 (mkF m 19 #[.val (.int p1), .val (.int p2), .val (.int p3), .val (.int p4), .val (.int p5)] [(.int r3), (.int (r1 + r2))])
  refine g_iadd 20 X3 hx (hb hby d10_19) rfl (z := ((r1 + r2) + r3)) rfl ?_
  refine g_iloadN 21 X3 hx (hb hby d10_20) rfl (v := p4) rfl ?_
  refine g_iload 23 X3 hx (hb hby d10_21) rfl (v := p5) rfl ?_
  refine g_callS 26 X3 hx hZ (y := (⟨"com/example/bar_visibility/barvisibility/GroupsByKeyPinLaw", "lt", "(II)I"⟩ : MethodName)) hown (hw _ (List.mem_of_getElem? (i := 52) rfl)) (hw _ (List.mem_of_getElem? (i := 53) rfl)) (hw _ (List.mem_of_getElem? (i := 47) rfl)) (hw _ (List.mem_of_getElem? (i := 54) rfl)) (by decide) e3 (rm11 l Z a0 hw [] p4 p5  h0 n0 Z0 ) (by rw [hml]; rfl) [(.int p4), (.int p5)] [(.int ((r1 + r2) + r3))] rfl rfl (lenOf pd_0 rfl) 1 (Nat.le_of_eq rfl) (hb hby d10_23) (by decide) (by decide) (by decide) (by decide) rfl ?_
  intro v4 T4 L4 X4 hQ4
  obtain ⟨r4, rfl, hr4, N4q, e4⟩ := hQ4
  have N4 := Fr.app N3 N4q
  show Go p e below s ({ frames := 1, cells := 0, slots := 0, locals := 14 } : Room).cells ({ frames := 1, cells := 0, slots := 0, locals := 14 } : Room).slots (Q10 Z p1 p2 p3 p4 p5 h0 n0) T4 (mkF m 26 #[.val (.int p1), .val (.int p2), .val (.int p3), .val (.int p4), .val (.int p5)] [(.int r4), (.int ((r1 + r2) + r3))])
  refine g_iadd 27 X4 hx (hb hby d10_26) rfl (z := (((r1 + r2) + r3) + r4)) rfl ?_
  exact g_retI X4 hx Bd.returns hlk (hb hby d10_27) (by decide) (by decide) ⟨(((r1 + r2) + r3) + r4), rfl, (by have q0 := hr1; have q1 := hr2; have q2 := hr3; have q3 := hr4; unfold Rel11 at q0 q1 q2 q3; subst q0 q1 q2 q3; rfl), N4, e4⟩
theorem pd_3 : parseMethodDescriptor "(IIIII)I" = some ⟨[.int, .int, .int, .int, .int], some .int⟩ := by decide +kernel
theorem d9_0 : decode method_5_code 0 = .ok (.iload_n 2, 1) := by decide +kernel
theorem d9_1 : decode method_5_code 1 = .ok (.iload_n 1, 1) := by decide +kernel
theorem d9_2 : decode method_5_code 2 = .ok (.if_icmp .le 5, 3) := by decide +kernel
theorem d9_5 : decode method_5_code 5 = .ok (.iconst 1, 1) := by decide +kernel
theorem d9_6 : decode method_5_code 6 = .ok (.ireturn, 1) := by decide +kernel
theorem d9_7 : decode method_5_code 7 = .ok (.aload_n 0, 1) := by decide +kernel
theorem d9_8 : decode method_5_code 8 = .ok (.iload_n 2, 1) := by decide +kernel
theorem d9_9 : decode method_5_code 9 = .ok (.iaload, 1) := by decide +kernel
theorem d9_10 : decode method_5_code 10 = .ok (.iload_n 3, 1) := by decide +kernel
theorem d9_11 : decode method_5_code 11 = .ok (.iload 4, 2) := by decide +kernel
theorem d9_13 : decode method_5_code 13 = .ok (.iload 5, 2) := by decide +kernel
theorem d9_15 : decode method_5_code 15 = .ok (.iload 6, 2) := by decide +kernel
theorem d9_17 : decode method_5_code 17 = .ok (.iload_n 2, 1) := by decide +kernel
theorem d9_18 : decode method_5_code 18 = .ok (.invokestatic 13, 3) := by decide +kernel
theorem d9_21 : decode method_5_code 21 = .ok (.if_icmp .ne 7, 3) := by decide +kernel
theorem d9_24 : decode method_5_code 24 = .ok (.iconst 1, 1) := by decide +kernel
theorem d9_25 : decode method_5_code 25 = .ok (.goto 4, 3) := by decide +kernel
theorem d9_28 : decode method_5_code 28 = .ok (.iconst 0, 1) := by decide +kernel
theorem d9_29 : decode method_5_code 29 = .ok (.ireturn, 1) := by decide +kernel
def Rel9 (p2 : Int32) (p3 : Int32) (p4 : Int32) (p5 : Int32) (p6 : Int32) (p7 : Int32) (bs1 : List Int32) (r : Int32) : Prop := r = own_sok bs1 p2 p3 p4 p5 p6 p7
def Q9 (Z : State) (a1 : Addr) (p2 : Int32) (p3 : Int32) (p4 : Int32) (p5 : Int32) (p6 : Int32) (p7 : Int32) (bs1 : List Int32) (h0 : Heap) (n0 : Nat) (v : Option Value) (h : Heap) (L : List Loc) : Prop := ∃ r : Int32, v = some (.int r) ∧ Rel9 p2 p3 p4 p5 p6 p7 bs1 r ∧ Fr n0 L ∧ h = h0
theorem ef_rm9 (m : MethodId) (a1 : Addr) (p2 : Int32) (p3 : Int32) (p4 : Int32) (p5 : Int32) (p6 : Int32) (p7 : Int32) : entryFrame m #[(.ref a1), (.int p2), (.int p3), (.int p4), (.int p5), (.int p6), (.int p7)] 7 = mkF m 0 #[.val (.ref a1), .val (.int p2), .val (.int p3), .val (.int p4), .val (.int p5), .val (.int p6), .val (.int p7)] [] := by first | (simp [entryFrame, mkF, argsToLocals, Value.category]; done) | rfl
set_option maxRecDepth 65536 in
set_option maxHeartbeats 40000000 in
theorem rm9 (l : Launch) (Z : State) (a0 : Array Value) (hw : ∀ d ∈ tables_1, d.before a0 Z = true) (ws : List Jvm.Cond) (a1 : Addr) (p2 : Int32) (p3 : Int32) (p4 : Int32) (p5 : Int32) (p6 : Int32) (p7 : Int32) (bs1 : List Int32) (h0 : Heap) (n0 : Nat) (Z0 : n0 ≤ h0.size) (A_a1 : AI Z h0 a1 .int bs1) (hrng : 0 ≤ p3.toInt ∧ p3.toInt ≤ 5) (hl : bs1.length = p2.toInt.toNat + 1) :
    MetFree l (⟨"com/example/bar_visibility/barvisibility/GroupsByKeyPinLaw", "startOk", "([IIIIIII)Z"⟩ : MethodName) (head1 (Jvm.Cond.code (⟨"com/example/bar_visibility/barvisibility/GroupsByKeyPinLaw", "startOk", "([IIIIIII)Z"⟩ : MethodName) method_5_code 7 (some .boolean) :: ws) ({ frames := 2, cells := 0, slots := 0, locals := 31 } : Room)) (fun a U => a = #[(.ref a1), (.int p2), (.int p3), (.int p4), (.int p5), (.int p6), (.int p7)] ∧ Z.Warmed39 U.vm ∧ U.heap = h0) (fun _ _ _ _ _ => True) (fun _ U o U' => ∃ v L, o = .returned v ∧ (Q9 Z a1 p2 p3 p4 p5 p6 p7 bs1 h0 n0) v U'.heap L ∧ FrameEnd U o U' L ({ frames := 2, cells := 0, slots := 0, locals := 31 } : Room).cells ({ frames := 2, cells := 0, slots := 0, locals := 31 } : Room).slots) := by
  refine MetFree.of_bodySF (plainFor_of_name pn_2) hisR ?_
  intro p e s m args below meth c s₁ Bd hml0 hP hK
  obtain ⟨rfl, hZ, hh⟩ := hP
  have hx := Bd.exec
  have hby := Bd.bytes
  have hml : c.maxLocals = 7 := hml0
  have hown : s.vm.findClass "com/example/bar_visibility/barvisibility/GroupsByKeyPinLaw" = some m.cls := findClass_of_methodNamed Bd.named
  have hnm := (name_of_methodNamed Bd.named Bd.method).1
  have hlk : meth.locks = false := BodyLoose.notSynchronized Bd
  have X0 : Stand p l e ({ frames := 2, cells := 0, slots := 0, locals := 31 } : Room) s m #[(.ref a1), (.int p2), (.int p3), (.int p4), (.int p5), (.int p6), (.int p7)] below meth c s₁ [] 0 0 := Stand.of_body Bd
  have e0 : s₁.heap = h0 := by rw [← hh, Bd.state]; rfl
  have N0 := Fr.nil n0
  show Go p e below s ({ frames := 2, cells := 0, slots := 0, locals := 31 } : Room).cells ({ frames := 2, cells := 0, slots := 0, locals := 31 } : Room).slots (Q9 Z a1 p2 p3 p4 p5 p6 p7 bs1 h0 n0) s₁ (entryFrame m #[(.ref a1), (.int p2), (.int p3), (.int p4), (.int p5), (.int p6), (.int p7)] 7)
  rw [ef_rm9 m a1 p2 p3 p4 p5 p6 p7]
  refine g_iloadN 1 X0 hx (hb hby d9_0) rfl (v := p3) rfl ?_
  refine g_iloadN 2 X0 hx (hb hby d9_1) rfl (v := p2) rfl ?_
  by_cases hc2_0 : p2 < p3
  ·
    refine g_icmpNo 5 X0 hx (hb hby d9_2)  (tlt hc2_0).2.2.2 rfl ?_
    refine g_iconst 6 X0 hx (hb hby d9_5) rfl (z := (1 : Int32)) rfl ?_
    exact g_retN X0 hx (t := .boolean) Bd.returns hlk (by simp) rfl (hb hby d9_6) (by decide) (by decide) ⟨(1 : Int32), rfl, (by show _ = own_sok _ _ _ _ _ _ _; unfold own_sok; rw [if_pos hc2_0]), N0, e0⟩
  ·
    refine g_icmpYes 7 X0 hx (hb hby d9_2)  (flt hc2_0).2.2.2 (by decide) (by decide) ?_
    refine g_aloadN 8 X0 hx (hb hby d9_7) rfl (v := (.ref a1)) rfl rfl ?_
    refine g_iloadN 9 X0 hx (hb hby d9_8) rfl (v := p3) rfl ?_
    refine g_iaload 10 X0 hx hZ e0 A_a1 (p3.toInt.toNat) (own_nat0 hrng.1) rfl (z := (bs1.getD p3.toInt.toNat 0)) (own_get (by have q := mt Int32.lt_iff_toInt_lt.mpr hc2_0; rw [hl]; omega)) (hb hby d9_9) rfl ?_
    refine g_iloadN 11 X0 hx (hb hby d9_10) rfl (v := p4) rfl ?_
    refine g_iload 13 X0 hx (hb hby d9_11) rfl (v := p5) rfl ?_
    refine g_iload 15 X0 hx (hb hby d9_13) rfl (v := p6) rfl ?_
    refine g_iload 17 X0 hx (hb hby d9_15) rfl (v := p7) rfl ?_
    refine g_iloadN 18 X0 hx (hb hby d9_17) rfl (v := p3) rfl ?_
    refine g_callS 21 X0 hx hZ (y := (⟨"com/example/bar_visibility/barvisibility/GroupsByKeyPinLaw", "below", "(IIIII)I"⟩ : MethodName)) hown (hw _ (List.mem_of_getElem? (i := 49) rfl)) (hw _ (List.mem_of_getElem? (i := 50) rfl)) (hw _ (List.mem_of_getElem? (i := 47) rfl)) (hw _ (List.mem_of_getElem? (i := 51) rfl)) (by decide) e0 (rm10 l Z a0 hw [] p4 p5 p6 p7 p3  h0 n0 Z0 ) (by rw [hml]; rfl) [(.int p4), (.int p5), (.int p6), (.int p7), (.int p3)] [(.int (bs1.getD p3.toInt.toNat 0))] rfl rfl (lenOf pd_3 rfl) 1 (Nat.le_of_eq rfl) (hb hby d9_18) (by decide) (by decide) (by decide) (by decide) rfl ?_
    intro v2 T2 L2 X2 hQ2
    obtain ⟨r2, rfl, hr2, N2q, e2⟩ := hQ2
    have N2 := Fr.app N0 N2q
    show Go p e below s ({ frames := 2, cells := 0, slots := 0, locals := 31 } : Room).cells ({ frames := 2, cells := 0, slots := 0, locals := 31 } : Room).slots (Q9 Z a1 p2 p3 p4 p5 p6 p7 bs1 h0 n0) T2 (mkF m 21 #[.val (.ref a1), .val (.int p2), .val (.int p3), .val (.int p4), .val (.int p5), .val (.int p6), .val (.int p7)] [(.int r2), (.int (bs1.getD p3.toInt.toNat 0))])
    by_cases hc21_2 : (bs1.getD p3.toInt.toNat 0) = r2
    ·
      refine g_icmpNo 24 X2 hx (hb hby d9_21)  (teq hc21_2).2 rfl ?_
      refine g_iconst 25 X2 hx (hb hby d9_24) rfl (z := (1 : Int32)) rfl ?_
      refine g_goto 29 X2 hx (hb hby d9_25) (by decide) (by decide) ?_
      exact g_retN X2 hx (t := .boolean) Bd.returns hlk (by simp) rfl (hb hby d9_29) (by decide) (by decide) ⟨(1 : Int32), rfl, (by have q := hr2; unfold Rel10 at q; subst q; show _ = own_sok _ _ _ _ _ _ _; unfold own_sok; rw [if_neg hc2_0, if_pos hc21_2]), N2, e2⟩
    ·
      refine g_icmpYes 28 X2 hx (hb hby d9_21)  (feq hc21_2).2 (by decide) (by decide) ?_
      refine g_iconst 29 X2 hx (hb hby d9_28) rfl (z := (0 : Int32)) rfl ?_
      exact g_retN X2 hx (t := .boolean) Bd.returns hlk (by simp) rfl (hb hby d9_29) (by decide) (by decide) ⟨(0 : Int32), rfl, (by have q := hr2; unfold Rel10 at q; subst q; show _ = own_sok _ _ _ _ _ _ _; unfold own_sok; rw [if_neg hc2_0, if_neg hc21_2]), N2, e2⟩
theorem pd_4 : parseMethodDescriptor "([II)Lcom/example/bar_visibility/barvisibility/Groups;" = some ⟨[(.array .int), .int], some (.object "com/example/bar_visibility/barvisibility/Groups")⟩ := by decide +kernel
theorem pd_5 : parseMethodDescriptor "()[I" = some ⟨[], some (.array .int)⟩ := by decide +kernel
theorem pd_6 : parseMethodDescriptor "()I" = some ⟨[], some .int⟩ := by decide +kernel
theorem pd_7 : parseMethodDescriptor "([IIIIIII)Z" = some ⟨[(.array .int), .int, .int, .int, .int, .int, .int], some .boolean⟩ := by decide +kernel
theorem ask0_0 (p1 : Int32) (p2 : Int32) (p3 : Int32) (p4 : Int32) (p5 : Int32) (z1 : Int32) (z2 : Int32) (z3 : Int32) (z4 : Int32) (hz1 : p5 &&& (2147483647 : Int32) = z1) (hz2 : z1 % (5 : Int32) = z2) (hz3 : (1 : Int32) + z2 = z3) (hz4 : p1 &&& (2147483647 : Int32) = z4) : z3 ≠ 0 := by
  have o0 := rng32 p5
  have o1 := rng32 (p5 &&& (2147483647 : Int32))
  have o2 := c_mask p5 (2147483647 : Int32) 31 (by decide) (by decide)
  have o3 := rng32 z1
  have o4 := rng32 (z1 % (5 : Int32))
  have o5 := c_irem z1 (5 : Int32) 5 (by decide)
  have o6 := rng32 z2
  have o7 := rng32 ((1 : Int32) + z2)
  have o8 := c_iadd (1 : Int32) z2
  have o9 := rng32 z3
  have o10 := rng32 p1
  have o11 := rng32 (p1 &&& (2147483647 : Int32))
  have o12 := c_mask p1 (2147483647 : Int32) 31 (by decide) (by decide)
  have o13 := rng32 z4
  have o14 := rng32 p2
  have o15 := rng32 p3
  have o16 := rng32 p4
  simp only [Int32.lt_iff_toInt_lt, Int64.lt_iff_toInt_lt, Int32.le_iff_toInt_le, Int64.le_iff_toInt_le, ← Int32.toInt_inj, ← Int64.toInt_inj, Int32.reduceToInt, Int64.reduceToInt, Int32.toInt_toInt64, ne_eq] at * <;> omega
theorem ask0_1 (p1 : Int32) (p2 : Int32) (p3 : Int32) (p4 : Int32) (p5 : Int32) (z1 : Int32) (z2 : Int32) (z3 : Int32) (z4 : Int32) (z6 : Int32) (z7 : Int32) (hz1 : p5 &&& (2147483647 : Int32) = z1) (hz2 : z1 % (5 : Int32) = z2) (hz3 : (1 : Int32) + z2 = z3) (hz4 : p1 &&& (2147483647 : Int32) = z4) (hz6 : z4 % z3 = z6) (hz7 : p2 &&& (2147483647 : Int32) = z7) : z3 ≠ 0 := by
  have o0 := rng32 p5
  have o1 := rng32 (p5 &&& (2147483647 : Int32))
  have o2 := c_mask p5 (2147483647 : Int32) 31 (by decide) (by decide)
  have o3 := rng32 z1
  have o4 := rng32 (z1 % (5 : Int32))
  have o5 := c_irem z1 (5 : Int32) 5 (by decide)
  have o6 := rng32 z2
  have o7 := rng32 ((1 : Int32) + z2)
  have o8 := c_iadd (1 : Int32) z2
  have o9 := rng32 z3
  have o10 := rng32 p1
  have o11 := rng32 (p1 &&& (2147483647 : Int32))
  have o12 := c_mask p1 (2147483647 : Int32) 31 (by decide) (by decide)
  have o13 := rng32 z4
  have o14 := rng32 (z4 % z3)
  have o15 := c_iremV z4 z3
  have o16 := rng32 z6
  have o17 := rng32 p2
  have o18 := rng32 (p2 &&& (2147483647 : Int32))
  have o19 := c_mask p2 (2147483647 : Int32) 31 (by decide) (by decide)
  have o20 := rng32 z7
  have o21 := rng32 p3
  have o22 := rng32 p4
  simp only [Int32.lt_iff_toInt_lt, Int64.lt_iff_toInt_lt, Int32.le_iff_toInt_le, Int64.le_iff_toInt_le, ← Int32.toInt_inj, ← Int64.toInt_inj, Int32.reduceToInt, Int64.reduceToInt, Int32.toInt_toInt64, ne_eq] at * <;> omega
theorem ask0_2 (p1 : Int32) (p2 : Int32) (p3 : Int32) (p4 : Int32) (p5 : Int32) (z1 : Int32) (z2 : Int32) (z3 : Int32) (z4 : Int32) (z6 : Int32) (z7 : Int32) (z9 : Int32) (z10 : Int32) (hz1 : p5 &&& (2147483647 : Int32) = z1) (hz2 : z1 % (5 : Int32) = z2) (hz3 : (1 : Int32) + z2 = z3) (hz4 : p1 &&& (2147483647 : Int32) = z4) (hz6 : z4 % z3 = z6) (hz7 : p2 &&& (2147483647 : Int32) = z7) (hz9 : z7 % z3 = z9) (hz10 : p3 &&& (2147483647 : Int32) = z10) : z3 ≠ 0 := by
  have o0 := rng32 p5
  have o1 := rng32 (p5 &&& (2147483647 : Int32))
  have o2 := c_mask p5 (2147483647 : Int32) 31 (by decide) (by decide)
  have o3 := rng32 z1
  have o4 := rng32 (z1 % (5 : Int32))
  have o5 := c_irem z1 (5 : Int32) 5 (by decide)
  have o6 := rng32 z2
  have o7 := rng32 ((1 : Int32) + z2)
  have o8 := c_iadd (1 : Int32) z2
  have o9 := rng32 z3
  have o10 := rng32 p1
  have o11 := rng32 (p1 &&& (2147483647 : Int32))
  have o12 := c_mask p1 (2147483647 : Int32) 31 (by decide) (by decide)
  have o13 := rng32 z4
  have o14 := rng32 (z4 % z3)
  have o15 := c_iremV z4 z3
  have o16 := rng32 z6
  have o17 := rng32 p2
  have o18 := rng32 (p2 &&& (2147483647 : Int32))
  have o19 := c_mask p2 (2147483647 : Int32) 31 (by decide) (by decide)
  have o20 := rng32 z7
  have o21 := rng32 (z7 % z3)
  have o22 := c_iremV z7 z3
  have o23 := rng32 z9
  have o24 := rng32 p3
  have o25 := rng32 (p3 &&& (2147483647 : Int32))
  have o26 := c_mask p3 (2147483647 : Int32) 31 (by decide) (by decide)
  have o27 := rng32 z10
  have o28 := rng32 p4
  simp only [Int32.lt_iff_toInt_lt, Int64.lt_iff_toInt_lt, Int32.le_iff_toInt_le, Int64.le_iff_toInt_le, ← Int32.toInt_inj, ← Int64.toInt_inj, Int32.reduceToInt, Int64.reduceToInt, Int32.toInt_toInt64, ne_eq] at * <;> omega
theorem ask0_3 (p1 : Int32) (p2 : Int32) (p3 : Int32) (p4 : Int32) (p5 : Int32) (z1 : Int32) (z2 : Int32) (z3 : Int32) (z4 : Int32) (z6 : Int32) (z7 : Int32) (z9 : Int32) (z10 : Int32) (z12 : Int32) (z13 : Int32) (hz1 : p5 &&& (2147483647 : Int32) = z1) (hz2 : z1 % (5 : Int32) = z2) (hz3 : (1 : Int32) + z2 = z3) (hz4 : p1 &&& (2147483647 : Int32) = z4) (hz6 : z4 % z3 = z6) (hz7 : p2 &&& (2147483647 : Int32) = z7) (hz9 : z7 % z3 = z9) (hz10 : p3 &&& (2147483647 : Int32) = z10) (hz12 : z10 % z3 = z12) (hz13 : p4 &&& (2147483647 : Int32) = z13) : z3 ≠ 0 := by
  have o0 := rng32 p5
  have o1 := rng32 (p5 &&& (2147483647 : Int32))
  have o2 := c_mask p5 (2147483647 : Int32) 31 (by decide) (by decide)
  have o3 := rng32 z1
  have o4 := rng32 (z1 % (5 : Int32))
  have o5 := c_irem z1 (5 : Int32) 5 (by decide)
  have o6 := rng32 z2
  have o7 := rng32 ((1 : Int32) + z2)
  have o8 := c_iadd (1 : Int32) z2
  have o9 := rng32 z3
  have o10 := rng32 p1
  have o11 := rng32 (p1 &&& (2147483647 : Int32))
  have o12 := c_mask p1 (2147483647 : Int32) 31 (by decide) (by decide)
  have o13 := rng32 z4
  have o14 := rng32 (z4 % z3)
  have o15 := c_iremV z4 z3
  have o16 := rng32 z6
  have o17 := rng32 p2
  have o18 := rng32 (p2 &&& (2147483647 : Int32))
  have o19 := c_mask p2 (2147483647 : Int32) 31 (by decide) (by decide)
  have o20 := rng32 z7
  have o21 := rng32 (z7 % z3)
  have o22 := c_iremV z7 z3
  have o23 := rng32 z9
  have o24 := rng32 p3
  have o25 := rng32 (p3 &&& (2147483647 : Int32))
  have o26 := c_mask p3 (2147483647 : Int32) 31 (by decide) (by decide)
  have o27 := rng32 z10
  have o28 := rng32 (z10 % z3)
  have o29 := c_iremV z10 z3
  have o30 := rng32 z12
  have o31 := rng32 p4
  have o32 := rng32 (p4 &&& (2147483647 : Int32))
  have o33 := c_mask p4 (2147483647 : Int32) 31 (by decide) (by decide)
  have o34 := rng32 z13
  simp only [Int32.lt_iff_toInt_lt, Int64.lt_iff_toInt_lt, Int32.le_iff_toInt_le, Int64.le_iff_toInt_le, ← Int32.toInt_inj, ← Int64.toInt_inj, Int32.reduceToInt, Int64.reduceToInt, Int32.toInt_toInt64, ne_eq] at * <;> omega
theorem sub0_4 (p5 : Int32) (z1 : Int32) (z2 : Int32) (z3 : Int32) (hz1 : p5 &&& (2147483647 : Int32) = z1) (hz2 : z1 % (5 : Int32) = z2) (hz3 : (1 : Int32) + z2 = z3) : 1 ≤ z3.toInt ∧ z3.toInt ≤ 5 := by
  have o0 := rng32 p5
  have o1 := rng32 (p5 &&& (2147483647 : Int32))
  have o2 := c_mask p5 (2147483647 : Int32) 31 (by decide) (by decide)
  have o3 := rng32 z1
  have o4 := rng32 (z1 % (5 : Int32))
  have o5 := c_irem z1 (5 : Int32) 5 (by decide)
  have o6 := rng32 z2
  have o7 := rng32 ((1 : Int32) + z2)
  have o8 := c_iadd (1 : Int32) z2
  have o9 := rng32 z3
  simp only [Int32.lt_iff_toInt_lt, Int64.lt_iff_toInt_lt, Int32.le_iff_toInt_le, Int64.le_iff_toInt_le, ← Int32.toInt_inj, ← Int64.toInt_inj, Int32.reduceToInt, Int64.reduceToInt, Int32.toInt_toInt64, ne_eq] at * <;> omega
theorem sub0_5 (p1 : Int32) (z3 : Int32) (z4 : Int32) (z6 : Int32) (hz4 : p1 &&& (2147483647 : Int32) = z4) (hz6 : z4 % z3 = z6) (hG : 1 ≤ z3.toInt ∧ z3.toInt ≤ 5) : 0 ≤ z6.toInt ∧ z6.toInt < z3.toInt := by
  have o0 := rng32 p1
  have o1 := rng32 (p1 &&& (2147483647 : Int32))
  have o2 := c_mask p1 (2147483647 : Int32) 31 (by decide) (by decide)
  have o3 := rng32 z4
  have o4 := rng32 z3
  have o5 := rng32 (z4 % z3)
  have o6 := c_iremV z4 z3
  have o7 := rng32 z6
  simp only [Int32.lt_iff_toInt_lt, Int64.lt_iff_toInt_lt, Int32.le_iff_toInt_le, Int64.le_iff_toInt_le, ← Int32.toInt_inj, ← Int64.toInt_inj, Int32.reduceToInt, Int64.reduceToInt, Int32.toInt_toInt64, ne_eq] at * <;> omega
theorem sub0_6 (p2 : Int32) (z3 : Int32) (z7 : Int32) (z9 : Int32) (hz7 : p2 &&& (2147483647 : Int32) = z7) (hz9 : z7 % z3 = z9) (hG : 1 ≤ z3.toInt ∧ z3.toInt ≤ 5) : 0 ≤ z9.toInt ∧ z9.toInt < z3.toInt := by
  have o0 := rng32 p2
  have o1 := rng32 (p2 &&& (2147483647 : Int32))
  have o2 := c_mask p2 (2147483647 : Int32) 31 (by decide) (by decide)
  have o3 := rng32 z7
  have o4 := rng32 z3
  have o5 := rng32 (z7 % z3)
  have o6 := c_iremV z7 z3
  have o7 := rng32 z9
  simp only [Int32.lt_iff_toInt_lt, Int64.lt_iff_toInt_lt, Int32.le_iff_toInt_le, Int64.le_iff_toInt_le, ← Int32.toInt_inj, ← Int64.toInt_inj, Int32.reduceToInt, Int64.reduceToInt, Int32.toInt_toInt64, ne_eq] at * <;> omega
theorem sub0_7 (p3 : Int32) (z3 : Int32) (z10 : Int32) (z12 : Int32) (hz10 : p3 &&& (2147483647 : Int32) = z10) (hz12 : z10 % z3 = z12) (hG : 1 ≤ z3.toInt ∧ z3.toInt ≤ 5) : 0 ≤ z12.toInt ∧ z12.toInt < z3.toInt := by
  have o0 := rng32 p3
  have o1 := rng32 (p3 &&& (2147483647 : Int32))
  have o2 := c_mask p3 (2147483647 : Int32) 31 (by decide) (by decide)
  have o3 := rng32 z10
  have o4 := rng32 z3
  have o5 := rng32 (z10 % z3)
  have o6 := c_iremV z10 z3
  have o7 := rng32 z12
  simp only [Int32.lt_iff_toInt_lt, Int64.lt_iff_toInt_lt, Int32.le_iff_toInt_le, Int64.le_iff_toInt_le, ← Int32.toInt_inj, ← Int64.toInt_inj, Int32.reduceToInt, Int64.reduceToInt, Int32.toInt_toInt64, ne_eq] at * <;> omega
theorem sub0_8 (p4 : Int32) (z3 : Int32) (z13 : Int32) (z15 : Int32) (hz13 : p4 &&& (2147483647 : Int32) = z13) (hz15 : z13 % z3 = z15) (hG : 1 ≤ z3.toInt ∧ z3.toInt ≤ 5) : 0 ≤ z15.toInt ∧ z15.toInt < z3.toInt := by
  have o0 := rng32 p4
  have o1 := rng32 (p4 &&& (2147483647 : Int32))
  have o2 := c_mask p4 (2147483647 : Int32) 31 (by decide) (by decide)
  have o3 := rng32 z13
  have o4 := rng32 z3
  have o5 := rng32 (z13 % z3)
  have o6 := c_iremV z13 z3
  have o7 := rng32 z15
  simp only [Int32.lt_iff_toInt_lt, Int64.lt_iff_toInt_lt, Int32.le_iff_toInt_le, Int64.le_iff_toInt_le, ← Int32.toInt_inj, ← Int64.toInt_inj, Int32.reduceToInt, Int64.reduceToInt, Int32.toInt_toInt64, ne_eq] at * <;> omega
def Q0 (Z : State) (p1 : Int32) (p2 : Int32) (p3 : Int32) (p4 : Int32) (p5 : Int32) (h0 : Heap) (n0 : Nat) (v : Option Value) (h : Heap) (L : List Loc) : Prop := v = some (.int (1 : Int32)) ∧ Fr n0 L
theorem ef_rm0 (m : MethodId) (p1 : Int32) (p2 : Int32) (p3 : Int32) (p4 : Int32) (p5 : Int32) : entryFrame m #[(.int p1), (.int p2), (.int p3), (.int p4), (.int p5)] maxLocals = mkF m 0 #[.val (.int p1), .val (.int p2), .val (.int p3), .val (.int p4), .val (.int p5), .unset, .unset, .unset, .unset, .unset, .unset, .unset, .unset, .unset, .unset, .unset, .unset, .unset] [] := by first | (simp [entryFrame, mkF, argsToLocals, Value.category, maxLocals]; done) | rfl
set_option maxRecDepth 65536 in
set_option maxHeartbeats 40000000 in
theorem rm0 (l : Launch) (Z : State) (a0 : Array Value) (hw : ∀ d ∈ tables_1, d.before a0 Z = true) (ws : List Jvm.Cond) (p1 : Int32) (p2 : Int32) (p3 : Int32) (p4 : Int32) (p5 : Int32) (h0 : Heap) (n0 : Nat) (Z0 : n0 ≤ h0.size)  :
    MetFree l x (head1 (Jvm.Cond.code x code maxLocals ret :: ws) room_1) (fun a U => a = #[(.int p1), (.int p2), (.int p3), (.int p4), (.int p5)] ∧ Z.Warmed39 U.vm ∧ U.heap = h0) (fun _ _ _ _ _ => True) (fun _ U o U' => ∃ v L, o = .returned v ∧ (Q0 Z p1 p2 p3 p4 p5 h0 n0) v U'.heap L ∧ FrameEnd U o U' L 24 128) := by
  refine MetFree.of_bodySF (plainFor_of_name pn_2) hisR ?_
  intro p e s m args below meth c s₁ Bd hml0 hP hK
  obtain ⟨rfl, hZ, hh⟩ := hP
  have hx := Bd.exec
  have hby := Bd.bytes
  have hml : c.maxLocals = 18 := hml0
  have hown : s.vm.findClass "com/example/bar_visibility/barvisibility/GroupsByKeyPinLaw" = some m.cls := findClass_of_methodNamed Bd.named
  have hnm := (name_of_methodNamed Bd.named Bd.method).1
  have hlk : meth.locks = false := BodyLoose.notSynchronized Bd
  have X0 : Stand p l e room_1 s m #[(.int p1), (.int p2), (.int p3), (.int p4), (.int p5)] below meth c s₁ [] 0 0 := Stand.of_body Bd
  have e0 : s₁.heap = h0 := by rw [← hh, Bd.state]; rfl
  have N0 := Fr.nil n0
  show Go p e below s 24 128 (Q0 Z p1 p2 p3 p4 p5 h0 n0) s₁ (entryFrame m #[(.int p1), (.int p2), (.int p3), (.int p4), (.int p5)] maxLocals)
  rw [ef_rm0 m p1 p2 p3 p4 p5]
  refine g_iconst 1 X0 hx (hb hby at_0) rfl (z := (1 : Int32)) rfl ?_
  refine g_iload 3 X0 hx (hb hby at_1) rfl (v := p5) rfl ?_
  refine g_ldc 5 X0 hx hZ hown (hw _ (List.mem_of_getElem? (i := 0) rfl)) (hb hby at_3) rfl ?_
  obtain ⟨z1, hz1⟩ : ∃ z : Int32, p5 &&& (2147483647 : Int32) = z := ⟨_, rfl⟩
  refine g_iand 6 X0 hx (hb hby at_5) rfl (z := z1) hz1 ?_
  refine g_iconst 7 X0 hx (hb hby at_6) rfl (z := (5 : Int32)) rfl ?_
  obtain ⟨z2, hz2⟩ : ∃ z : Int32, z1 % (5 : Int32) = z := ⟨_, rfl⟩
  refine g_irem 8 X0 hx (hb hby at_7) rfl (by decide) (z := z2) hz2 ?_
  obtain ⟨z3, hz3⟩ : ∃ z : Int32, (1 : Int32) + z2 = z := ⟨_, rfl⟩
  refine g_iadd 9 X0 hx (hb hby at_8) rfl (z := z3) hz3 ?_
  refine g_istore 11 X0 hx (hb hby at_9) rfl (Ls' := #[.val (.int p1), .val (.int p2), .val (.int p3), .val (.int p4), .val (.int p5), .val (.int z3), .unset, .unset, .unset, .unset, .unset, .unset, .unset, .unset, .unset, .unset, .unset, .unset]) rfl ?_
  refine g_iloadN 12 X0 hx (hb hby at_11) rfl (v := p1) rfl ?_
  refine g_ldc 14 X0 hx hZ hown (hw _ (List.mem_of_getElem? (i := 0) rfl)) (hb hby at_12) rfl ?_
  obtain ⟨z4, hz4⟩ : ∃ z : Int32, p1 &&& (2147483647 : Int32) = z := ⟨_, rfl⟩
  refine g_iand 15 X0 hx (hb hby at_14) rfl (z := z4) hz4 ?_
  refine g_iload 17 X0 hx (hb hby at_15) rfl (v := z3) rfl ?_
  have hq17_nz_4 : z3 ≠ 0 := (ask0_0 p1 p2 p3 p4 p5 z1 z2 z3 z4 hz1 hz2 hz3 hz4)
  obtain ⟨z6, hz6⟩ : ∃ z : Int32, z4 % z3 = z := ⟨_, rfl⟩
  refine g_irem 18 X0 hx (hb hby at_17) rfl hq17_nz_4 (z := z6) hz6 ?_
  refine g_istore 20 X0 hx (hb hby at_18) rfl (Ls' := #[.val (.int p1), .val (.int p2), .val (.int p3), .val (.int p4), .val (.int p5), .val (.int z3), .val (.int z6), .unset, .unset, .unset, .unset, .unset, .unset, .unset, .unset, .unset, .unset, .unset]) rfl ?_
  refine g_iloadN 21 X0 hx (hb hby at_20) rfl (v := p2) rfl ?_
  refine g_ldc 23 X0 hx hZ hown (hw _ (List.mem_of_getElem? (i := 0) rfl)) (hb hby at_21) rfl ?_
  obtain ⟨z7, hz7⟩ : ∃ z : Int32, p2 &&& (2147483647 : Int32) = z := ⟨_, rfl⟩
  refine g_iand 24 X0 hx (hb hby at_23) rfl (z := z7) hz7 ?_
  refine g_iload 26 X0 hx (hb hby at_24) rfl (v := z3) rfl ?_
  have hq26_nz_7 : z3 ≠ 0 := (ask0_1 p1 p2 p3 p4 p5 z1 z2 z3 z4 z6 z7 hz1 hz2 hz3 hz4 hz6 hz7)
  obtain ⟨z9, hz9⟩ : ∃ z : Int32, z7 % z3 = z := ⟨_, rfl⟩
  refine g_irem 27 X0 hx (hb hby at_26) rfl hq26_nz_7 (z := z9) hz9 ?_
  refine g_istore 29 X0 hx (hb hby at_27) rfl (Ls' := #[.val (.int p1), .val (.int p2), .val (.int p3), .val (.int p4), .val (.int p5), .val (.int z3), .val (.int z6), .val (.int z9), .unset, .unset, .unset, .unset, .unset, .unset, .unset, .unset, .unset, .unset]) rfl ?_
  refine g_iloadN 30 X0 hx (hb hby at_29) rfl (v := p3) rfl ?_
  refine g_ldc 32 X0 hx hZ hown (hw _ (List.mem_of_getElem? (i := 0) rfl)) (hb hby at_30) rfl ?_
  obtain ⟨z10, hz10⟩ : ∃ z : Int32, p3 &&& (2147483647 : Int32) = z := ⟨_, rfl⟩
  refine g_iand 33 X0 hx (hb hby at_32) rfl (z := z10) hz10 ?_
  refine g_iload 35 X0 hx (hb hby at_33) rfl (v := z3) rfl ?_
  have hq35_nz_10 : z3 ≠ 0 := (ask0_2 p1 p2 p3 p4 p5 z1 z2 z3 z4 z6 z7 z9 z10 hz1 hz2 hz3 hz4 hz6 hz7 hz9 hz10)
  obtain ⟨z12, hz12⟩ : ∃ z : Int32, z10 % z3 = z := ⟨_, rfl⟩
  refine g_irem 36 X0 hx (hb hby at_35) rfl hq35_nz_10 (z := z12) hz12 ?_
  refine g_istore 38 X0 hx (hb hby at_36) rfl (Ls' := #[.val (.int p1), .val (.int p2), .val (.int p3), .val (.int p4), .val (.int p5), .val (.int z3), .val (.int z6), .val (.int z9), .val (.int z12), .unset, .unset, .unset, .unset, .unset, .unset, .unset, .unset, .unset]) rfl ?_
  refine g_iloadN 39 X0 hx (hb hby at_38) rfl (v := p4) rfl ?_
  refine g_ldc 41 X0 hx hZ hown (hw _ (List.mem_of_getElem? (i := 0) rfl)) (hb hby at_39) rfl ?_
  obtain ⟨z13, hz13⟩ : ∃ z : Int32, p4 &&& (2147483647 : Int32) = z := ⟨_, rfl⟩
  refine g_iand 42 X0 hx (hb hby at_41) rfl (z := z13) hz13 ?_
  refine g_iload 44 X0 hx (hb hby at_42) rfl (v := z3) rfl ?_
  have hq44_nz_13 : z3 ≠ 0 := (ask0_3 p1 p2 p3 p4 p5 z1 z2 z3 z4 z6 z7 z9 z10 z12 z13 hz1 hz2 hz3 hz4 hz6 hz7 hz9 hz10 hz12 hz13)
  obtain ⟨z15, hz15⟩ : ∃ z : Int32, z13 % z3 = z := ⟨_, rfl⟩
  refine g_irem 45 X0 hx (hb hby at_44) rfl hq44_nz_13 (z := z15) hz15 ?_
  refine g_istore 47 X0 hx (hb hby at_45) rfl (Ls' := #[.val (.int p1), .val (.int p2), .val (.int p3), .val (.int p4), .val (.int p5), .val (.int z3), .val (.int z6), .val (.int z9), .val (.int z12), .val (.int z15), .unset, .unset, .unset, .unset, .unset, .unset, .unset, .unset]) rfl ?_
  have hG : 1 ≤ z3.toInt ∧ z3.toInt ≤ 5 := (sub0_4 p5 z1 z2 z3 hz1 hz2 hz3)
  have hK0 : 0 ≤ z6.toInt ∧ z6.toInt < z3.toInt := (sub0_5 p1 z3 z4 z6 hz4 hz6 hG)
  have hK1 : 0 ≤ z9.toInt ∧ z9.toInt < z3.toInt := (sub0_6 p2 z3 z7 z9 hz7 hz9 hG)
  have hK2 : 0 ≤ z12.toInt ∧ z12.toInt < z3.toInt := (sub0_7 p3 z3 z10 z12 hz10 hz12 hG)
  have hK3 : 0 ≤ z15.toInt ∧ z15.toInt < z3.toInt := (sub0_8 p4 z3 z13 z15 hz13 hz15 hG)
  refine g_iconst 48 X0 hx (hb hby at_47) rfl (z := (4 : Int32)) rfl ?_
  refine g_new_int 50 X0 hx hZ (hw _ (List.mem_of_getElem? (i := 1) rfl)) e0 4 4 (by decide) rfl (by decide) (by decide) (by decide) (by decide) (hb hby at_48) rfl ?_
  intro T16 h16 b16 X16 e16 E16 g16 A16
  have Zs17 : n0 ≤ h16.size := (Nat.le_trans Z0 E16.1)
  have g_b16 : n0 ≤ b16 := Nat.le_trans Z0 (Nat.le_of_eq g16.symm)
  have A16' : AI Z h16 b16 .int [(0 : Int32), (0 : Int32), (0 : Int32), (0 : Int32)] := A16
  refine g_dup 51 X16 hx (hb hby at_50) rfl rfl ?_
  refine g_iconst 52 X16 hx (hb hby at_51) rfl (z := (0 : Int32)) rfl ?_
  refine g_iload 54 X16 hx (hb hby at_52) rfl (v := z6) rfl ?_
  refine g_iastore 55 X16 hx hZ e16 A16' 0 (by decide) rfl (Nat.le_of_ble_eq_true rfl) (z := z6) rfl (hb hby at_54) rfl ?_
  intro T18 h18 X18 e18 W18 A18
  have Zs19 : n0 ≤ h18.size := (Nat.le_trans Zs17 (Keep.of_wr W18).1)
  have A18' : AI Z h18 b16 .int [z6, (0 : Int32), (0 : Int32), (0 : Int32)] := A18
  have N20 := Fr.snoc X18 N0 g_b16
  refine g_dup 56 X18 hx (hb hby at_55) rfl rfl ?_
  refine g_iconst 57 X18 hx (hb hby at_56) rfl (z := (1 : Int32)) rfl ?_
  refine g_iload 59 X18 hx (hb hby at_57) rfl (v := z9) rfl ?_
  refine g_iastore 60 X18 hx hZ e18 A18' 1 (by decide) rfl (Nat.le_of_ble_eq_true rfl) (z := z9) rfl (hb hby at_59) rfl ?_
  intro T21 h21 X21 e21 W21 A21
  have Zs22 : n0 ≤ h21.size := (Nat.le_trans Zs19 (Keep.of_wr W21).1)
  have A21' : AI Z h21 b16 .int [z6, z9, (0 : Int32), (0 : Int32)] := A21
  have N23 := Fr.snoc X21 N20 g_b16
  refine g_dup 61 X21 hx (hb hby at_60) rfl rfl ?_
  refine g_iconst 62 X21 hx (hb hby at_61) rfl (z := (2 : Int32)) rfl ?_
  refine g_iload 64 X21 hx (hb hby at_62) rfl (v := z12) rfl ?_
  refine g_iastore 65 X21 hx hZ e21 A21' 2 (by decide) rfl (Nat.le_of_ble_eq_true rfl) (z := z12) rfl (hb hby at_64) rfl ?_
  intro T24 h24 X24 e24 W24 A24
  have Zs25 : n0 ≤ h24.size := (Nat.le_trans Zs22 (Keep.of_wr W24).1)
  have A24' : AI Z h24 b16 .int [z6, z9, z12, (0 : Int32)] := A24
  have N26 := Fr.snoc X24 N23 g_b16
  refine g_dup 66 X24 hx (hb hby at_65) rfl rfl ?_
  refine g_iconst 67 X24 hx (hb hby at_66) rfl (z := (3 : Int32)) rfl ?_
  refine g_iload 69 X24 hx (hb hby at_67) rfl (v := z15) rfl ?_
  refine g_iastore 70 X24 hx hZ e24 A24' 3 (by decide) rfl (Nat.le_of_ble_eq_true rfl) (z := z15) rfl (hb hby at_69) rfl ?_
  intro T27 h27 X27 e27 W27 A27
  have Zs28 : n0 ≤ h27.size := (Nat.le_trans Zs25 (Keep.of_wr W27).1)
  have A27' : AI Z h27 b16 .int [z6, z9, z12, z15] := A27
  have N29 := Fr.snoc X27 N26 g_b16
  refine g_astore 72 X27 hx (hb hby at_70) rfl (Ls' := #[.val (.int p1), .val (.int p2), .val (.int p3), .val (.int p4), .val (.int p5), .val (.int z3), .val (.int z6), .val (.int z9), .val (.int z12), .val (.int z15), .val (.ref b16), .unset, .unset, .unset, .unset, .unset, .unset, .unset]) rfl rfl ?_
  refine g_aload 74 X27 hx (hb hby at_72) rfl (v := (.ref b16)) rfl rfl ?_
  refine g_iload 76 X27 hx (hb hby at_74) rfl (v := z3) rfl ?_
  refine g_callS 79 X27 hx hZ (y := (⟨"com/example/bar_visibility/barvisibility/Groups", "byKey", "([II)Lcom/example/bar_visibility/barvisibility/Groups;"⟩ : MethodName)) hown (hw _ (List.mem_of_getElem? (i := 2) rfl)) (hw _ (List.mem_of_getElem? (i := 3) rfl)) (hw _ (List.mem_of_getElem? (i := 4) rfl)) (hw _ (List.mem_of_getElem? (i := 5) rfl)) (by decide) e27 (rm1 l Z a0 hw [] b16 z3 z6 z9 z12 z15 h27 n0 Zs28 A27' hG hK0 hK1 hK2 hK3) (by rw [hml]; rfl) [(.ref b16), (.int z3)] [] rfl rfl (lenOf pd_4 rfl) 0 (Nat.le_of_eq rfl) (hb hby at_76) (by decide) (by decide) (by decide) (by decide) rfl ?_
  intro v30 T30 L30 X30 hQ30
  obtain ⟨b30, c30, d30, rfl, N30q, K30, E30, F30, G30, A30, B30⟩ := hQ30
  have N30 := Fr.app N29 N30q
  have f31 := A27'.keep K30 nin0
  have Zs32 : n0 ≤ T30.heap.size := (Nat.le_trans Zs28 K30.1)
  show Go p e below s 24 128 (Q0 Z p1 p2 p3 p4 p5 h0 n0) T30 (mkF m 79 #[.val (.int p1), .val (.int p2), .val (.int p3), .val (.int p4), .val (.int p5), .val (.int z3), .val (.int z6), .val (.int z9), .val (.int z12), .val (.int z15), .val (.ref b16), .unset, .unset, .unset, .unset, .unset, .unset, .unset] [(.ref b30)])
  have hP := own_parts z3 z6 z9 z12 z15 (own_all z3 z6 z9 z12 z15 hG hK0 hK1 hK2 hK3)
  have hS : (own_F2 z3 z6 z9 z12 z15).length = z3.toInt.toNat + 1 := by rw [own_F2len, own_inc (by omega)]; omega
  have hI := own_I4len z3 z6 z9 z12 z15
  refine g_astore 81 X30 hx (hb hby at_79) rfl (Ls' := #[.val (.int p1), .val (.int p2), .val (.int p3), .val (.int p4), .val (.int p5), .val (.int z3), .val (.int z6), .val (.int z9), .val (.int z12), .val (.int z15), .val (.ref b16), .val (.ref b30), .unset, .unset, .unset, .unset, .unset, .unset]) rfl rfl ?_
  refine g_aload 83 X30 hx (hb hby at_81) rfl (v := (.ref b30)) rfl rfl ?_
  refine g_callV 86 X30 hx hZ (y := (⟨"com/example/bar_visibility/barvisibility/Groups", "starts", "()[I"⟩ : MethodName)) hown (hw _ (List.mem_of_getElem? (i := 30) rfl)) (hw _ (List.mem_of_getElem? (i := 31) rfl)) (hw _ (List.mem_of_getElem? (i := 33) rfl)) (hw _ (List.mem_of_getElem? (i := 32) rfl)) (hw _ (List.mem_of_getElem? (i := 4) rfl)) (hw _ (List.mem_of_getElem? (i := 34) rfl)) (by decide) rfl E30 (rm6 l Z a0 hw [] b30 c30 T30.heap n0 Zs32 F30) (by rw [hml]; rfl) [] [] rfl rfl (lenOf pd_5 rfl) 0 (Nat.le_of_eq rfl) (hb hby at_83) (by decide) (by decide) (by decide) (by decide) rfl ?_
  intro v33 T33 L33 X33 hQ33
  obtain ⟨rfl, N33q, e33⟩ := hQ33
  have N33 := Fr.app N30 N33q
  show Go p e below s 24 128 (Q0 Z p1 p2 p3 p4 p5 h0 n0) T33 (mkF m 86 #[.val (.int p1), .val (.int p2), .val (.int p3), .val (.int p4), .val (.int p5), .val (.int z3), .val (.int z6), .val (.int z9), .val (.int z12), .val (.int z15), .val (.ref b16), .val (.ref b30), .unset, .unset, .unset, .unset, .unset, .unset] [(.ref c30)])
  refine g_astore 88 X33 hx (hb hby at_86) rfl (Ls' := #[.val (.int p1), .val (.int p2), .val (.int p3), .val (.int p4), .val (.int p5), .val (.int z3), .val (.int z6), .val (.int z9), .val (.int z12), .val (.int z15), .val (.ref b16), .val (.ref b30), .val (.ref c30), .unset, .unset, .unset, .unset, .unset]) rfl rfl ?_
  refine g_aload 90 X33 hx (hb hby at_88) rfl (v := (.ref b30)) rfl rfl ?_
  refine g_callV 93 X33 hx hZ (y := (⟨"com/example/bar_visibility/barvisibility/Groups", "items", "()[I"⟩ : MethodName)) hown (hw _ (List.mem_of_getElem? (i := 35) rfl)) (hw _ (List.mem_of_getElem? (i := 36) rfl)) (hw _ (List.mem_of_getElem? (i := 38) rfl)) (hw _ (List.mem_of_getElem? (i := 37) rfl)) (hw _ (List.mem_of_getElem? (i := 4) rfl)) (hw _ (List.mem_of_getElem? (i := 39) rfl)) (by decide) e33 E30 (rm7 l Z a0 hw [] b30 d30 T30.heap n0 Zs32 G30) (by rw [hml]; rfl) [] [] rfl rfl (lenOf pd_5 rfl) 0 (Nat.le_of_eq rfl) (hb hby at_90) (by decide) (by decide) (by decide) (by decide) rfl ?_
  intro v34 T34 L34 X34 hQ34
  obtain ⟨rfl, N34q, e34⟩ := hQ34
  have N34 := Fr.app N33 N34q
  show Go p e below s 24 128 (Q0 Z p1 p2 p3 p4 p5 h0 n0) T34 (mkF m 93 #[.val (.int p1), .val (.int p2), .val (.int p3), .val (.int p4), .val (.int p5), .val (.int z3), .val (.int z6), .val (.int z9), .val (.int z12), .val (.int z15), .val (.ref b16), .val (.ref b30), .val (.ref c30), .unset, .unset, .unset, .unset, .unset] [(.ref d30)])
  refine g_astore 95 X34 hx (hb hby at_93) rfl (Ls' := #[.val (.int p1), .val (.int p2), .val (.int p3), .val (.int p4), .val (.int p5), .val (.int z3), .val (.int z6), .val (.int z9), .val (.int z12), .val (.int z15), .val (.ref b16), .val (.ref b30), .val (.ref c30), .val (.ref d30), .unset, .unset, .unset, .unset]) rfl rfl ?_
  refine g_aload 97 X34 hx (hb hby at_95) rfl (v := (.ref b30)) rfl rfl ?_
  refine g_callV 100 X34 hx hZ (y := (⟨"com/example/bar_visibility/barvisibility/Groups", "groupCount", "()I"⟩ : MethodName)) hown (hw _ (List.mem_of_getElem? (i := 40) rfl)) (hw _ (List.mem_of_getElem? (i := 41) rfl)) (hw _ (List.mem_of_getElem? (i := 43) rfl)) (hw _ (List.mem_of_getElem? (i := 42) rfl)) (hw _ (List.mem_of_getElem? (i := 4) rfl)) (hw _ (List.mem_of_getElem? (i := 44) rfl)) (by decide) e34 E30 (rm8 l Z a0 hw [] b30 c30 (own_F2 z3 z6 z9 z12 z15) T30.heap n0 Zs32 F30 A30) (by rw [hml]; rfl) [] [] rfl rfl (lenOf pd_6 rfl) 0 (Nat.le_of_eq rfl) (hb hby at_97) (by decide) (by decide) (by decide) (by decide) rfl ?_
  intro v35 T35 L35 X35 hQ35
  obtain ⟨rfl, N35q, e35⟩ := hQ35
  have N35 := Fr.app N34 N35q
  show Go p e below s 24 128 (Q0 Z p1 p2 p3 p4 p5 h0 n0) T35 (mkF m 100 #[.val (.int p1), .val (.int p2), .val (.int p3), .val (.int p4), .val (.int p5), .val (.int z3), .val (.int z6), .val (.int z9), .val (.int z12), .val (.int z15), .val (.ref b16), .val (.ref b30), .val (.ref c30), .val (.ref d30), .unset, .unset, .unset, .unset] [(.int (Int32.ofNat (own_F2 z3 z6 z9 z12 z15).length - (1 : Int32)))])
  refine g_iload 102 X35 hx (hb hby at_100) rfl (v := z3) rfl ?_
  have hc102_35 : (Int32.ofNat (own_F2 z3 z6 z9 z12 z15).length - (1 : Int32)) = z3 := (by rw [hS]; apply Int32.toInt_inj.mp; have a := c_isub (Int32.ofNat (z3.toInt.toNat + 1)) (1 : Int32); have b := rng32 (Int32.ofNat (z3.toInt.toNat + 1) - (1 : Int32)); rw [Int32.toInt_ofNat_small (by omega)] at a; simp only [Int32.reduceToInt] at a; omega)
  refine g_icmpYes 107 X35 hx (hb hby at_102)  (teq hc102_35).1 (by decide) (by decide) ?_
  refine g_aload 109 X35 hx (hb hby at_107) rfl (v := (.ref c30)) rfl rfl ?_
  refine g_arraylengthI 110 X35 hx hZ e35 A30 (z := (Int32.ofNat (own_F2 z3 z6 z9 z12 z15).length)) rfl (hb hby at_109) rfl ?_
  refine g_iload 112 X35 hx (hb hby at_110) rfl (v := z3) rfl ?_
  refine g_iconst 113 X35 hx (hb hby at_112) rfl (z := (1 : Int32)) rfl ?_
  obtain ⟨z37, hz37⟩ : ∃ z : Int32, z3 + (1 : Int32) = z := ⟨_, rfl⟩
  refine g_iadd 114 X35 hx (hb hby at_113) rfl (z := z37) hz37 ?_
  have hc114_37 : (Int32.ofNat (own_F2 z3 z6 z9 z12 z15).length) = z37 := (by rw [← hz37, hS]; apply Int32.toInt_inj.mp; rw [own_inc (by omega), Int32.toInt_ofNat_small (by omega)]; omega)
  refine g_icmpYes 119 X35 hx (hb hby at_114)  (teq hc114_37).1 (by decide) (by decide) ?_
  refine g_aload 121 X35 hx (hb hby at_119) rfl (v := (.ref d30)) rfl rfl ?_
  refine g_arraylengthI 122 X35 hx hZ e35 B30 (z := (Int32.ofNat (own_I4 z3 z6 z9 z12 z15).length)) rfl (hb hby at_121) rfl ?_
  refine g_iconst 123 X35 hx (hb hby at_122) rfl (z := (4 : Int32)) rfl ?_
  have hc123_38 : (Int32.ofNat (own_I4 z3 z6 z9 z12 z15).length) = (4 : Int32) := (by rw [hI]; decide)
  refine g_icmpYes 128 X35 hx (hb hby at_123)  (teq hc123_38).1 (by decide) (by decide) ?_
  refine g_aload 130 X35 hx (hb hby at_128) rfl (v := (.ref c30)) rfl rfl ?_
  refine g_iload 132 X35 hx (hb hby at_130) rfl (v := z3) rfl ?_
  refine g_iconst 133 X35 hx (hb hby at_132) rfl (z := (0 : Int32)) rfl ?_
  refine g_iload 135 X35 hx (hb hby at_133) rfl (v := z6) rfl ?_
  refine g_iload 137 X35 hx (hb hby at_135) rfl (v := z9) rfl ?_
  refine g_iload 139 X35 hx (hb hby at_137) rfl (v := z12) rfl ?_
  refine g_iload 141 X35 hx (hb hby at_139) rfl (v := z15) rfl ?_
  have hq141_hrng_40 : 0 ≤ (0 : Int32).toInt ∧ (0 : Int32).toInt ≤ 5 := by decide
  have hq141_hl_41 : (own_F2 z3 z6 z9 z12 z15).length = z3.toInt.toNat + 1 := hS
  refine g_callS 144 X35 hx hZ (y := (⟨"com/example/bar_visibility/barvisibility/GroupsByKeyPinLaw", "startOk", "([IIIIIII)Z"⟩ : MethodName)) hown (hw _ (List.mem_of_getElem? (i := 45) rfl)) (hw _ (List.mem_of_getElem? (i := 46) rfl)) (hw _ (List.mem_of_getElem? (i := 47) rfl)) (hw _ (List.mem_of_getElem? (i := 48) rfl)) (by decide) e35 (rm9 l Z a0 hw [] c30 z3 (0 : Int32) z6 z9 z12 z15 (own_F2 z3 z6 z9 z12 z15) T30.heap n0 Zs32 A30 hq141_hrng_40 hq141_hl_41) (by rw [hml]; rfl) [(.ref c30), (.int z3), (.int (0 : Int32)), (.int z6), (.int z9), (.int z12), (.int z15)] [] rfl rfl (lenOf pd_7 rfl) 0 (Nat.le_of_eq rfl) (hb hby at_141) (by decide) (by decide) (by decide) (by decide) rfl ?_
  intro v40 T40 L40 X40 hQ40
  obtain ⟨r40, rfl, hr40, N40q, e40⟩ := hQ40
  have N40 := Fr.app N35 N40q
  show Go p e below s 24 128 (Q0 Z p1 p2 p3 p4 p5 h0 n0) T40 (mkF m 144 #[.val (.int p1), .val (.int p2), .val (.int p3), .val (.int p4), .val (.int p5), .val (.int z3), .val (.int z6), .val (.int z9), .val (.int z12), .val (.int z15), .val (.ref b16), .val (.ref b30), .val (.ref c30), .val (.ref d30), .unset, .unset, .unset, .unset] [(.int r40)])
  have hc144_42 : ¬ (r40 = (0 : Int32)) := (fun e => absurd (((hr40 : _ = _).trans hP.2.1.1).symm.trans e) (by decide))
  refine g_ifYes 149 X40 hx (hb hby at_144)  ((if0 _ _).trans (feq hc144_42).2) (by decide) (by decide) ?_
  refine g_aload 151 X40 hx (hb hby at_149) rfl (v := (.ref c30)) rfl rfl ?_
  refine g_iload 153 X40 hx (hb hby at_151) rfl (v := z3) rfl ?_
  refine g_iconst 154 X40 hx (hb hby at_153) rfl (z := (1 : Int32)) rfl ?_
  refine g_iload 156 X40 hx (hb hby at_154) rfl (v := z6) rfl ?_
  refine g_iload 158 X40 hx (hb hby at_156) rfl (v := z9) rfl ?_
  refine g_iload 160 X40 hx (hb hby at_158) rfl (v := z12) rfl ?_
  refine g_iload 162 X40 hx (hb hby at_160) rfl (v := z15) rfl ?_
  have hq162_hrng_44 : 0 ≤ (1 : Int32).toInt ∧ (1 : Int32).toInt ≤ 5 := by decide
  have hq162_hl_45 : (own_F2 z3 z6 z9 z12 z15).length = z3.toInt.toNat + 1 := hS
  refine g_callS 165 X40 hx hZ (y := (⟨"com/example/bar_visibility/barvisibility/GroupsByKeyPinLaw", "startOk", "([IIIIIII)Z"⟩ : MethodName)) hown (hw _ (List.mem_of_getElem? (i := 45) rfl)) (hw _ (List.mem_of_getElem? (i := 46) rfl)) (hw _ (List.mem_of_getElem? (i := 47) rfl)) (hw _ (List.mem_of_getElem? (i := 48) rfl)) (by decide) e40 (rm9 l Z a0 hw [] c30 z3 (1 : Int32) z6 z9 z12 z15 (own_F2 z3 z6 z9 z12 z15) T30.heap n0 Zs32 A30 hq162_hrng_44 hq162_hl_45) (by rw [hml]; rfl) [(.ref c30), (.int z3), (.int (1 : Int32)), (.int z6), (.int z9), (.int z12), (.int z15)] [] rfl rfl (lenOf pd_7 rfl) 0 (Nat.le_of_eq rfl) (hb hby at_162) (by decide) (by decide) (by decide) (by decide) rfl ?_
  intro v44 T44 L44 X44 hQ44
  obtain ⟨r44, rfl, hr44, N44q, e44⟩ := hQ44
  have N44 := Fr.app N40 N44q
  show Go p e below s 24 128 (Q0 Z p1 p2 p3 p4 p5 h0 n0) T44 (mkF m 165 #[.val (.int p1), .val (.int p2), .val (.int p3), .val (.int p4), .val (.int p5), .val (.int z3), .val (.int z6), .val (.int z9), .val (.int z12), .val (.int z15), .val (.ref b16), .val (.ref b30), .val (.ref c30), .val (.ref d30), .unset, .unset, .unset, .unset] [(.int r44)])
  have hc165_46 : ¬ (r44 = (0 : Int32)) := (fun e => absurd (((hr44 : _ = _).trans hP.2.1.2.1).symm.trans e) (by decide))
  refine g_ifYes 170 X44 hx (hb hby at_165)  ((if0 _ _).trans (feq hc165_46).2) (by decide) (by decide) ?_
  refine g_aload 172 X44 hx (hb hby at_170) rfl (v := (.ref c30)) rfl rfl ?_
  refine g_iload 174 X44 hx (hb hby at_172) rfl (v := z3) rfl ?_
  refine g_iconst 175 X44 hx (hb hby at_174) rfl (z := (2 : Int32)) rfl ?_
  refine g_iload 177 X44 hx (hb hby at_175) rfl (v := z6) rfl ?_
  refine g_iload 179 X44 hx (hb hby at_177) rfl (v := z9) rfl ?_
  refine g_iload 181 X44 hx (hb hby at_179) rfl (v := z12) rfl ?_
  refine g_iload 183 X44 hx (hb hby at_181) rfl (v := z15) rfl ?_
  have hq183_hrng_48 : 0 ≤ (2 : Int32).toInt ∧ (2 : Int32).toInt ≤ 5 := by decide
  have hq183_hl_49 : (own_F2 z3 z6 z9 z12 z15).length = z3.toInt.toNat + 1 := hS
  refine g_callS 186 X44 hx hZ (y := (⟨"com/example/bar_visibility/barvisibility/GroupsByKeyPinLaw", "startOk", "([IIIIIII)Z"⟩ : MethodName)) hown (hw _ (List.mem_of_getElem? (i := 45) rfl)) (hw _ (List.mem_of_getElem? (i := 46) rfl)) (hw _ (List.mem_of_getElem? (i := 47) rfl)) (hw _ (List.mem_of_getElem? (i := 48) rfl)) (by decide) e44 (rm9 l Z a0 hw [] c30 z3 (2 : Int32) z6 z9 z12 z15 (own_F2 z3 z6 z9 z12 z15) T30.heap n0 Zs32 A30 hq183_hrng_48 hq183_hl_49) (by rw [hml]; rfl) [(.ref c30), (.int z3), (.int (2 : Int32)), (.int z6), (.int z9), (.int z12), (.int z15)] [] rfl rfl (lenOf pd_7 rfl) 0 (Nat.le_of_eq rfl) (hb hby at_183) (by decide) (by decide) (by decide) (by decide) rfl ?_
  intro v48 T48 L48 X48 hQ48
  obtain ⟨r48, rfl, hr48, N48q, e48⟩ := hQ48
  have N48 := Fr.app N44 N48q
  show Go p e below s 24 128 (Q0 Z p1 p2 p3 p4 p5 h0 n0) T48 (mkF m 186 #[.val (.int p1), .val (.int p2), .val (.int p3), .val (.int p4), .val (.int p5), .val (.int z3), .val (.int z6), .val (.int z9), .val (.int z12), .val (.int z15), .val (.ref b16), .val (.ref b30), .val (.ref c30), .val (.ref d30), .unset, .unset, .unset, .unset] [(.int r48)])
  have hc186_50 : ¬ (r48 = (0 : Int32)) := (fun e => absurd (((hr48 : _ = _).trans hP.2.1.2.2.1).symm.trans e) (by decide))
  refine g_ifYes 191 X48 hx (hb hby at_186)  ((if0 _ _).trans (feq hc186_50).2) (by decide) (by decide) ?_
  refine g_aload 193 X48 hx (hb hby at_191) rfl (v := (.ref c30)) rfl rfl ?_
  refine g_iload 195 X48 hx (hb hby at_193) rfl (v := z3) rfl ?_
  refine g_iconst 196 X48 hx (hb hby at_195) rfl (z := (3 : Int32)) rfl ?_
  refine g_iload 198 X48 hx (hb hby at_196) rfl (v := z6) rfl ?_
  refine g_iload 200 X48 hx (hb hby at_198) rfl (v := z9) rfl ?_
  refine g_iload 202 X48 hx (hb hby at_200) rfl (v := z12) rfl ?_
  refine g_iload 204 X48 hx (hb hby at_202) rfl (v := z15) rfl ?_
  have hq204_hrng_52 : 0 ≤ (3 : Int32).toInt ∧ (3 : Int32).toInt ≤ 5 := by decide
  have hq204_hl_53 : (own_F2 z3 z6 z9 z12 z15).length = z3.toInt.toNat + 1 := hS
  refine g_callS 207 X48 hx hZ (y := (⟨"com/example/bar_visibility/barvisibility/GroupsByKeyPinLaw", "startOk", "([IIIIIII)Z"⟩ : MethodName)) hown (hw _ (List.mem_of_getElem? (i := 45) rfl)) (hw _ (List.mem_of_getElem? (i := 46) rfl)) (hw _ (List.mem_of_getElem? (i := 47) rfl)) (hw _ (List.mem_of_getElem? (i := 48) rfl)) (by decide) e48 (rm9 l Z a0 hw [] c30 z3 (3 : Int32) z6 z9 z12 z15 (own_F2 z3 z6 z9 z12 z15) T30.heap n0 Zs32 A30 hq204_hrng_52 hq204_hl_53) (by rw [hml]; rfl) [(.ref c30), (.int z3), (.int (3 : Int32)), (.int z6), (.int z9), (.int z12), (.int z15)] [] rfl rfl (lenOf pd_7 rfl) 0 (Nat.le_of_eq rfl) (hb hby at_204) (by decide) (by decide) (by decide) (by decide) rfl ?_
  intro v52 T52 L52 X52 hQ52
  obtain ⟨r52, rfl, hr52, N52q, e52⟩ := hQ52
  have N52 := Fr.app N48 N52q
  show Go p e below s 24 128 (Q0 Z p1 p2 p3 p4 p5 h0 n0) T52 (mkF m 207 #[.val (.int p1), .val (.int p2), .val (.int p3), .val (.int p4), .val (.int p5), .val (.int z3), .val (.int z6), .val (.int z9), .val (.int z12), .val (.int z15), .val (.ref b16), .val (.ref b30), .val (.ref c30), .val (.ref d30), .unset, .unset, .unset, .unset] [(.int r52)])
  have hc207_54 : ¬ (r52 = (0 : Int32)) := (fun e => absurd (((hr52 : _ = _).trans hP.2.1.2.2.2.1).symm.trans e) (by decide))
  refine g_ifYes 212 X52 hx (hb hby at_207)  ((if0 _ _).trans (feq hc207_54).2) (by decide) (by decide) ?_
  refine g_aload 214 X52 hx (hb hby at_212) rfl (v := (.ref c30)) rfl rfl ?_
  refine g_iload 216 X52 hx (hb hby at_214) rfl (v := z3) rfl ?_
  refine g_iconst 217 X52 hx (hb hby at_216) rfl (z := (4 : Int32)) rfl ?_
  refine g_iload 219 X52 hx (hb hby at_217) rfl (v := z6) rfl ?_
  refine g_iload 221 X52 hx (hb hby at_219) rfl (v := z9) rfl ?_
  refine g_iload 223 X52 hx (hb hby at_221) rfl (v := z12) rfl ?_
  refine g_iload 225 X52 hx (hb hby at_223) rfl (v := z15) rfl ?_
  have hq225_hrng_56 : 0 ≤ (4 : Int32).toInt ∧ (4 : Int32).toInt ≤ 5 := by decide
  have hq225_hl_57 : (own_F2 z3 z6 z9 z12 z15).length = z3.toInt.toNat + 1 := hS
  refine g_callS 228 X52 hx hZ (y := (⟨"com/example/bar_visibility/barvisibility/GroupsByKeyPinLaw", "startOk", "([IIIIIII)Z"⟩ : MethodName)) hown (hw _ (List.mem_of_getElem? (i := 45) rfl)) (hw _ (List.mem_of_getElem? (i := 46) rfl)) (hw _ (List.mem_of_getElem? (i := 47) rfl)) (hw _ (List.mem_of_getElem? (i := 48) rfl)) (by decide) e52 (rm9 l Z a0 hw [] c30 z3 (4 : Int32) z6 z9 z12 z15 (own_F2 z3 z6 z9 z12 z15) T30.heap n0 Zs32 A30 hq225_hrng_56 hq225_hl_57) (by rw [hml]; rfl) [(.ref c30), (.int z3), (.int (4 : Int32)), (.int z6), (.int z9), (.int z12), (.int z15)] [] rfl rfl (lenOf pd_7 rfl) 0 (Nat.le_of_eq rfl) (hb hby at_225) (by decide) (by decide) (by decide) (by decide) rfl ?_
  intro v56 T56 L56 X56 hQ56
  obtain ⟨r56, rfl, hr56, N56q, e56⟩ := hQ56
  have N56 := Fr.app N52 N56q
  show Go p e below s 24 128 (Q0 Z p1 p2 p3 p4 p5 h0 n0) T56 (mkF m 228 #[.val (.int p1), .val (.int p2), .val (.int p3), .val (.int p4), .val (.int p5), .val (.int z3), .val (.int z6), .val (.int z9), .val (.int z12), .val (.int z15), .val (.ref b16), .val (.ref b30), .val (.ref c30), .val (.ref d30), .unset, .unset, .unset, .unset] [(.int r56)])
  have hc228_58 : ¬ (r56 = (0 : Int32)) := (fun e => absurd (((hr56 : _ = _).trans hP.2.1.2.2.2.2.1).symm.trans e) (by decide))
  refine g_ifYes 233 X56 hx (hb hby at_228)  ((if0 _ _).trans (feq hc228_58).2) (by decide) (by decide) ?_
  refine g_aload 235 X56 hx (hb hby at_233) rfl (v := (.ref c30)) rfl rfl ?_
  refine g_iload 237 X56 hx (hb hby at_235) rfl (v := z3) rfl ?_
  refine g_iconst 238 X56 hx (hb hby at_237) rfl (z := (5 : Int32)) rfl ?_
  refine g_iload 240 X56 hx (hb hby at_238) rfl (v := z6) rfl ?_
  refine g_iload 242 X56 hx (hb hby at_240) rfl (v := z9) rfl ?_
  refine g_iload 244 X56 hx (hb hby at_242) rfl (v := z12) rfl ?_
  refine g_iload 246 X56 hx (hb hby at_244) rfl (v := z15) rfl ?_
  have hq246_hrng_60 : 0 ≤ (5 : Int32).toInt ∧ (5 : Int32).toInt ≤ 5 := by decide
  have hq246_hl_61 : (own_F2 z3 z6 z9 z12 z15).length = z3.toInt.toNat + 1 := hS
  refine g_callS 249 X56 hx hZ (y := (⟨"com/example/bar_visibility/barvisibility/GroupsByKeyPinLaw", "startOk", "([IIIIIII)Z"⟩ : MethodName)) hown (hw _ (List.mem_of_getElem? (i := 45) rfl)) (hw _ (List.mem_of_getElem? (i := 46) rfl)) (hw _ (List.mem_of_getElem? (i := 47) rfl)) (hw _ (List.mem_of_getElem? (i := 48) rfl)) (by decide) e56 (rm9 l Z a0 hw [] c30 z3 (5 : Int32) z6 z9 z12 z15 (own_F2 z3 z6 z9 z12 z15) T30.heap n0 Zs32 A30 hq246_hrng_60 hq246_hl_61) (by rw [hml]; rfl) [(.ref c30), (.int z3), (.int (5 : Int32)), (.int z6), (.int z9), (.int z12), (.int z15)] [] rfl rfl (lenOf pd_7 rfl) 0 (Nat.le_of_eq rfl) (hb hby at_246) (by decide) (by decide) (by decide) (by decide) rfl ?_
  intro v60 T60 L60 X60 hQ60
  obtain ⟨r60, rfl, hr60, N60q, e60⟩ := hQ60
  have N60 := Fr.app N56 N60q
  show Go p e below s 24 128 (Q0 Z p1 p2 p3 p4 p5 h0 n0) T60 (mkF m 249 #[.val (.int p1), .val (.int p2), .val (.int p3), .val (.int p4), .val (.int p5), .val (.int z3), .val (.int z6), .val (.int z9), .val (.int z12), .val (.int z15), .val (.ref b16), .val (.ref b30), .val (.ref c30), .val (.ref d30), .unset, .unset, .unset, .unset] [(.int r60)])
  have hc249_62 : ¬ (r60 = (0 : Int32)) := (fun e => absurd (((hr60 : _ = _).trans hP.2.1.2.2.2.2.2).symm.trans e) (by decide))
  refine g_ifYes 254 X60 hx (hb hby at_249)  ((if0 _ _).trans (feq hc249_62).2) (by decide) (by decide) ?_
  refine g_iload 256 X60 hx (hb hby at_254) rfl (v := z6) rfl ?_
  refine g_iload 258 X60 hx (hb hby at_256) rfl (v := z9) rfl ?_
  refine g_iload 260 X60 hx (hb hby at_258) rfl (v := z12) rfl ?_
  refine g_iload 262 X60 hx (hb hby at_260) rfl (v := z15) rfl ?_
  refine g_iload 264 X60 hx (hb hby at_262) rfl (v := z6) rfl ?_
  refine g_callS 267 X60 hx hZ (y := (⟨"com/example/bar_visibility/barvisibility/GroupsByKeyPinLaw", "below", "(IIIII)I"⟩ : MethodName)) hown (hw _ (List.mem_of_getElem? (i := 49) rfl)) (hw _ (List.mem_of_getElem? (i := 50) rfl)) (hw _ (List.mem_of_getElem? (i := 47) rfl)) (hw _ (List.mem_of_getElem? (i := 51) rfl)) (by decide) e60 (rm10 l Z a0 hw [] z6 z9 z12 z15 z6  T30.heap n0 Zs32 ) (by rw [hml]; rfl) [(.int z6), (.int z9), (.int z12), (.int z15), (.int z6)] [] rfl rfl (lenOf pd_3 rfl) 0 (Nat.le_of_eq rfl) (hb hby at_264) (by decide) (by decide) (by decide) (by decide) rfl ?_
  intro v64 T64 L64 X64 hQ64
  obtain ⟨r64, rfl, hr64, N64q, e64⟩ := hQ64
  have N64 := Fr.app N60 N64q
  show Go p e below s 24 128 (Q0 Z p1 p2 p3 p4 p5 h0 n0) T64 (mkF m 267 #[.val (.int p1), .val (.int p2), .val (.int p3), .val (.int p4), .val (.int p5), .val (.int z3), .val (.int z6), .val (.int z9), .val (.int z12), .val (.int z15), .val (.ref b16), .val (.ref b30), .val (.ref c30), .val (.ref d30), .unset, .unset, .unset, .unset] [(.int r64)])
  refine g_istore 269 X64 hx (hb hby at_267) rfl (Ls' := #[.val (.int p1), .val (.int p2), .val (.int p3), .val (.int p4), .val (.int p5), .val (.int z3), .val (.int z6), .val (.int z9), .val (.int z12), .val (.int z15), .val (.ref b16), .val (.ref b30), .val (.ref c30), .val (.ref d30), .val (.int r64), .unset, .unset, .unset]) rfl ?_
  refine g_iload 271 X64 hx (hb hby at_269) rfl (v := z6) rfl ?_
  refine g_iload 273 X64 hx (hb hby at_271) rfl (v := z9) rfl ?_
  refine g_iload 275 X64 hx (hb hby at_273) rfl (v := z12) rfl ?_
  refine g_iload 277 X64 hx (hb hby at_275) rfl (v := z15) rfl ?_
  refine g_iload 279 X64 hx (hb hby at_277) rfl (v := z9) rfl ?_
  refine g_callS 282 X64 hx hZ (y := (⟨"com/example/bar_visibility/barvisibility/GroupsByKeyPinLaw", "below", "(IIIII)I"⟩ : MethodName)) hown (hw _ (List.mem_of_getElem? (i := 49) rfl)) (hw _ (List.mem_of_getElem? (i := 50) rfl)) (hw _ (List.mem_of_getElem? (i := 47) rfl)) (hw _ (List.mem_of_getElem? (i := 51) rfl)) (by decide) e64 (rm10 l Z a0 hw [] z6 z9 z12 z15 z9  T30.heap n0 Zs32 ) (by rw [hml]; rfl) [(.int z6), (.int z9), (.int z12), (.int z15), (.int z9)] [] rfl rfl (lenOf pd_3 rfl) 0 (Nat.le_of_eq rfl) (hb hby at_279) (by decide) (by decide) (by decide) (by decide) rfl ?_
  intro v65 T65 L65 X65 hQ65
  obtain ⟨r65, rfl, hr65, N65q, e65⟩ := hQ65
  have N65 := Fr.app N64 N65q
  show Go p e below s 24 128 (Q0 Z p1 p2 p3 p4 p5 h0 n0) T65 (mkF m 282 #[.val (.int p1), .val (.int p2), .val (.int p3), .val (.int p4), .val (.int p5), .val (.int z3), .val (.int z6), .val (.int z9), .val (.int z12), .val (.int z15), .val (.ref b16), .val (.ref b30), .val (.ref c30), .val (.ref d30), .val (.int r64), .unset, .unset, .unset] [(.int r65)])
  refine g_iload 284 X65 hx (hb hby at_282) rfl (v := z6) rfl ?_
  refine g_iload 286 X65 hx (hb hby at_284) rfl (v := z9) rfl ?_
  refine g_callS 289 X65 hx hZ (y := (⟨"com/example/bar_visibility/barvisibility/GroupsByKeyPinLaw", "eq", "(II)I"⟩ : MethodName)) hown (hw _ (List.mem_of_getElem? (i := 55) rfl)) (hw _ (List.mem_of_getElem? (i := 56) rfl)) (hw _ (List.mem_of_getElem? (i := 47) rfl)) (hw _ (List.mem_of_getElem? (i := 57) rfl)) (by decide) e65 (rm12 l Z a0 hw [] z6 z9  T30.heap n0 Zs32 ) (by rw [hml]; rfl) [(.int z6), (.int z9)] [(.int r65)] rfl rfl (lenOf pd_0 rfl) 1 (Nat.le_of_eq rfl) (hb hby at_286) (by decide) (by decide) (by decide) (by decide) rfl ?_
  intro v66 T66 L66 X66 hQ66
  obtain ⟨r66, rfl, hr66, N66q, e66⟩ := hQ66
  have N66 := Fr.app N65 N66q
  show Go p e below s 24 128 (Q0 Z p1 p2 p3 p4 p5 h0 n0) T66 (mkF m 289 #[.val (.int p1), .val (.int p2), .val (.int p3), .val (.int p4), .val (.int p5), .val (.int z3), .val (.int z6), .val (.int z9), .val (.int z12), .val (.int z15), .val (.ref b16), .val (.ref b30), .val (.ref c30), .val (.ref d30), .val (.int r64), .unset, .unset, .unset] [(.int r66), (.int r65)])
  obtain ⟨z67, hz67⟩ : ∃ z : Int32, r65 + r66 = z := ⟨_, rfl⟩
  refine g_iadd 290 X66 hx (hb hby at_289) rfl (z := z67) hz67 ?_
  refine g_istore 292 X66 hx (hb hby at_290) rfl (Ls' := #[.val (.int p1), .val (.int p2), .val (.int p3), .val (.int p4), .val (.int p5), .val (.int z3), .val (.int z6), .val (.int z9), .val (.int z12), .val (.int z15), .val (.ref b16), .val (.ref b30), .val (.ref c30), .val (.ref d30), .val (.int r64), .val (.int z67), .unset, .unset]) rfl ?_
  refine g_iload 294 X66 hx (hb hby at_292) rfl (v := z6) rfl ?_
  refine g_iload 296 X66 hx (hb hby at_294) rfl (v := z9) rfl ?_
  refine g_iload 298 X66 hx (hb hby at_296) rfl (v := z12) rfl ?_
  refine g_iload 300 X66 hx (hb hby at_298) rfl (v := z15) rfl ?_
  refine g_iload 302 X66 hx (hb hby at_300) rfl (v := z12) rfl ?_
  refine g_callS 305 X66 hx hZ (y := (⟨"com/example/bar_visibility/barvisibility/GroupsByKeyPinLaw", "below", "(IIIII)I"⟩ : MethodName)) hown (hw _ (List.mem_of_getElem? (i := 49) rfl)) (hw _ (List.mem_of_getElem? (i := 50) rfl)) (hw _ (List.mem_of_getElem? (i := 47) rfl)) (hw _ (List.mem_of_getElem? (i := 51) rfl)) (by decide) e66 (rm10 l Z a0 hw [] z6 z9 z12 z15 z12  T30.heap n0 Zs32 ) (by rw [hml]; rfl) [(.int z6), (.int z9), (.int z12), (.int z15), (.int z12)] [] rfl rfl (lenOf pd_3 rfl) 0 (Nat.le_of_eq rfl) (hb hby at_302) (by decide) (by decide) (by decide) (by decide) rfl ?_
  intro v68 T68 L68 X68 hQ68
  obtain ⟨r68, rfl, hr68, N68q, e68⟩ := hQ68
  have N68 := Fr.app N66 N68q
  show Go p e below s 24 128 (Q0 Z p1 p2 p3 p4 p5 h0 n0) T68 (mkF m 305 #[.val (.int p1), .val (.int p2), .val (.int p3), .val (.int p4), .val (.int p5), .val (.int z3), .val (.int z6), .val (.int z9), .val (.int z12), .val (.int z15), .val (.ref b16), .val (.ref b30), .val (.ref c30), .val (.ref d30), .val (.int r64), .val (.int z67), .unset, .unset] [(.int r68)])
  refine g_iload 307 X68 hx (hb hby at_305) rfl (v := z6) rfl ?_
  refine g_iload 309 X68 hx (hb hby at_307) rfl (v := z12) rfl ?_
  refine g_callS 312 X68 hx hZ (y := (⟨"com/example/bar_visibility/barvisibility/GroupsByKeyPinLaw", "eq", "(II)I"⟩ : MethodName)) hown (hw _ (List.mem_of_getElem? (i := 55) rfl)) (hw _ (List.mem_of_getElem? (i := 56) rfl)) (hw _ (List.mem_of_getElem? (i := 47) rfl)) (hw _ (List.mem_of_getElem? (i := 57) rfl)) (by decide) e68 (rm12 l Z a0 hw [] z6 z12  T30.heap n0 Zs32 ) (by rw [hml]; rfl) [(.int z6), (.int z12)] [(.int r68)] rfl rfl (lenOf pd_0 rfl) 1 (Nat.le_of_eq rfl) (hb hby at_309) (by decide) (by decide) (by decide) (by decide) rfl ?_
  intro v69 T69 L69 X69 hQ69
  obtain ⟨r69, rfl, hr69, N69q, e69⟩ := hQ69
  have N69 := Fr.app N68 N69q
  show Go p e below s 24 128 (Q0 Z p1 p2 p3 p4 p5 h0 n0) T69 (mkF m 312 #[.val (.int p1), .val (.int p2), .val (.int p3), .val (.int p4), .val (.int p5), .val (.int z3), .val (.int z6), .val (.int z9), .val (.int z12), .val (.int z15), .val (.ref b16), .val (.ref b30), .val (.ref c30), .val (.ref d30), .val (.int r64), .val (.int z67), .unset, .unset] [(.int r69), (.int r68)])
  obtain ⟨z70, hz70⟩ : ∃ z : Int32, r68 + r69 = z := ⟨_, rfl⟩
  refine g_iadd 313 X69 hx (hb hby at_312) rfl (z := z70) hz70 ?_
  refine g_iload 315 X69 hx (hb hby at_313) rfl (v := z9) rfl ?_
  refine g_iload 317 X69 hx (hb hby at_315) rfl (v := z12) rfl ?_
  refine g_callS 320 X69 hx hZ (y := (⟨"com/example/bar_visibility/barvisibility/GroupsByKeyPinLaw", "eq", "(II)I"⟩ : MethodName)) hown (hw _ (List.mem_of_getElem? (i := 55) rfl)) (hw _ (List.mem_of_getElem? (i := 56) rfl)) (hw _ (List.mem_of_getElem? (i := 47) rfl)) (hw _ (List.mem_of_getElem? (i := 57) rfl)) (by decide) e69 (rm12 l Z a0 hw [] z9 z12  T30.heap n0 Zs32 ) (by rw [hml]; rfl) [(.int z9), (.int z12)] [(.int z70)] rfl rfl (lenOf pd_0 rfl) 1 (Nat.le_of_eq rfl) (hb hby at_317) (by decide) (by decide) (by decide) (by decide) rfl ?_
  intro v71 T71 L71 X71 hQ71
  obtain ⟨r71, rfl, hr71, N71q, e71⟩ := hQ71
  have N71 := Fr.app N69 N71q
  show Go p e below s 24 128 (Q0 Z p1 p2 p3 p4 p5 h0 n0) T71 (mkF m 320 #[.val (.int p1), .val (.int p2), .val (.int p3), .val (.int p4), .val (.int p5), .val (.int z3), .val (.int z6), .val (.int z9), .val (.int z12), .val (.int z15), .val (.ref b16), .val (.ref b30), .val (.ref c30), .val (.ref d30), .val (.int r64), .val (.int z67), .unset, .unset] [(.int r71), (.int z70)])
  obtain ⟨z72, hz72⟩ : ∃ z : Int32, z70 + r71 = z := ⟨_, rfl⟩
  refine g_iadd 321 X71 hx (hb hby at_320) rfl (z := z72) hz72 ?_
  refine g_istore 323 X71 hx (hb hby at_321) rfl (Ls' := #[.val (.int p1), .val (.int p2), .val (.int p3), .val (.int p4), .val (.int p5), .val (.int z3), .val (.int z6), .val (.int z9), .val (.int z12), .val (.int z15), .val (.ref b16), .val (.ref b30), .val (.ref c30), .val (.ref d30), .val (.int r64), .val (.int z67), .val (.int z72), .unset]) rfl ?_
  refine g_iload 325 X71 hx (hb hby at_323) rfl (v := z6) rfl ?_
  refine g_iload 327 X71 hx (hb hby at_325) rfl (v := z9) rfl ?_
  refine g_iload 329 X71 hx (hb hby at_327) rfl (v := z12) rfl ?_
  refine g_iload 331 X71 hx (hb hby at_329) rfl (v := z15) rfl ?_
  refine g_iload 333 X71 hx (hb hby at_331) rfl (v := z15) rfl ?_
  refine g_callS 336 X71 hx hZ (y := (⟨"com/example/bar_visibility/barvisibility/GroupsByKeyPinLaw", "below", "(IIIII)I"⟩ : MethodName)) hown (hw _ (List.mem_of_getElem? (i := 49) rfl)) (hw _ (List.mem_of_getElem? (i := 50) rfl)) (hw _ (List.mem_of_getElem? (i := 47) rfl)) (hw _ (List.mem_of_getElem? (i := 51) rfl)) (by decide) e71 (rm10 l Z a0 hw [] z6 z9 z12 z15 z15  T30.heap n0 Zs32 ) (by rw [hml]; rfl) [(.int z6), (.int z9), (.int z12), (.int z15), (.int z15)] [] rfl rfl (lenOf pd_3 rfl) 0 (Nat.le_of_eq rfl) (hb hby at_333) (by decide) (by decide) (by decide) (by decide) rfl ?_
  intro v73 T73 L73 X73 hQ73
  obtain ⟨r73, rfl, hr73, N73q, e73⟩ := hQ73
  have N73 := Fr.app N71 N73q
  show Go p e below s 24 128 (Q0 Z p1 p2 p3 p4 p5 h0 n0) T73 (mkF m 336 #[.val (.int p1), .val (.int p2), .val (.int p3), .val (.int p4), .val (.int p5), .val (.int z3), .val (.int z6), .val (.int z9), .val (.int z12), .val (.int z15), .val (.ref b16), .val (.ref b30), .val (.ref c30), .val (.ref d30), .val (.int r64), .val (.int z67), .val (.int z72), .unset] [(.int r73)])
  refine g_iload 338 X73 hx (hb hby at_336) rfl (v := z6) rfl ?_
  refine g_iload 340 X73 hx (hb hby at_338) rfl (v := z15) rfl ?_
  refine g_callS 343 X73 hx hZ (y := (⟨"com/example/bar_visibility/barvisibility/GroupsByKeyPinLaw", "eq", "(II)I"⟩ : MethodName)) hown (hw _ (List.mem_of_getElem? (i := 55) rfl)) (hw _ (List.mem_of_getElem? (i := 56) rfl)) (hw _ (List.mem_of_getElem? (i := 47) rfl)) (hw _ (List.mem_of_getElem? (i := 57) rfl)) (by decide) e73 (rm12 l Z a0 hw [] z6 z15  T30.heap n0 Zs32 ) (by rw [hml]; rfl) [(.int z6), (.int z15)] [(.int r73)] rfl rfl (lenOf pd_0 rfl) 1 (Nat.le_of_eq rfl) (hb hby at_340) (by decide) (by decide) (by decide) (by decide) rfl ?_
  intro v74 T74 L74 X74 hQ74
  obtain ⟨r74, rfl, hr74, N74q, e74⟩ := hQ74
  have N74 := Fr.app N73 N74q
  show Go p e below s 24 128 (Q0 Z p1 p2 p3 p4 p5 h0 n0) T74 (mkF m 343 #[.val (.int p1), .val (.int p2), .val (.int p3), .val (.int p4), .val (.int p5), .val (.int z3), .val (.int z6), .val (.int z9), .val (.int z12), .val (.int z15), .val (.ref b16), .val (.ref b30), .val (.ref c30), .val (.ref d30), .val (.int r64), .val (.int z67), .val (.int z72), .unset] [(.int r74), (.int r73)])
  obtain ⟨z75, hz75⟩ : ∃ z : Int32, r73 + r74 = z := ⟨_, rfl⟩
  refine g_iadd 344 X74 hx (hb hby at_343) rfl (z := z75) hz75 ?_
  refine g_iload 346 X74 hx (hb hby at_344) rfl (v := z9) rfl ?_
  refine g_iload 348 X74 hx (hb hby at_346) rfl (v := z15) rfl ?_
  refine g_callS 351 X74 hx hZ (y := (⟨"com/example/bar_visibility/barvisibility/GroupsByKeyPinLaw", "eq", "(II)I"⟩ : MethodName)) hown (hw _ (List.mem_of_getElem? (i := 55) rfl)) (hw _ (List.mem_of_getElem? (i := 56) rfl)) (hw _ (List.mem_of_getElem? (i := 47) rfl)) (hw _ (List.mem_of_getElem? (i := 57) rfl)) (by decide) e74 (rm12 l Z a0 hw [] z9 z15  T30.heap n0 Zs32 ) (by rw [hml]; rfl) [(.int z9), (.int z15)] [(.int z75)] rfl rfl (lenOf pd_0 rfl) 1 (Nat.le_of_eq rfl) (hb hby at_348) (by decide) (by decide) (by decide) (by decide) rfl ?_
  intro v76 T76 L76 X76 hQ76
  obtain ⟨r76, rfl, hr76, N76q, e76⟩ := hQ76
  have N76 := Fr.app N74 N76q
  show Go p e below s 24 128 (Q0 Z p1 p2 p3 p4 p5 h0 n0) T76 (mkF m 351 #[.val (.int p1), .val (.int p2), .val (.int p3), .val (.int p4), .val (.int p5), .val (.int z3), .val (.int z6), .val (.int z9), .val (.int z12), .val (.int z15), .val (.ref b16), .val (.ref b30), .val (.ref c30), .val (.ref d30), .val (.int r64), .val (.int z67), .val (.int z72), .unset] [(.int r76), (.int z75)])
  obtain ⟨z77, hz77⟩ : ∃ z : Int32, z75 + r76 = z := ⟨_, rfl⟩
  refine g_iadd 352 X76 hx (hb hby at_351) rfl (z := z77) hz77 ?_
  refine g_iload 354 X76 hx (hb hby at_352) rfl (v := z12) rfl ?_
  refine g_iload 356 X76 hx (hb hby at_354) rfl (v := z15) rfl ?_
  refine g_callS 359 X76 hx hZ (y := (⟨"com/example/bar_visibility/barvisibility/GroupsByKeyPinLaw", "eq", "(II)I"⟩ : MethodName)) hown (hw _ (List.mem_of_getElem? (i := 55) rfl)) (hw _ (List.mem_of_getElem? (i := 56) rfl)) (hw _ (List.mem_of_getElem? (i := 47) rfl)) (hw _ (List.mem_of_getElem? (i := 57) rfl)) (by decide) e76 (rm12 l Z a0 hw [] z12 z15  T30.heap n0 Zs32 ) (by rw [hml]; rfl) [(.int z12), (.int z15)] [(.int z77)] rfl rfl (lenOf pd_0 rfl) 1 (Nat.le_of_eq rfl) (hb hby at_356) (by decide) (by decide) (by decide) (by decide) rfl ?_
  intro v78 T78 L78 X78 hQ78
  obtain ⟨r78, rfl, hr78, N78q, e78⟩ := hQ78
  have N78 := Fr.app N76 N78q
  show Go p e below s 24 128 (Q0 Z p1 p2 p3 p4 p5 h0 n0) T78 (mkF m 359 #[.val (.int p1), .val (.int p2), .val (.int p3), .val (.int p4), .val (.int p5), .val (.int z3), .val (.int z6), .val (.int z9), .val (.int z12), .val (.int z15), .val (.ref b16), .val (.ref b30), .val (.ref c30), .val (.ref d30), .val (.int r64), .val (.int z67), .val (.int z72), .unset] [(.int r78), (.int z77)])
  obtain ⟨z79, hz79⟩ : ∃ z : Int32, z77 + r78 = z := ⟨_, rfl⟩
  refine g_iadd 360 X78 hx (hb hby at_359) rfl (z := z79) hz79 ?_
  refine g_istore 362 X78 hx (hb hby at_360) rfl (Ls' := #[.val (.int p1), .val (.int p2), .val (.int p3), .val (.int p4), .val (.int p5), .val (.int z3), .val (.int z6), .val (.int z9), .val (.int z12), .val (.int z15), .val (.ref b16), .val (.ref b30), .val (.ref c30), .val (.ref d30), .val (.int r64), .val (.int z67), .val (.int z72), .val (.int z79)]) rfl ?_
  refine g_aload 364 X78 hx (hb hby at_362) rfl (v := (.ref d30)) rfl rfl ?_
  refine g_iload 366 X78 hx (hb hby at_364) rfl (v := r64) rfl ?_
  have ehr64 : r64 = _ := hr64
  have hx0 : r64 = (own_below z6 z9 z12 z15 z6) := by rw [ehr64]
  have hit0 := own_hitE hP.2.2.1
  rw [← hx0] at hit0
  refine g_iaload 367 X78 hx hZ e78 B30 (r64.toInt.toNat) (own_nat0 hit0.1.1) rfl (z := (0 : Int32)) (by have q := own_get (bs := (own_I4 z3 z6 z9 z12 z15)) (i := r64.toInt.toNat) (by rw [hI]; omega); rw [hit0.2] at q; exact q) (hb hby at_366) rfl ?_
  refine g_ifNo 370 X78 hx (hb hby at_367)  ((if0 _ _).trans (teq (rfl : (0 : Int32) = (0 : Int32))).2) rfl ?_
  refine g_aload 372 X78 hx (hb hby at_370) rfl (v := (.ref d30)) rfl rfl ?_
  refine g_iload 374 X78 hx (hb hby at_372) rfl (v := z67) rfl ?_
  have ehr66 : r66 = _ := hr66
  have ehr65 : r65 = _ := hr65
  have hx1 : z67 = (own_below z6 z9 z12 z15 z9 + own_eq z6 z9) := by rw [← hz67, ehr65, ehr66]
  have hit1 := own_hitE hP.2.2.2.1
  rw [← hx1] at hit1
  refine g_iaload 375 X78 hx hZ e78 B30 (z67.toInt.toNat) (own_nat0 hit1.1.1) rfl (z := (1 : Int32)) (by have q := own_get (bs := (own_I4 z3 z6 z9 z12 z15)) (i := z67.toInt.toNat) (by rw [hI]; omega); rw [hit1.2] at q; exact q) (hb hby at_374) rfl ?_
  refine g_iconst 376 X78 hx (hb hby at_375) rfl (z := (1 : Int32)) rfl ?_
  refine g_icmpNo 379 X78 hx (hb hby at_376)  (teq (rfl : (1 : Int32) = (1 : Int32))).2 rfl ?_
  refine g_aload 381 X78 hx (hb hby at_379) rfl (v := (.ref d30)) rfl rfl ?_
  refine g_iload 383 X78 hx (hb hby at_381) rfl (v := z72) rfl ?_
  have ehr68 : r68 = _ := hr68
  have ehr69 : r69 = _ := hr69
  have ehr71 : r71 = _ := hr71
  have hx2 : z72 = ((own_below z6 z9 z12 z15 z12 + own_eq z6 z12) + own_eq z9 z12) := by rw [← hz72, ← hz70, ehr68, ehr69, ehr71]
  have hit2 := own_hitE hP.2.2.2.2.1
  rw [← hx2] at hit2
  refine g_iaload 384 X78 hx hZ e78 B30 (z72.toInt.toNat) (own_nat0 hit2.1.1) rfl (z := (2 : Int32)) (by have q := own_get (bs := (own_I4 z3 z6 z9 z12 z15)) (i := z72.toInt.toNat) (by rw [hI]; omega); rw [hit2.2] at q; exact q) (hb hby at_383) rfl ?_
  refine g_iconst 385 X78 hx (hb hby at_384) rfl (z := (2 : Int32)) rfl ?_
  refine g_icmpNo 388 X78 hx (hb hby at_385)  (teq (rfl : (2 : Int32) = (2 : Int32))).2 rfl ?_
  refine g_aload 390 X78 hx (hb hby at_388) rfl (v := (.ref d30)) rfl rfl ?_
  refine g_iload 392 X78 hx (hb hby at_390) rfl (v := z79) rfl ?_
  have ehr74 : r74 = _ := hr74
  have ehr76 : r76 = _ := hr76
  have ehr73 : r73 = _ := hr73
  have ehr78 : r78 = _ := hr78
  have hx3 : z79 = (((own_below z6 z9 z12 z15 z15 + own_eq z6 z15) + own_eq z9 z15) + own_eq z12 z15) := by rw [← hz79, ← hz77, ← hz75, ehr73, ehr74, ehr76, ehr78]
  have hit3 := own_hitE hP.2.2.2.2.2
  rw [← hx3] at hit3
  refine g_iaload 393 X78 hx hZ e78 B30 (z79.toInt.toNat) (own_nat0 hit3.1.1) rfl (z := (3 : Int32)) (by have q := own_get (bs := (own_I4 z3 z6 z9 z12 z15)) (i := z79.toInt.toNat) (by rw [hI]; omega); rw [hit3.2] at q; exact q) (hb hby at_392) rfl ?_
  refine g_iconst 394 X78 hx (hb hby at_393) rfl (z := (3 : Int32)) rfl ?_
  refine g_icmpNo 397 X78 hx (hb hby at_394)  (teq (rfl : (3 : Int32) = (3 : Int32))).2 rfl ?_
  refine g_iconst 398 X78 hx (hb hby at_397) rfl (z := (1 : Int32)) rfl ?_
  refine g_goto 402 X78 hx (hb hby at_398) (by decide) (by decide) ?_
  exact g_retN X78 hx (t := .boolean) Bd.returns hlk (by simp) rfl (hb hby at_402) (by decide) (by decide) ⟨rfl, N78⟩
set_option maxRecDepth 65536 in
set_option maxHeartbeats 40000000 in
theorem comes_1 {Post : Tables → Env → Array Value → State → Outcome → State → Prop} (hpost : ∀ tb e args s v u, (limb_1_1.after args s (.returned v) u = true ∧ limb_1_2.after args s (.returned v) u = true ∧ True) → FrameEnd s (.returned v) u (Jvm.fieldLocs frame_1_writes args s ++ Jvm.arrayLocs frame_1_arrays args s ++ Jvm.staticLocs frame_1_statics s) 24 128 → Post tb e args s (.returned v) u) :
    ArmFor flags0 classFile x code maxLocals ret World_1 tables_1 room_1 Calls_1 rest_1 Pre_1 Post := by
  intro l hfl _ _ p e ha hc hk s m args below hf hA hF happ hP
  obtain ⟨hcalls, hrest, hpre⟩ := hP
  obtain ⟨-, -, -, hnamed, -, -, -, hat⟩ := (Spec.applies_iff hf).mp happ
  obtain ⟨hg, hn⟩ := and_e (Cond.before_iff.mp (show (Jvm.Cond.and given_1 narrow_1).before args s = true from hpre))
  obtain ⟨hcount, r0⟩ := and_e hg
  obtain ⟨ga0, r1⟩ := and_e r0
  obtain ⟨ga1, r2⟩ := and_e r1
  obtain ⟨ga2, r3⟩ := and_e r2
  obtain ⟨ga3, r4⟩ := and_e r3
  obtain ⟨w0, w1, w2, w3, w4, rfl⟩ : ∃ w0 w1 w2 w3 w4 : Value, args = #[w0, w1, w2, w3, w4] := by
    have hs : args.size = 5 := by simpa [Cond.value, given_1] using hcount
    obtain ⟨L⟩ := args
    match L, hs with
    | [w0, w1, w2, w3, w4], _ => exact ⟨w0, w1, w2, w3, w4, rfl⟩
  have hw := fun d (hd : d ∈ tables_1) => atoms_spec (ws := Jvm.Cond.code x code maxLocals ret :: tables_1) hat d (List.mem_cons_of_mem _ hd)
  obtain ⟨i0, ei0⟩ := is_v ga0
  obtain rfl : w0 = (.int i0) := Option.some.inj ei0
  obtain ⟨i1, ei1⟩ := is_v ga1
  obtain rfl : w1 = (.int i1) := Option.some.inj ei1
  obtain ⟨i2, ei2⟩ := is_v ga2
  obtain rfl : w2 = (.int i2) := Option.some.inj ei2
  obtain ⟨i3, ei3⟩ := is_v ga3
  obtain rfl : w3 = (.int i3) := Option.some.inj ei3
  obtain ⟨i4, ei4⟩ := is_v r4
  obtain rfl : w4 = (.int i4) := Option.some.inj ei4
  obtain ⟨n, o, h1, h2, h3, _, L, rfl, ⟨rfl, N⟩, hq⟩ := rm0 l s _ hw tables_1 i0 i1 i2 i3 i4 s.heap s.heap.size (Nat.le_refl _)  p e ha hc hk s m _ below hf ((Spec.applies_iff_loose hf).mp happ).1 ⟨rfl, State.Warmed39.refl s, rfl⟩ trivial
  exact ⟨n, _, h1, h2, h3, hpost _ _ _ _ _ _ ⟨Cond.after_iff.mpr rfl, Cond.after_iff.mpr (eq_i res_at (Term.int_eval (1)) rfl), trivial⟩ ⟨hq.1, hq.2.1, (hq.2.2.sift fun y hy => Or.inr (N y hy)).mono (by decide) (by decide)⟩⟩
theorem main_1_1 : Claimed_1_1 := comes_1 fun _ _ _ _ _ _ h hF => ⟨h.1, hF⟩
theorem main_1_2 : Claimed_1_2 := comes_1 fun _ _ _ _ _ _ h hF => ⟨h.2.1, hF⟩
end Jvm.Pilot.@@N@@
namespace Jvm.Pilot.@@N@@
open Jvm Jvm.ClassFile Sem Op Lib Jvm.Free Jvm.Stand Jvm.Pilot.@@N@@.Jvm.D
/-! MADE BY PROGRAM (witnessworld.py) out of the Statement's table words and the real class files: 12 classes; the members and pool entries that the words name. The judged class is class 1, her method 5. -/
namespace start1
open Jvm.ClassFile
def u (s : String) : CpInfo := .utf8 (stringToUtf16 s)
/-- a pool by its gaps: so many unusable entries, then the entry; so many at the end -/
def gap : Nat → List CpInfo → List CpInfo
  | 0, r => r
  | n + 1, r => .unusable :: gap n r
def poolList (es : List (Nat × CpInfo)) (last : Nat) : List CpInfo := es.foldr (fun e r => gap e.1 (e.2 :: r)) (gap last [])
def pool (es : List (Nat × CpInfo)) (last : Nat) : Array CpInfo := ⟨poolList es last⟩
def fileOf (pool : Array CpInfo) (this : Nat) (attrs : Array Attribute := #[]) (ms : Array MethodInfo := #[]) (fl : Nat := 33) (sup : Nat := 0) (ifs : Array Nat := #[]) (fds : Array FieldInfo := #[]) : ClassFile where
  minorVersion := 0
  majorVersion := 65
  constantPool := pool
  accessFlags := fl
  thisClass := this
  superClass := sup
  interfaces := ifs
  fields := fds
  methods := ms
  attributes := attrs
def plain (name : String) (sup : Option ClassId) : Class where
  name := name
  kind := .ordinary
  loader := none
  accessFlags := 33
  super := sup
  interfaces := #[]
  cf := none
  fields := #[]
  methods := #[]
  instanceTypes := #[]
  staticTypes := #[]
  resolved := #[]
  callSites := []
  init := .initialized
  statics := none
  mirror := none

def pool0 : Array CpInfo := pool [(5, u "<init>"), (0, u "()V"), (1, .class_ 10), (1, u "java/lang/Object")] 113

def k0c0 : Code := { maxStack := 0, maxLocals := 1, code := object_method_1_code, exceptionTable := #[], attributes := #[] }
def k0m0 : Method := { name := "<init>", desc := "()V", sig := { parameters := [], returnType := none }, accessFlags := 1, code := some k0c0 }
/-- java/lang/Object -/
def k0 : Class := { plain "java/lang/Object" none with
  accessFlags := 33
  interfaces := #[]
  cf := some (fileOf pool0 8 #[] #[{ accessFlags := 1, nameIndex := 5, descriptorIndex := 6, attributes := #[] }] 33 0 #[] #[])
  fields := #[]
  methods := #[k0m0]
  instanceTypes := #[]
  staticTypes := #[]
  resolved := Array.replicate 124 none
  statics := none }

def pool1 : Array CpInfo := pool [(2, .class_ 4), (1, u "java/lang/Object"), (0, u "<init>"), (0, u "()V"), (0, .methodref 8 9), (0, .class_ 10), (0, .nameAndType 11 12), (0, u "com/example/bar_visibility/barvisibility/GroupsByKeyPinLaw"), (0, u "lt"), (0, u "(II)I"), (0, .methodref 8 14), (0, .nameAndType 15 16), (0, u "below"), (0, u "(IIIII)I"), (0, .integer 2147483647), (0, .methodref 19 20), (0, .class_ 21), (0, .nameAndType 22 23), (0, u "com/example/bar_visibility/barvisibility/Groups"), (0, u "byKey"), (0, u "([II)Lcom/example/bar_visibility/barvisibility/Groups;"), (0, .methodref 19 25), (0, .nameAndType 26 27), (0, u "starts"), (0, u "()[I"), (0, .methodref 19 29), (0, .nameAndType 30 27), (0, u "items"), (0, .methodref 19 32), (0, .nameAndType 33 34), (0, u "groupCount"), (0, u "()I"), (0, .methodref 8 36), (0, .nameAndType 37 38), (0, u "startOk"), (0, u "([IIIIIII)Z"), (0, .methodref 8 40), (0, .nameAndType 41 12), (0, u "eq"), (3, u "law"), (0, u "(IIIII)Z")] 4

def k1m0 : Method := { name := "<init>", desc := "()V", sig := { parameters := [], returnType := none }, accessFlags := 1, code := none }
def k1c1 : Code := { maxStack := 2, maxLocals := 2, code := method_2_code, exceptionTable := #[], attributes := #[] }
def k1m1 : Method := { name := "lt", desc := "(II)I", sig := { parameters := [.int, .int], returnType := some .int }, accessFlags := 10, code := some k1c1 }
def k1c2 : Code := { maxStack := 2, maxLocals := 2, code := method_3_code, exceptionTable := #[], attributes := #[] }
def k1m2 : Method := { name := "eq", desc := "(II)I", sig := { parameters := [.int, .int], returnType := some .int }, accessFlags := 10, code := some k1c2 }
def k1c3 : Code := { maxStack := 3, maxLocals := 5, code := method_4_code, exceptionTable := #[], attributes := #[] }
def k1m3 : Method := { name := "below", desc := "(IIIII)I", sig := { parameters := [.int, .int, .int, .int, .int], returnType := some .int }, accessFlags := 10, code := some k1c3 }
def k1c4 : Code := { maxStack := 6, maxLocals := 7, code := method_5_code, exceptionTable := #[], attributes := #[] }
def k1m4 : Method := { name := "startOk", desc := "([IIIIIII)Z", sig := { parameters := [(.array .int), .int, .int, .int, .int, .int, .int], returnType := some .boolean }, accessFlags := 10, code := some k1c4 }
def k1c5 : Code := { maxStack := 7, maxLocals := 18, code := code, exceptionTable := #[], attributes := #[] }
def k1m5 : Method := { name := "law", desc := "(IIIII)Z", sig := { parameters := [.int, .int, .int, .int, .int], returnType := some .boolean }, accessFlags := 9, code := some k1c5 }
/-- com/example/bar_visibility/barvisibility/GroupsByKeyPinLaw -/
def k1 : Class := { plain "com/example/bar_visibility/barvisibility/GroupsByKeyPinLaw" (some 0) with
  accessFlags := 49
  interfaces := #[]
  cf := some (fileOf pool1 8 #[] #[{ accessFlags := 1, nameIndex := 5, descriptorIndex := 6, attributes := #[] }, { accessFlags := 10, nameIndex := 11, descriptorIndex := 12, attributes := #[] }, { accessFlags := 10, nameIndex := 41, descriptorIndex := 12, attributes := #[] }, { accessFlags := 10, nameIndex := 15, descriptorIndex := 16, attributes := #[] }, { accessFlags := 10, nameIndex := 37, descriptorIndex := 38, attributes := #[] }, { accessFlags := 9, nameIndex := 45, descriptorIndex := 46, attributes := #[] }] 49 2 #[] #[])
  fields := #[]
  methods := #[k1m0, k1m1, k1m2, k1m3, k1m4, k1m5]
  instanceTypes := #[]
  staticTypes := #[]
  resolved := Array.replicate 51 none
  statics := none }

def pool2 : Array CpInfo := pool [(1, .methodref 2 3), (0, .class_ 4), (0, .nameAndType 5 6), (0, u "java/lang/Object"), (0, u "<init>"), (0, u "()V"), (0, .fieldref 8 9), (0, .class_ 10), (0, .nameAndType 11 12), (0, u "com/example/bar_visibility/barvisibility/Groups"), (0, u "first"), (0, u "[I"), (0, .fieldref 8 14), (0, .nameAndType 15 12), (0, u "items"), (0, .methodref 17 18), (0, .class_ 19), (0, .nameAndType 20 21), (0, u "java/util/Arrays"), (0, u "copyOf"), (0, u "([II)[I"), (0, .methodref 8 23), (0, .nameAndType 5 24), (0, u "([I[I)V"), (6, u "byKey"), (0, u "([II)Lcom/example/bar_visibility/barvisibility/Groups;"), (2, u "groupCount"), (0, u "()I"), (0, u "starts"), (0, u "()[I")] 10

def k2c0 : Code := { maxStack := 2, maxLocals := 3, code := prog_6_method_1_code, exceptionTable := #[], attributes := #[] }
def k2m0 : Method := { name := "<init>", desc := "([I[I)V", sig := { parameters := [(.array .int), (.array .int)], returnType := none }, accessFlags := 2, code := some k2c0 }
def k2c1 : Code := { maxStack := 6, maxLocals := 7, code := prog_6_method_2_code, exceptionTable := #[], attributes := #[] }
def k2m1 : Method := { name := "byKey", desc := "([II)Lcom/example/bar_visibility/barvisibility/Groups;", sig := { parameters := [(.array .int), .int], returnType := some (.object "com/example/bar_visibility/barvisibility/Groups") }, accessFlags := 8, code := some k2c1 }
def k2c2 : Code := { maxStack := 2, maxLocals := 1, code := prog_6_method_3_code, exceptionTable := #[], attributes := #[] }
def k2m2 : Method := { name := "groupCount", desc := "()I", sig := { parameters := [], returnType := some .int }, accessFlags := 0, code := some k2c2 }
def k2c3 : Code := { maxStack := 1, maxLocals := 1, code := prog_6_method_4_code, exceptionTable := #[], attributes := #[] }
def k2m3 : Method := { name := "starts", desc := "()[I", sig := { parameters := [], returnType := some (.array .int) }, accessFlags := 0, code := some k2c3 }
def k2c4 : Code := { maxStack := 1, maxLocals := 1, code := prog_6_method_5_code, exceptionTable := #[], attributes := #[] }
def k2m4 : Method := { name := "items", desc := "()[I", sig := { parameters := [], returnType := some (.array .int) }, accessFlags := 0, code := some k2c4 }
/-- com/example/bar_visibility/barvisibility/Groups -/
def k2 : Class := { plain "com/example/bar_visibility/barvisibility/Groups" (some 0) with
  accessFlags := 48
  interfaces := #[]
  cf := some (fileOf pool2 8 #[] #[{ accessFlags := 2, nameIndex := 5, descriptorIndex := 24, attributes := #[] }, { accessFlags := 8, nameIndex := 31, descriptorIndex := 32, attributes := #[] }, { accessFlags := 0, nameIndex := 35, descriptorIndex := 36, attributes := #[] }, { accessFlags := 0, nameIndex := 37, descriptorIndex := 38, attributes := #[] }, { accessFlags := 0, nameIndex := 15, descriptorIndex := 38, attributes := #[] }] 48 2 #[] #[{ accessFlags := 18, nameIndex := 11, descriptorIndex := 12, attributes := #[] }, { accessFlags := 18, nameIndex := 15, descriptorIndex := 12, attributes := #[] }])
  fields := #[{ name := "first", type := (.array .int), accessFlags := 18, slot := 0, constantValue := 0 }, { name := "items", type := (.array .int), accessFlags := 18, slot := 1, constantValue := 0 }]
  methods := #[k2m0, k2m1, k2m2, k2m3, k2m4]
  instanceTypes := #[(.array .int), (.array .int)]
  staticTypes := #[]
  resolved := Array.replicate 49 none
  statics := none }

def pool3 : Array CpInfo := pool [(2, .class_ 4), (1, u "java/lang/Object"), (0, u "<init>"), (0, u "()V"), (7, .class_ 16), (1, u "java/util/Arrays"), (57, .class_ 76), (1, u "java/util/Arrays$NaturalOrder"), (36, .class_ 115), (1, u "java/util/Arrays$LegacyMergeSort"), (1, u "Z"), (32, .methodref 151 152), (0, .class_ 153), (0, .nameAndType 154 155), (0, u "java/lang/System"), (0, u "arraycopy"), (0, u "(Ljava/lang/Object;ILjava/lang/Object;II)V"), (146, u "copyOf"), (1, .methodref 305 306), (0, .class_ 307), (0, .nameAndType 308 309), (0, u "java/lang/Math"), (0, u "min"), (0, u "(II)I"), (65, .class_ 376), (0, u "java/util/Arrays$ArrayList"), (68, u "$assertionsDisabled"), (269, u "MIN_ARRAY_SORT_GRAN"), (0, u "I"), (2, u "INSERTIONSORT_THRESHOLD"), (151, u "([II)[I"), (103, .class_ 976), (0, u "java/util/Arrays$ArrayItr")] 52

def k3m0 : Method := { name := "<init>", desc := "()V", sig := { parameters := [], returnType := none }, accessFlags := 2, code := none }
def k3c1 : Code := { maxStack := 6, maxLocals := 3, code := jdk_65_method_123_code, exceptionTable := #[], attributes := #[] }
def k3m1 : Method := { name := "copyOf", desc := "([II)[I", sig := { parameters := [(.array .int), .int], returnType := some (.array .int) }, accessFlags := 9, code := some k3c1 }
/-- java/util/Arrays -/
def k3 : Class := { plain "java/util/Arrays" (some 0) with
  accessFlags := 49
  interfaces := #[]
  cf := some (fileOf pool3 14 #[.nestMembers #[975, 375, 113, 74]] #[{ accessFlags := 2, nameIndex := 5, descriptorIndex := 6, attributes := #[] }, { accessFlags := 9, nameIndex := 302, descriptorIndex := 871, attributes := #[] }] 49 2 #[] #[{ accessFlags := 26, nameIndex := 715, descriptorIndex := 716, attributes := #[] }, { accessFlags := 26, nameIndex := 719, descriptorIndex := 716, attributes := #[] }, { accessFlags := 4120, nameIndex := 445, descriptorIndex := 117, attributes := #[] }])
  fields := #[{ name := "MIN_ARRAY_SORT_GRAN", type := .int, accessFlags := 26, slot := 0, constantValue := 0 }, { name := "INSERTIONSORT_THRESHOLD", type := .int, accessFlags := 26, slot := 1, constantValue := 0 }, { name := "$assertionsDisabled", type := .boolean, accessFlags := 4120, slot := 2, constantValue := 0 }]
  methods := #[k3m0, k3m1]
  instanceTypes := #[]
  staticTypes := #[.int, .int, .boolean]
  resolved := Array.replicate 1029 none
  statics := none }

def pool4 : Array CpInfo := pool [(1, .class_ 2), (0, u "java/lang/Math"), (1, .class_ 6), (1, u "java/lang/Object"), (0, u "<init>"), (0, u "()V"), (89, .class_ 100), (1, u "java/lang/Math$RandomNumberGeneratorHolder"), (71, u "negativeZeroFloatBits"), (0, u "J"), (2, u "negativeZeroDoubleBits"), (24, u "min"), (43, u "$assertionsDisabled"), (0, u "Z"), (88, u "(II)I"), (2, u "twoToTheDoubleScaleDown"), (0, u "D"), (4, u "twoToTheDoubleScaleUp"), (9, u "E"), (3, u "PI"), (2, u "TAU"), (2, u "DEGREES_TO_RADIANS"), (0, u "RADIANS_TO_DEGREES")] 94

def k4m0 : Method := { name := "<init>", desc := "()V", sig := { parameters := [], returnType := none }, accessFlags := 2, code := none }
def k4c1 : Code := { maxStack := 2, maxLocals := 2, code := jdk_29_method_69_code, exceptionTable := #[], attributes := #[] }
def k4m1 : Method := { name := "min", desc := "(II)I", sig := { parameters := [.int, .int], returnType := some .int }, accessFlags := 9, code := some k4c1 }
/-- java/lang/Math -/
def k4 : Class := { plain "java/lang/Math" (some 0) with
  accessFlags := 49
  interfaces := #[]
  cf := some (fileOf pool4 1 #[.nestMembers #[98]] #[{ accessFlags := 2, nameIndex := 7, descriptorIndex := 8, attributes := #[] }, { accessFlags := 9, nameIndex := 201, descriptorIndex := 335, attributes := #[] }] 49 4 #[] #[{ accessFlags := 25, nameIndex := 354, descriptorIndex := 339, attributes := #[] }, { accessFlags := 25, nameIndex := 358, descriptorIndex := 339, attributes := #[] }, { accessFlags := 25, nameIndex := 361, descriptorIndex := 339, attributes := #[] }, { accessFlags := 26, nameIndex := 364, descriptorIndex := 339, attributes := #[] }, { accessFlags := 26, nameIndex := 365, descriptorIndex := 339, attributes := #[] }, { accessFlags := 26, nameIndex := 172, descriptorIndex := 173, attributes := #[] }, { accessFlags := 26, nameIndex := 176, descriptorIndex := 173, attributes := #[] }, { accessFlags := 8, nameIndex := 344, descriptorIndex := 339, attributes := #[] }, { accessFlags := 8, nameIndex := 338, descriptorIndex := 339, attributes := #[] }, { accessFlags := 4120, nameIndex := 245, descriptorIndex := 246, attributes := #[] }])
  fields := #[{ name := "E", type := .double, accessFlags := 25, slot := 0, constantValue := 0 }, { name := "PI", type := .double, accessFlags := 25, slot := 1, constantValue := 0 }, { name := "TAU", type := .double, accessFlags := 25, slot := 2, constantValue := 0 }, { name := "DEGREES_TO_RADIANS", type := .double, accessFlags := 26, slot := 3, constantValue := 0 }, { name := "RADIANS_TO_DEGREES", type := .double, accessFlags := 26, slot := 4, constantValue := 0 }, { name := "negativeZeroFloatBits", type := .long, accessFlags := 26, slot := 5, constantValue := 0 }, { name := "negativeZeroDoubleBits", type := .long, accessFlags := 26, slot := 6, constantValue := 0 }, { name := "twoToTheDoubleScaleUp", type := .double, accessFlags := 8, slot := 7, constantValue := 0 }, { name := "twoToTheDoubleScaleDown", type := .double, accessFlags := 8, slot := 8, constantValue := 0 }, { name := "$assertionsDisabled", type := .boolean, accessFlags := 4120, slot := 9, constantValue := 0 }]
  methods := #[k4m0, k4m1]
  instanceTypes := #[]
  staticTypes := #[.double, .double, .double, .double, .double, .long, .long, .double, .double, .boolean]
  resolved := Array.replicate 460 none
  statics := none }

def pool5 : Array CpInfo := pool [(2, .class_ 4), (1, u "java/lang/Object"), (0, u "<init>"), (0, u "()V"), (1, .class_ 10), (1, u "java/lang/System"), (0, u "allowSecurityManager"), (0, u "I"), (16, u "cons"), (0, u "Ljava/io/Console;"), (77, .class_ 110), (1, u "java/lang/System$CallersHolder"), (43, u "initialErrStream"), (0, u "Ljava/io/PrintStream;"), (19, u "security"), (0, u "Ljava/lang/SecurityManager;"), (31, .class_ 209), (0, u "java/lang/System$1"), (7, u "props"), (0, u "Ljava/util/Properties;"), (2, u "lineSeparator"), (0, u "Ljava/lang/String;"), (96, .class_ 321), (1, u "java/lang/System$LoggerFinder"), (5, .class_ 328), (0, u "java/lang/System$Logger"), (67, u "err"), (2, u "out"), (91, u "notSupportedJnuEncoding"), (15, u "in"), (17, u "initialIn"), (0, u "Ljava/io/InputStream;"), (35, u "bootLayer"), (0, u "Ljava/lang/ModuleLayer;"), (99, .class_ 664), (0, u "java/lang/System$2"), (9, u "NEVER"), (2, u "MAYBE"), (49, u "arraycopy"), (0, u "(Ljava/lang/Object;ILjava/lang/Object;II)V"), (72, .class_ 802), (0, u "java/lang/System$Logger$Level")] 31

def k5m0 : Method := { name := "<init>", desc := "()V", sig := { parameters := [], returnType := none }, accessFlags := 2, code := none }
def k5m1 : Method := { name := "arraycopy", desc := "(Ljava/lang/Object;ILjava/lang/Object;II)V", sig := { parameters := [(.object "java/lang/Object"), .int, (.object "java/lang/Object"), .int, .int], returnType := none }, accessFlags := 265, code := none }
/-- java/lang/System -/
def k5 : Class := { plain "java/lang/System" (some 0) with
  accessFlags := 49
  interfaces := #[]
  cf := some (fileOf pool5 8 #[.nestMembers #[319, 327, 801, 108, 663, 208]] #[{ accessFlags := 2, nameIndex := 5, descriptorIndex := 6, attributes := #[] }, { accessFlags := 265, nameIndex := 727, descriptorIndex := 728, attributes := #[] }] 49 2 #[] #[{ accessFlags := 25, nameIndex := 507, descriptorIndex := 526, attributes := #[] }, { accessFlags := 25, nameIndex := 399, descriptorIndex := 155, attributes := #[] }, { accessFlags := 25, nameIndex := 396, descriptorIndex := 155, attributes := #[] }, { accessFlags := 10, nameIndex := 525, descriptorIndex := 526, attributes := #[] }, { accessFlags := 26, nameIndex := 674, descriptorIndex := 12, attributes := #[] }, { accessFlags := 26, nameIndex := 677, descriptorIndex := 12, attributes := #[] }, { accessFlags := 10, nameIndex := 11, descriptorIndex := 12, attributes := #[] }, { accessFlags := 74, nameIndex := 175, descriptorIndex := 176, attributes := #[] }, { accessFlags := 10, nameIndex := 491, descriptorIndex := 222, attributes := #[] }, { accessFlags := 74, nameIndex := 29, descriptorIndex := 30, attributes := #[] }, { accessFlags := 74, nameIndex := 154, descriptorIndex := 155, attributes := #[] }, { accessFlags := 10, nameIndex := 217, descriptorIndex := 218, attributes := #[] }, { accessFlags := 10, nameIndex := 221, descriptorIndex := 222, attributes := #[] }, { accessFlags := 8, nameIndex := 562, descriptorIndex := 563, attributes := #[] }])
  fields := #[{ name := "in", type := (.object "java/io/InputStream"), accessFlags := 25, slot := 0, constantValue := 0 }, { name := "out", type := (.object "java/io/PrintStream"), accessFlags := 25, slot := 1, constantValue := 0 }, { name := "err", type := (.object "java/io/PrintStream"), accessFlags := 25, slot := 2, constantValue := 0 }, { name := "initialIn", type := (.object "java/io/InputStream"), accessFlags := 10, slot := 3, constantValue := 0 }, { name := "NEVER", type := .int, accessFlags := 26, slot := 4, constantValue := 0 }, { name := "MAYBE", type := .int, accessFlags := 26, slot := 5, constantValue := 0 }, { name := "allowSecurityManager", type := .int, accessFlags := 10, slot := 6, constantValue := 0 }, { name := "security", type := (.object "java/lang/SecurityManager"), accessFlags := 74, slot := 7, constantValue := 0 }, { name := "notSupportedJnuEncoding", type := (.object "java/lang/String"), accessFlags := 10, slot := 8, constantValue := 0 }, { name := "cons", type := (.object "java/io/Console"), accessFlags := 74, slot := 9, constantValue := 0 }, { name := "initialErrStream", type := (.object "java/io/PrintStream"), accessFlags := 74, slot := 10, constantValue := 0 }, { name := "props", type := (.object "java/util/Properties"), accessFlags := 10, slot := 11, constantValue := 0 }, { name := "lineSeparator", type := (.object "java/lang/String"), accessFlags := 10, slot := 12, constantValue := 0 }, { name := "bootLayer", type := (.object "java/lang/ModuleLayer"), accessFlags := 8, slot := 13, constantValue := 0 }]
  methods := #[k5m0, k5m1]
  instanceTypes := #[]
  staticTypes := #[(.object "java/io/InputStream"), (.object "java/io/PrintStream"), (.object "java/io/PrintStream"), (.object "java/io/InputStream"), .int, .int, .int, (.object "java/lang/SecurityManager"), (.object "java/lang/String"), (.object "java/io/Console"), (.object "java/io/PrintStream"), (.object "java/util/Properties"), (.object "java/lang/String"), (.object "java/lang/ModuleLayer")]
  resolved := Array.replicate 834 none
  statics := none }

def pool6 : Array CpInfo := pool [(1, u "java/lang/Cloneable"), (0, .class_ 1), (0, u "java/lang/Object"), (0, .class_ 3)] 3

/-- java/lang/Cloneable -/
def k6 : Class := { plain "java/lang/Cloneable" (some 0) with
  accessFlags := 1537
  interfaces := #[]
  cf := some (fileOf pool6 2 #[] #[] 1537 4 #[] #[])
  fields := #[]
  methods := #[]
  instanceTypes := #[]
  staticTypes := #[]
  resolved := Array.replicate 8 none
  statics := none }

def pool7 : Array CpInfo := pool [(1, u "java/io/Serializable"), (0, .class_ 1), (0, u "java/lang/Object"), (0, .class_ 3)] 3

/-- java/io/Serializable -/
def k7 : Class := { plain "java/io/Serializable" (some 0) with
  accessFlags := 1537
  interfaces := #[]
  cf := some (fileOf pool7 2 #[] #[] 1537 4 #[] #[])
  fields := #[]
  methods := #[]
  instanceTypes := #[]
  staticTypes := #[]
  resolved := Array.replicate 8 none
  statics := none }

/-- the primitive byte -/
def k8 : Class := { plain "byte" none with kind := .primitive 'B', accessFlags := 0x411 }
/-- [B -/
def k9 : Class := { plain "[B" (some 0) with kind := .array 8 .byte, interfaces := #[6, 7], accessFlags := 1041 }

/-- the primitive int -/
def k10 : Class := { plain "int" none with kind := .primitive 'I', accessFlags := 0x411 }
/-- [I -/
def k11 : Class := { plain "[I" (some 0) with kind := .array 10 .int, interfaces := #[6, 7], accessFlags := 1041 }

def heap : Heap := #[]
def classes : Array Class := #[k0, k1, k2, k3, k4, k5, k6, k7, k8, k9, k10, k11]
def interned : List (Array UInt16 × Addr) := []
def slotsUsed : Nat := 0
def theMethod : MethodId := ⟨1, 5⟩
def args0 : Array Value := #[.int 5, .int 7, .int 9, .int 11, .int 3]
def aboutOver (below : List Frame) : State where
  vm := { classes := classes, interned := interned.toArray }
  heap := heap
  slotsUsed := slotsUsed
  threads := #[{ frames := .invoking theMethod args0 :: below }]
def below0 : List Frame := [.native { method := ⟨0, 0⟩, args := #[] }]
def about1 : State := aboutOver below0
def p0 : Program := .bare "" "" ""
def e0 : Env := launch0.env 0 0 0
theorem w_frames : about1.frames = Frame.invoking theMethod args0 :: below0 := rfl
set_option maxRecDepth 65536 in
theorem w_args : argsFit about1.vm theMethod args0 = true := by decide +kernel
set_option maxRecDepth 65536 in
theorem w_heap : heapFits about1 = true := by decide +kernel
set_option maxRecDepth 65536 in
theorem w_runnable : about1.curStatus? = some .runnable := by decide +kernel
set_option maxRecDepth 65536 in
theorem w_alone : about1.alone = true := by decide +kernel
set_option maxRecDepth 65536 in
theorem w_named : about1.methodNamed? x = some theMethod := by decide +kernel
set_option maxRecDepth 65536 in
theorem w_hears : about1.hears theMethod below0 = true := by decide +kernel
set_option maxRecDepth 65536 in
theorem w_ripe : about1.ripe theMethod args0 below0 = true := by decide +kernel
theorem w_running : about1.status = .running := rfl
set_option maxRecDepth 65536 in
theorem w_room : about1.hasRoom e0.platform room_1 = true :=
  launch0.hasRoom_least _ room_1 (by decide +kernel) (by decide +kernel) (by decide +kernel) (by decide +kernel) (by decide +kernel) (by decide +kernel)
theorem allAtoms_all (ts : List Jvm.Cond) (a : Array Jvm.Value) (st : Jvm.State) : (allAtoms ts).before a st = ts.all (fun c => c.before a st) := by
  induction ts with
  | nil => rfl
  | cons c t ih =>
    show (Jvm.Cond.and c (allAtoms t)).before a st = _
    rw [Jvm.Cond.before_and, ih, List.all_cons]
def words1 : List Jvm.Cond := Jvm.Cond.code x code maxLocals ret :: tables_1
/-- a 'code' word, met by the world's own term for the bytes: nothing is compared byte by byte -/
theorem code_word {y : MethodName} {bytes : ByteArray} {mx : Nat} {rt : Option FieldType} {a : Array Value} {s : State} {m : MethodId} {meth : Method} {c : Code} (h1 : s.methodNamed? y = some m) (h2 : s.vm.method? m = some meth) (h3 : meth.code = some c) (h4 : c.code = bytes)
    (h5 : (c.maxLocals == mx && c.exceptionTable.isEmpty && decide (c.maxStack ≤ mostOperands) && decide (meth.sig.returnType = rt) && !meth.locks && decide (parseMethodDescriptor y.desc = some meth.sig)) = true) : (Jvm.Cond.code y bytes mx rt).before a s = true := by
  simp only [Bool.and_eq_true, beq_iff_eq, Bool.not_eq_true', decide_eq_true_eq] at h5
  obtain ⟨⟨⟨⟨⟨g1, g2⟩, g3⟩, g4⟩, g5⟩, g6⟩ := h5
  simp [Cond.before, Cond.holds, Cond.value, h1, h2, h3, h4, g1, g2, g3, g4, g5, g6]
def isCode : Jvm.Cond → Bool
  | .code _ _ _ _ => true
  | _ => false
theorem all_split {L : List Jvm.Cond} {P : Jvm.Cond → Bool} (h1 : L.all (fun c => isCode c || P c) = true) (h2 : ∀ c ∈ L.filter isCode, P c = true) : L.all P = true := by
  refine List.all_eq_true.mpr fun c hc => ?_
  have h := List.all_eq_true.mp h1 c hc
  rcases Bool.eq_false_or_eq_true (isCode c) with hi | hi
  · exact h2 c (List.mem_filter.mpr ⟨hc, hi⟩)
  · simpa [hi] using h
set_option maxRecDepth 65536 in
theorem w_c0 : (Jvm.Cond.code x code maxLocals ret).before args0 about1 = true := code_word (m := ⟨1, 5⟩) (meth := k1m5) (c := k1c5) (by decide +kernel) rfl rfl rfl (by decide +kernel)
set_option maxRecDepth 65536 in
theorem w_c1 : (Jvm.Cond.code ({ cls := "com/example/bar_visibility/barvisibility/Groups", name := "byKey", desc := "([II)Lcom/example/bar_visibility/barvisibility/Groups;" } : Jvm.MethodName) prog_6_method_2_code (7 : Nat) (Option.some (Jvm.ClassFile.FieldType.object "com/example/bar_visibility/barvisibility/Groups"))).before args0 about1 = true := code_word (m := ⟨2, 1⟩) (meth := k2m1) (c := k2c1) (by decide +kernel) rfl rfl rfl (by decide +kernel)
set_option maxRecDepth 65536 in
theorem w_c2 : (Jvm.Cond.code ({ cls := "java/util/Arrays", name := "copyOf", desc := "([II)[I" } : Jvm.MethodName) jdk_65_method_123_code (3 : Nat) (Option.some (Jvm.ClassFile.FieldType.array Jvm.ClassFile.FieldType.int))).before args0 about1 = true := code_word (m := ⟨3, 1⟩) (meth := k3m1) (c := k3c1) (by decide +kernel) rfl rfl rfl (by decide +kernel)
set_option maxRecDepth 65536 in
theorem w_c3 : (Jvm.Cond.code ({ cls := "java/lang/Math", name := "min", desc := "(II)I" } : Jvm.MethodName) jdk_29_method_69_code (2 : Nat) (Option.some Jvm.ClassFile.FieldType.int)).before args0 about1 = true := code_word (m := ⟨4, 1⟩) (meth := k4m1) (c := k4c1) (by decide +kernel) rfl rfl rfl (by decide +kernel)
set_option maxRecDepth 65536 in
theorem w_c4 : (Jvm.Cond.code ({ cls := "com/example/bar_visibility/barvisibility/Groups", name := "<init>", desc := "([I[I)V" } : Jvm.MethodName) prog_6_method_1_code (3 : Nat) (Option.none : Option Jvm.ClassFile.FieldType)).before args0 about1 = true := code_word (m := ⟨2, 0⟩) (meth := k2m0) (c := k2c0) (by decide +kernel) rfl rfl rfl (by decide +kernel)
set_option maxRecDepth 65536 in
theorem w_c5 : (Jvm.Cond.code ({ cls := "java/lang/Object", name := "<init>", desc := "()V" } : Jvm.MethodName) object_method_1_code (1 : Nat) (Option.none : Option Jvm.ClassFile.FieldType)).before args0 about1 = true := code_word (m := ⟨0, 0⟩) (meth := k0m0) (c := k0c0) (by decide +kernel) rfl rfl rfl (by decide +kernel)
set_option maxRecDepth 65536 in
theorem w_c6 : (Jvm.Cond.code ({ cls := "com/example/bar_visibility/barvisibility/Groups", name := "starts", desc := "()[I" } : Jvm.MethodName) prog_6_method_4_code (1 : Nat) (Option.some (Jvm.ClassFile.FieldType.array Jvm.ClassFile.FieldType.int))).before args0 about1 = true := code_word (m := ⟨2, 3⟩) (meth := k2m3) (c := k2c3) (by decide +kernel) rfl rfl rfl (by decide +kernel)
set_option maxRecDepth 65536 in
theorem w_c7 : (Jvm.Cond.code ({ cls := "com/example/bar_visibility/barvisibility/Groups", name := "items", desc := "()[I" } : Jvm.MethodName) prog_6_method_5_code (1 : Nat) (Option.some (Jvm.ClassFile.FieldType.array Jvm.ClassFile.FieldType.int))).before args0 about1 = true := code_word (m := ⟨2, 4⟩) (meth := k2m4) (c := k2c4) (by decide +kernel) rfl rfl rfl (by decide +kernel)
set_option maxRecDepth 65536 in
theorem w_c8 : (Jvm.Cond.code ({ cls := "com/example/bar_visibility/barvisibility/Groups", name := "groupCount", desc := "()I" } : Jvm.MethodName) prog_6_method_3_code (1 : Nat) (Option.some Jvm.ClassFile.FieldType.int)).before args0 about1 = true := code_word (m := ⟨2, 2⟩) (meth := k2m2) (c := k2c2) (by decide +kernel) rfl rfl rfl (by decide +kernel)
set_option maxRecDepth 65536 in
theorem w_c9 : (Jvm.Cond.code ({ cls := "com/example/bar_visibility/barvisibility/GroupsByKeyPinLaw", name := "startOk", desc := "([IIIIIII)Z" } : Jvm.MethodName) method_5_code (7 : Nat) (Option.some Jvm.ClassFile.FieldType.boolean)).before args0 about1 = true := code_word (m := ⟨1, 4⟩) (meth := k1m4) (c := k1c4) (by decide +kernel) rfl rfl rfl (by decide +kernel)
set_option maxRecDepth 65536 in
theorem w_c10 : (Jvm.Cond.code ({ cls := "com/example/bar_visibility/barvisibility/GroupsByKeyPinLaw", name := "below", desc := "(IIIII)I" } : Jvm.MethodName) method_4_code (5 : Nat) (Option.some Jvm.ClassFile.FieldType.int)).before args0 about1 = true := code_word (m := ⟨1, 3⟩) (meth := k1m3) (c := k1c3) (by decide +kernel) rfl rfl rfl (by decide +kernel)
set_option maxRecDepth 65536 in
theorem w_c11 : (Jvm.Cond.code ({ cls := "com/example/bar_visibility/barvisibility/GroupsByKeyPinLaw", name := "lt", desc := "(II)I" } : Jvm.MethodName) method_2_code (2 : Nat) (Option.some Jvm.ClassFile.FieldType.int)).before args0 about1 = true := code_word (m := ⟨1, 1⟩) (meth := k1m1) (c := k1c1) (by decide +kernel) rfl rfl rfl (by decide +kernel)
set_option maxRecDepth 65536 in
theorem w_c12 : (Jvm.Cond.code ({ cls := "com/example/bar_visibility/barvisibility/GroupsByKeyPinLaw", name := "eq", desc := "(II)I" } : Jvm.MethodName) method_3_code (2 : Nat) (Option.some Jvm.ClassFile.FieldType.int)).before args0 about1 = true := code_word (m := ⟨1, 2⟩) (meth := k1m2) (c := k1c2) (by decide +kernel) rfl rfl rfl (by decide +kernel)
def codes1 : List Jvm.Cond := [Jvm.Cond.code x code maxLocals ret, Jvm.Cond.code ({ cls := "com/example/bar_visibility/barvisibility/Groups", name := "byKey", desc := "([II)Lcom/example/bar_visibility/barvisibility/Groups;" } : Jvm.MethodName) prog_6_method_2_code (7 : Nat) (Option.some (Jvm.ClassFile.FieldType.object "com/example/bar_visibility/barvisibility/Groups")), Jvm.Cond.code ({ cls := "java/util/Arrays", name := "copyOf", desc := "([II)[I" } : Jvm.MethodName) jdk_65_method_123_code (3 : Nat) (Option.some (Jvm.ClassFile.FieldType.array Jvm.ClassFile.FieldType.int)), Jvm.Cond.code ({ cls := "java/lang/Math", name := "min", desc := "(II)I" } : Jvm.MethodName) jdk_29_method_69_code (2 : Nat) (Option.some Jvm.ClassFile.FieldType.int), Jvm.Cond.code ({ cls := "com/example/bar_visibility/barvisibility/Groups", name := "<init>", desc := "([I[I)V" } : Jvm.MethodName) prog_6_method_1_code (3 : Nat) (Option.none : Option Jvm.ClassFile.FieldType), Jvm.Cond.code ({ cls := "java/lang/Object", name := "<init>", desc := "()V" } : Jvm.MethodName) object_method_1_code (1 : Nat) (Option.none : Option Jvm.ClassFile.FieldType), Jvm.Cond.code ({ cls := "com/example/bar_visibility/barvisibility/Groups", name := "starts", desc := "()[I" } : Jvm.MethodName) prog_6_method_4_code (1 : Nat) (Option.some (Jvm.ClassFile.FieldType.array Jvm.ClassFile.FieldType.int)), Jvm.Cond.code ({ cls := "com/example/bar_visibility/barvisibility/Groups", name := "items", desc := "()[I" } : Jvm.MethodName) prog_6_method_5_code (1 : Nat) (Option.some (Jvm.ClassFile.FieldType.array Jvm.ClassFile.FieldType.int)), Jvm.Cond.code ({ cls := "com/example/bar_visibility/barvisibility/Groups", name := "groupCount", desc := "()I" } : Jvm.MethodName) prog_6_method_3_code (1 : Nat) (Option.some Jvm.ClassFile.FieldType.int), Jvm.Cond.code ({ cls := "com/example/bar_visibility/barvisibility/GroupsByKeyPinLaw", name := "startOk", desc := "([IIIIIII)Z" } : Jvm.MethodName) method_5_code (7 : Nat) (Option.some Jvm.ClassFile.FieldType.boolean), Jvm.Cond.code ({ cls := "com/example/bar_visibility/barvisibility/GroupsByKeyPinLaw", name := "below", desc := "(IIIII)I" } : Jvm.MethodName) method_4_code (5 : Nat) (Option.some Jvm.ClassFile.FieldType.int), Jvm.Cond.code ({ cls := "com/example/bar_visibility/barvisibility/GroupsByKeyPinLaw", name := "lt", desc := "(II)I" } : Jvm.MethodName) method_2_code (2 : Nat) (Option.some Jvm.ClassFile.FieldType.int), Jvm.Cond.code ({ cls := "com/example/bar_visibility/barvisibility/GroupsByKeyPinLaw", name := "eq", desc := "(II)I" } : Jvm.MethodName) method_3_code (2 : Nat) (Option.some Jvm.ClassFile.FieldType.int)]
set_option maxRecDepth 65536 in
theorem codes_eq : words1.filter isCode = codes1 := rfl
theorem w_codes : ∀ c ∈ words1.filter isCode, c.before args0 about1 = true := by
  rw [codes_eq]
  intro c hc
  simp only [codes1, List.mem_cons, List.not_mem_nil, or_false] at hc
  rcases hc with rfl | rfl | rfl | rfl | rfl | rfl | rfl | rfl | rfl | rfl | rfl | rfl | rfl
  · exact w_c0
  · exact w_c1
  · exact w_c2
  · exact w_c3
  · exact w_c4
  · exact w_c5
  · exact w_c6
  · exact w_c7
  · exact w_c8
  · exact w_c9
  · exact w_c10
  · exact w_c11
  · exact w_c12
set_option maxRecDepth 65536 in
theorem w_t1 : (words1.take 24).all (fun c => isCode c || c.before args0 about1) = true := by decide +kernel
set_option maxRecDepth 65536 in
theorem w_t2 : ((words1.drop 24).take 24).all (fun c => isCode c || c.before args0 about1) = true := by decide +kernel
set_option maxRecDepth 65536 in
theorem w_t3 : ((words1.drop 24).drop 24).all (fun c => isCode c || c.before args0 about1) = true := by decide +kernel
theorem w_tables : (allAtoms (Jvm.Cond.code x code maxLocals ret :: tables_1)).before args0 about1 = true := by
  rw [allAtoms_all]
  show words1.all (fun c => c.before args0 about1) = true
  refine all_split ?_ w_codes
  rw [← List.take_append_drop 24 words1, List.all_append, w_t1, ← List.take_append_drop 24 (words1.drop 24), List.all_append, w_t2, w_t3]
  rfl
set_option maxRecDepth 65536 in
theorem w_case : (Jvm.Cond.and given_1 narrow_1).before args0 about1 = true := by decide +kernel
theorem w_applies : (headSpec (Jvm.Cond.code x code maxLocals ret :: tables_1) room_1).applies x e0.platform about1 = true :=
  (Spec.applies_iff w_frames).mpr ⟨w_running, w_runnable, w_alone, w_named, w_hears, w_ripe, w_room, w_tables⟩
theorem atStart : AtStart classFile x code maxLocals ret World_1 tables_1 room_1 Calls_1 rest_1 Pre_1 launch0 p0 e0 about1 theMethod args0 below0 :=
  ⟨lists_1, trivial, launch0.admits_env _ _ _, launch0.least_env, fairChoices_fair.cas, fairChoices_fair.clock, w_frames, w_args, w_heap, w_applies, trivial, trivial, w_case⟩
end start1
theorem witness_1 : WitnessClaimed_1 := ⟨start1.p0, start1.e0, start1.about1, start1.theMethod, start1.args0, start1.below0, start1.atStart⟩
end Jvm.Pilot.@@N@@
