import JvmDerived
import JvmDerived.Pilot.@@N@@Statement
import JvmDerived.Pilot.@@N@@Code
set_option linter.unusedVariables false
set_option linter.unusedSimpArgs false
namespace Jvm.Pilot.@@N@@
open Jvm Jvm.ClassFile Sem Op Lib Jvm.Free Jvm.Stand Jvm.LawKit Jvm.RoadKit Bundle Jvm.Pilot.@@N@@.Jvm.D
section OwnKit
/-- the run goes on from here to the method's end; what it leaves is Q -/
def Go (p : Program) (e : Env) (below : List Frame) (s : State) (k n : Nat) (Q : Option Value → Heap → List Loc → Prop) (T : State) (g : JFrame) : Prop :=
  ∃ s₂ o, Steps p.tables e below (T.setTop g) s₂ ∧ s₂.status = .running ∧ Ended s₂ below o ∧ ∃ v L, o = .returned v ∧ Q v s₂.heap L ∧ FrameEnd s o s₂ L k n
variable {p : Program} {l : Launch} {e : Env} {R : Room} {s : State} {m : MethodId} {args : Array Value} {below : List Frame} {meth : Method} {c : Code} {T : State} {locs : List Loc} {cells slots : Nat} {k n : Nat} {Q : Option Value → Heap → List Loc → Prop} {pc : Nat} {Ls : Array Slot} {st : List Value} {Z : State} {a0 : Array Value} {h h' : Heap}
theorem Go.via {T' : State} {g g' : JFrame} (q : ∀ t, Steps p.tables e below (T'.setTop g') t → Steps p.tables e below (T.setTop g) t) (H : Go p e below s k n Q T' g') : Go p e below s k n Q T g := by
  obtain ⟨s₂, o, h1, r⟩ := H
  exact ⟨s₂, o, q _ h1, r⟩
theorem tltL {x y : Int64} (q : x < y) : ifCond.holds .lt (lcmpW x y) = true ∧ ifCond.holds .ge (lcmpW x y) = false ∧ ifCond.holds .gt (lcmpW y x) = true ∧ ifCond.holds .le (lcmpW y x) = false := by
  simp only [if0]
  exact ⟨(tlt ((lw_lt x y).mpr q)).1, (tlt ((lw_lt x y).mpr q)).2.1, (tlt ((lw_gt y x).mpr q)).2.2.1, (tlt ((lw_gt y x).mpr q)).2.2.2⟩
theorem fltL {x y : Int64} (q : ¬ x < y) : ifCond.holds .lt (lcmpW x y) = false ∧ ifCond.holds .ge (lcmpW x y) = true ∧ ifCond.holds .gt (lcmpW y x) = false ∧ ifCond.holds .le (lcmpW y x) = true := by
  simp only [if0]
  exact ⟨(flt (mt (lw_lt x y).mp q)).1, (flt (mt (lw_lt x y).mp q)).2.1, (flt (mt (lw_gt y x).mp q)).2.2.1, (flt (mt (lw_gt y x).mp q)).2.2.2⟩
theorem teqL {x y : Int64} (q : x = y) : ifCond.holds .eq (lcmpW x y) = true ∧ ifCond.holds .ne (lcmpW x y) = false := by
  simp only [if0]
  exact ⟨(teq ((lw_eq x y).mpr q)).1, (teq ((lw_eq x y).mpr q)).2⟩
theorem feqL {x y : Int64} (q : ¬ x = y) : ifCond.holds .eq (lcmpW x y) = false ∧ ifCond.holds .ne (lcmpW x y) = true := by
  simp only [if0]
  exact ⟨(feq (mt (lw_eq x y).mp q)).1, (feq (mt (lw_eq x y).mp q)).2⟩
theorem tlt0 {x y : Int32} (q : x < y) : (y = 0 → ifCond.holds .lt x = true ∧ ifCond.holds .ge x = false) ∧ (x = 0 → ifCond.holds .gt y = true ∧ ifCond.holds .le y = false) := by
  refine ⟨fun r => ?_, fun r => ?_⟩ <;> subst r <;> simp only [if0]
  · exact ⟨(tlt q).1, (tlt q).2.1⟩
  · exact ⟨(tlt q).2.2.1, (tlt q).2.2.2⟩
theorem g_iloadN (pc' : Nat) (X : Stand p l e R s m args below meth c T locs cells slots) (hx : p.tables.exec = Jvm.exec) {i : Fin 4} {v : Int32} (hd : decode c.code pc = .ok (.iload_n i, 1)) (hp : pc + 1 = pc') (hl : Ls[i.val]? = some (.val (.int v))) (H : Go p e below s k n Q T (mkF m pc' Ls (.int v :: st))) : Go p e below s k n Q T (mkF m pc Ls st) := by
  subst hp
  exact H.via fun t q => XS.iloadN X.here hx rfl hd hl q
theorem g_iload (pc' : Nat) (X : Stand p l e R s m args below meth c T locs cells slots) (hx : p.tables.exec = Jvm.exec) {i : Nat} {v : Int32} (hd : decode c.code pc = .ok (.iload i, 2)) (hp : pc + 2 = pc') (hl : Ls[i]? = some (.val (.int v))) (H : Go p e below s k n Q T (mkF m pc' Ls (.int v :: st))) : Go p e below s k n Q T (mkF m pc Ls st) := by
  subst hp
  exact H.via fun t q => XS.iload X.here hx rfl hd hl q
theorem g_istoreN (pc' : Nat) (X : Stand p l e R s m args below meth c T locs cells slots) (hx : p.tables.exec = Jvm.exec) {i : Fin 4} {v : Int32} {Ls' : Array Slot} (hd : decode c.code pc = .ok (.istore_n i, 1)) (hp : pc + 1 = pc') (hl : storeLocals Ls i.val (.int v) = some Ls') (H : Go p e below s k n Q T (mkF m pc' Ls' st)) : Go p e below s k n Q T (mkF m pc Ls (.int v :: st)) := by
  subst hp
  exact H.via fun t q => XS.istoreN X.here hx rfl hd rfl hl q
theorem g_istore (pc' : Nat) (X : Stand p l e R s m args below meth c T locs cells slots) (hx : p.tables.exec = Jvm.exec) {i : Nat} {v : Int32} {Ls' : Array Slot} (hd : decode c.code pc = .ok (.istore i, 2)) (hp : pc + 2 = pc') (hl : storeLocals Ls i (.int v) = some Ls') (H : Go p e below s k n Q T (mkF m pc' Ls' st)) : Go p e below s k n Q T (mkF m pc Ls (.int v :: st)) := by
  subst hp
  exact H.via fun t q => XS.istore X.here hx rfl hd rfl hl q
theorem g_lloadN (pc' : Nat) (X : Stand p l e R s m args below meth c T locs cells slots) (hx : p.tables.exec = Jvm.exec) {i : Fin 4} {v : Int64} (hd : decode c.code pc = .ok (.lload_n i, 1)) (hp : pc + 1 = pc') (hl : Ls[i.val]? = some (.val (.long v))) (H : Go p e below s k n Q T (mkF m pc' Ls (.long v :: st))) : Go p e below s k n Q T (mkF m pc Ls st) := by
  subst hp
  exact H.via fun t q => XS.lloadN X.here hx rfl hd hl q
theorem g_lload (pc' : Nat) (X : Stand p l e R s m args below meth c T locs cells slots) (hx : p.tables.exec = Jvm.exec) {i : Nat} {v : Int64} (hd : decode c.code pc = .ok (.lload i, 2)) (hp : pc + 2 = pc') (hl : Ls[i]? = some (.val (.long v))) (H : Go p e below s k n Q T (mkF m pc' Ls (.long v :: st))) : Go p e below s k n Q T (mkF m pc Ls st) := by
  subst hp
  exact H.via fun t q => XS.lload X.here hx rfl hd hl q
theorem g_lstoreN (pc' : Nat) (X : Stand p l e R s m args below meth c T locs cells slots) (hx : p.tables.exec = Jvm.exec) {i : Fin 4} {v : Int64} {Ls' : Array Slot} (hd : decode c.code pc = .ok (.lstore_n i, 1)) (hp : pc + 1 = pc') (hl : storeLocals Ls i.val (.long v) = some Ls') (H : Go p e below s k n Q T (mkF m pc' Ls' st)) : Go p e below s k n Q T (mkF m pc Ls (.long v :: st)) := by
  subst hp
  exact H.via fun t q => XS.lstoreN X.here hx rfl hd rfl hl q
theorem g_lstore (pc' : Nat) (X : Stand p l e R s m args below meth c T locs cells slots) (hx : p.tables.exec = Jvm.exec) {i : Nat} {v : Int64} {Ls' : Array Slot} (hd : decode c.code pc = .ok (.lstore i, 2)) (hp : pc + 2 = pc') (hl : storeLocals Ls i (.long v) = some Ls') (H : Go p e below s k n Q T (mkF m pc' Ls' st)) : Go p e below s k n Q T (mkF m pc Ls (.long v :: st)) := by
  subst hp
  exact H.via fun t q => XS.lstore X.here hx rfl hd rfl hl q
theorem g_aloadN (pc' : Nat) (X : Stand p l e R s m args below meth c T locs cells slots) (hx : p.tables.exec = Jvm.exec) {i : Fin 4} {v : Value} (hd : decode c.code pc = .ok (.aload_n i, 1)) (hp : pc + 1 = pc') (hl : Ls[i.val]? = some (.val v)) (hv : v.isRef = true) (H : Go p e below s k n Q T (mkF m pc' Ls (v :: st))) : Go p e below s k n Q T (mkF m pc Ls st) := by
  subst hp
  exact H.via fun t q => XS.aloadN X.here hx rfl hd hl hv q
theorem g_aload (pc' : Nat) (X : Stand p l e R s m args below meth c T locs cells slots) (hx : p.tables.exec = Jvm.exec) {i : Nat} {v : Value} (hd : decode c.code pc = .ok (.aload i, 2)) (hp : pc + 2 = pc') (hl : Ls[i]? = some (.val v)) (hv : v.isRef = true) (H : Go p e below s k n Q T (mkF m pc' Ls (v :: st))) : Go p e below s k n Q T (mkF m pc Ls st) := by
  subst hp
  exact H.via fun t q => XS.aload X.here hx rfl hd hl hv q
theorem g_astoreN (pc' : Nat) (X : Stand p l e R s m args below meth c T locs cells slots) (hx : p.tables.exec = Jvm.exec) {i : Fin 4} {v : Value} {Ls' : Array Slot} (hd : decode c.code pc = .ok (.astore_n i, 1)) (hp : pc + 1 = pc') (hv : v.isRef = true) (hl : storeLocals Ls i.val v = some Ls') (H : Go p e below s k n Q T (mkF m pc' Ls' st)) : Go p e below s k n Q T (mkF m pc Ls (v :: st)) := by
  subst hp
  exact H.via fun t q => XS.astoreN X.here hx rfl hd rfl hv hl q
theorem g_astore (pc' : Nat) (X : Stand p l e R s m args below meth c T locs cells slots) (hx : p.tables.exec = Jvm.exec) {i : Nat} {v : Value} {Ls' : Array Slot} (hd : decode c.code pc = .ok (.astore i, 2)) (hp : pc + 2 = pc') (hv : v.isRef = true) (hl : storeLocals Ls i v = some Ls') (H : Go p e below s k n Q T (mkF m pc' Ls' st)) : Go p e below s k n Q T (mkF m pc Ls (v :: st)) := by
  subst hp
  exact H.via fun t q => XS.astore X.here hx rfl hd rfl hv hl q
theorem g_iconst (pc' : Nat) (X : Stand p l e R s m args below meth c T locs cells slots) (hx : p.tables.exec = Jvm.exec) {i : Int} {z : Int32} (hd : decode c.code pc = .ok (.iconst i, 1)) (hp : pc + 1 = pc') (hz : Int32.ofInt i = z) (H : Go p e below s k n Q T (mkF m pc' Ls (.int z :: st))) : Go p e below s k n Q T (mkF m pc Ls st) := by
  subst hp hz
  exact H.via fun t q => XS.iconst X.here hx rfl hd q
theorem g_bipush (pc' : Nat) (X : Stand p l e R s m args below meth c T locs cells slots) (hx : p.tables.exec = Jvm.exec) {i : Int} {z : Int32} (hd : decode c.code pc = .ok (.bipush i, 2)) (hp : pc + 2 = pc') (hz : (Int8.ofInt i).toInt32 = z) (H : Go p e below s k n Q T (mkF m pc' Ls (.int z :: st))) : Go p e below s k n Q T (mkF m pc Ls st) := by
  subst hp hz
  exact H.via fun t q => XS.bipush X.here hx rfl hd q
theorem g_sipush (pc' : Nat) (X : Stand p l e R s m args below meth c T locs cells slots) (hx : p.tables.exec = Jvm.exec) {i : Int} {z : Int32} (hd : decode c.code pc = .ok (.sipush i, 3)) (hp : pc + 3 = pc') (hz : (Int16.ofInt i).toInt32 = z) (H : Go p e below s k n Q T (mkF m pc' Ls (.int z :: st))) : Go p e below s k n Q T (mkF m pc Ls st) := by
  subst hp hz
  exact H.via fun t q => XS.sipush X.here hx rfl hd q
theorem g_lconst (pc' : Nat) (X : Stand p l e R s m args below meth c T locs cells slots) (hx : p.tables.exec = Jvm.exec) {i : Fin 2} {z : Int64} (hd : decode c.code pc = .ok (.lconst i, 1)) (hp : pc + 1 = pc') (hz : Int64.ofNat i.val = z) (H : Go p e below s k n Q T (mkF m pc' Ls (.long z :: st))) : Go p e below s k n Q T (mkF m pc Ls st) := by
  subst hp hz
  exact H.via fun t q => XS.lconst X.here hx rfl hd q
theorem g_aconst_null (pc' : Nat) (X : Stand p l e R s m args below meth c T locs cells slots) (hx : p.tables.exec = Jvm.exec) (hd : decode c.code pc = .ok (.aconst_null, 1)) (hp : pc + 1 = pc')  (H : Go p e below s k n Q T (mkF m pc' Ls (.null :: st))) : Go p e below s k n Q T (mkF m pc Ls st) := by
  subst hp
  exact H.via fun t q => XS.aconstNull X.here hx rfl hd q
theorem g_iadd (pc' : Nat) (X : Stand p l e R s m args below meth c T locs cells slots) (hx : p.tables.exec = Jvm.exec) {x y z : Int32} (hd : decode c.code pc = .ok (.iadd, 1)) (hp : pc + 1 = pc') (hz : x + y = z) (H : Go p e below s k n Q T (mkF m pc' Ls (.int z :: st))) : Go p e below s k n Q T (mkF m pc Ls (.int y :: .int x :: st)) := by
  subst hp hz
  exact H.via fun t q => XS.iadd X.here hx rfl hd rfl q
theorem g_isub (pc' : Nat) (X : Stand p l e R s m args below meth c T locs cells slots) (hx : p.tables.exec = Jvm.exec) {x y z : Int32} (hd : decode c.code pc = .ok (.isub, 1)) (hp : pc + 1 = pc') (hz : x - y = z) (H : Go p e below s k n Q T (mkF m pc' Ls (.int z :: st))) : Go p e below s k n Q T (mkF m pc Ls (.int y :: .int x :: st)) := by
  subst hp hz
  exact H.via fun t q => XS.isub X.here hx rfl hd rfl q
theorem g_imul (pc' : Nat) (X : Stand p l e R s m args below meth c T locs cells slots) (hx : p.tables.exec = Jvm.exec) {x y z : Int32} (hd : decode c.code pc = .ok (.imul, 1)) (hp : pc + 1 = pc') (hz : x * y = z) (H : Go p e below s k n Q T (mkF m pc' Ls (.int z :: st))) : Go p e below s k n Q T (mkF m pc Ls (.int y :: .int x :: st)) := by
  subst hp hz
  exact H.via fun t q => XS.imul X.here hx rfl hd rfl q
theorem g_iand (pc' : Nat) (X : Stand p l e R s m args below meth c T locs cells slots) (hx : p.tables.exec = Jvm.exec) {x y z : Int32} (hd : decode c.code pc = .ok (.iand, 1)) (hp : pc + 1 = pc') (hz : x &&& y = z) (H : Go p e below s k n Q T (mkF m pc' Ls (.int z :: st))) : Go p e below s k n Q T (mkF m pc Ls (.int y :: .int x :: st)) := by
  subst hp hz
  exact H.via fun t q => XS.iand X.here hx rfl hd rfl q
theorem g_ior (pc' : Nat) (X : Stand p l e R s m args below meth c T locs cells slots) (hx : p.tables.exec = Jvm.exec) {x y z : Int32} (hd : decode c.code pc = .ok (.ior, 1)) (hp : pc + 1 = pc') (hz : x ||| y = z) (H : Go p e below s k n Q T (mkF m pc' Ls (.int z :: st))) : Go p e below s k n Q T (mkF m pc Ls (.int y :: .int x :: st)) := by
  subst hp hz
  exact H.via fun t q => XS.ior X.here hx rfl hd rfl q
theorem g_ixor (pc' : Nat) (X : Stand p l e R s m args below meth c T locs cells slots) (hx : p.tables.exec = Jvm.exec) {x y z : Int32} (hd : decode c.code pc = .ok (.ixor, 1)) (hp : pc + 1 = pc') (hz : x ^^^ y = z) (H : Go p e below s k n Q T (mkF m pc' Ls (.int z :: st))) : Go p e below s k n Q T (mkF m pc Ls (.int y :: .int x :: st)) := by
  subst hp hz
  exact H.via fun t q => XS.ixor X.here hx rfl hd rfl q
theorem g_ladd (pc' : Nat) (X : Stand p l e R s m args below meth c T locs cells slots) (hx : p.tables.exec = Jvm.exec) {x y z : Int64} (hd : decode c.code pc = .ok (.ladd, 1)) (hp : pc + 1 = pc') (hz : x + y = z) (H : Go p e below s k n Q T (mkF m pc' Ls (.long z :: st))) : Go p e below s k n Q T (mkF m pc Ls (.long y :: .long x :: st)) := by
  subst hp hz
  exact H.via fun t q => XS.ladd X.here hx rfl hd rfl q
theorem g_lsub (pc' : Nat) (X : Stand p l e R s m args below meth c T locs cells slots) (hx : p.tables.exec = Jvm.exec) {x y z : Int64} (hd : decode c.code pc = .ok (.lsub, 1)) (hp : pc + 1 = pc') (hz : x - y = z) (H : Go p e below s k n Q T (mkF m pc' Ls (.long z :: st))) : Go p e below s k n Q T (mkF m pc Ls (.long y :: .long x :: st)) := by
  subst hp hz
  exact H.via fun t q => XS.lsub X.here hx rfl hd rfl q
theorem g_lmul (pc' : Nat) (X : Stand p l e R s m args below meth c T locs cells slots) (hx : p.tables.exec = Jvm.exec) {x y z : Int64} (hd : decode c.code pc = .ok (.lmul, 1)) (hp : pc + 1 = pc') (hz : x * y = z) (H : Go p e below s k n Q T (mkF m pc' Ls (.long z :: st))) : Go p e below s k n Q T (mkF m pc Ls (.long y :: .long x :: st)) := by
  subst hp hz
  exact H.via fun t q => XS.lmul X.here hx rfl hd rfl q
theorem g_land (pc' : Nat) (X : Stand p l e R s m args below meth c T locs cells slots) (hx : p.tables.exec = Jvm.exec) {x y z : Int64} (hd : decode c.code pc = .ok (.land, 1)) (hp : pc + 1 = pc') (hz : x &&& y = z) (H : Go p e below s k n Q T (mkF m pc' Ls (.long z :: st))) : Go p e below s k n Q T (mkF m pc Ls (.long y :: .long x :: st)) := by
  subst hp hz
  exact H.via fun t q => XS.land X.here hx rfl hd rfl q
theorem g_lor (pc' : Nat) (X : Stand p l e R s m args below meth c T locs cells slots) (hx : p.tables.exec = Jvm.exec) {x y z : Int64} (hd : decode c.code pc = .ok (.lor, 1)) (hp : pc + 1 = pc') (hz : x ||| y = z) (H : Go p e below s k n Q T (mkF m pc' Ls (.long z :: st))) : Go p e below s k n Q T (mkF m pc Ls (.long y :: .long x :: st)) := by
  subst hp hz
  exact H.via fun t q => XS.lor X.here hx rfl hd rfl q
theorem g_lxor (pc' : Nat) (X : Stand p l e R s m args below meth c T locs cells slots) (hx : p.tables.exec = Jvm.exec) {x y z : Int64} (hd : decode c.code pc = .ok (.lxor, 1)) (hp : pc + 1 = pc') (hz : x ^^^ y = z) (H : Go p e below s k n Q T (mkF m pc' Ls (.long z :: st))) : Go p e below s k n Q T (mkF m pc Ls (.long y :: .long x :: st)) := by
  subst hp hz
  exact H.via fun t q => XS.lxor X.here hx rfl hd rfl q
theorem g_ishl (pc' : Nat) (X : Stand p l e R s m args below meth c T locs cells slots) (hx : p.tables.exec = Jvm.exec) {x y z : Int32} (hd : decode c.code pc = .ok (.ishl, 1)) (hp : pc + 1 = pc') (hz : x <<< (y &&& 31) = z) (H : Go p e below s k n Q T (mkF m pc' Ls (.int z :: st))) : Go p e below s k n Q T (mkF m pc Ls (.int y :: .int x :: st)) := by
  subst hp hz
  exact H.via fun t q => XS.ishl X.here hx rfl hd rfl q
theorem g_ishr (pc' : Nat) (X : Stand p l e R s m args below meth c T locs cells slots) (hx : p.tables.exec = Jvm.exec) {x y z : Int32} (hd : decode c.code pc = .ok (.ishr, 1)) (hp : pc + 1 = pc') (hz : x >>> (y &&& 31) = z) (H : Go p e below s k n Q T (mkF m pc' Ls (.int z :: st))) : Go p e below s k n Q T (mkF m pc Ls (.int y :: .int x :: st)) := by
  subst hp hz
  exact H.via fun t q => XS.ishr X.here hx rfl hd rfl q
theorem g_iushr (pc' : Nat) (X : Stand p l e R s m args below meth c T locs cells slots) (hx : p.tables.exec = Jvm.exec) {x y z : Int32} (hd : decode c.code pc = .ok (.iushr, 1)) (hp : pc + 1 = pc') (hz : (x.toUInt32 >>> (y &&& 31).toUInt32).toInt32 = z) (H : Go p e below s k n Q T (mkF m pc' Ls (.int z :: st))) : Go p e below s k n Q T (mkF m pc Ls (.int y :: .int x :: st)) := by
  subst hp hz
  exact H.via fun t q => XS.iushr X.here hx rfl hd rfl q
theorem g_lshl (pc' : Nat) (X : Stand p l e R s m args below meth c T locs cells slots) (hx : p.tables.exec = Jvm.exec) {x z : Int64} {y : Int32} (hd : decode c.code pc = .ok (.lshl, 1)) (hp : pc + 1 = pc') (hz : x <<< (y &&& 0x3f).toInt64 = z) (H : Go p e below s k n Q T (mkF m pc' Ls (.long z :: st))) : Go p e below s k n Q T (mkF m pc Ls (.int y :: .long x :: st)) := by
  subst hp hz
  exact H.via fun t q => XS.lshl X.here hx rfl hd rfl q
theorem g_lshr (pc' : Nat) (X : Stand p l e R s m args below meth c T locs cells slots) (hx : p.tables.exec = Jvm.exec) {x z : Int64} {y : Int32} (hd : decode c.code pc = .ok (.lshr, 1)) (hp : pc + 1 = pc') (hz : x >>> (y &&& 0x3f).toInt64 = z) (H : Go p e below s k n Q T (mkF m pc' Ls (.long z :: st))) : Go p e below s k n Q T (mkF m pc Ls (.int y :: .long x :: st)) := by
  subst hp hz
  exact H.via fun t q => XS.lshr X.here hx rfl hd rfl q
theorem g_lushr (pc' : Nat) (X : Stand p l e R s m args below meth c T locs cells slots) (hx : p.tables.exec = Jvm.exec) {x z : Int64} {y : Int32} (hd : decode c.code pc = .ok (.lushr, 1)) (hp : pc + 1 = pc') (hz : (x.toUInt64 >>> (y &&& 0x3f).toInt64.toUInt64).toInt64 = z) (H : Go p e below s k n Q T (mkF m pc' Ls (.long z :: st))) : Go p e below s k n Q T (mkF m pc Ls (.int y :: .long x :: st)) := by
  subst hp hz
  exact H.via fun t q => XS.lushr X.here hx rfl hd rfl q
theorem g_idiv (pc' : Nat) (X : Stand p l e R s m args below meth c T locs cells slots) (hx : p.tables.exec = Jvm.exec) {x y z : Int32} (hd : decode c.code pc = .ok (.idiv, 1)) (hp : pc + 1 = pc') (hy : y ≠ 0) (hz : x / y = z) (H : Go p e below s k n Q T (mkF m pc' Ls (.int z :: st))) : Go p e below s k n Q T (mkF m pc Ls (.int y :: .int x :: st)) := by
  subst hp hz
  exact H.via fun t q => XS.idiv X.here hx rfl hd rfl hy q
theorem g_irem (pc' : Nat) (X : Stand p l e R s m args below meth c T locs cells slots) (hx : p.tables.exec = Jvm.exec) {x y z : Int32} (hd : decode c.code pc = .ok (.irem, 1)) (hp : pc + 1 = pc') (hy : y ≠ 0) (hz : x % y = z) (H : Go p e below s k n Q T (mkF m pc' Ls (.int z :: st))) : Go p e below s k n Q T (mkF m pc Ls (.int y :: .int x :: st)) := by
  subst hp hz
  exact H.via fun t q => iremM X hx rfl hd rfl hy q
theorem g_ldiv (pc' : Nat) (X : Stand p l e R s m args below meth c T locs cells slots) (hx : p.tables.exec = Jvm.exec) {x y z : Int64} (hd : decode c.code pc = .ok (.ldiv, 1)) (hp : pc + 1 = pc') (hy : y ≠ 0) (hz : x / y = z) (H : Go p e below s k n Q T (mkF m pc' Ls (.long z :: st))) : Go p e below s k n Q T (mkF m pc Ls (.long y :: .long x :: st)) := by
  subst hp hz
  exact H.via fun t q => XS.ldiv X.here hx rfl hd rfl hy q
theorem g_lrem (pc' : Nat) (X : Stand p l e R s m args below meth c T locs cells slots) (hx : p.tables.exec = Jvm.exec) {x y z : Int64} (hd : decode c.code pc = .ok (.lrem, 1)) (hp : pc + 1 = pc') (hy : y ≠ 0) (hz : x % y = z) (H : Go p e below s k n Q T (mkF m pc' Ls (.long z :: st))) : Go p e below s k n Q T (mkF m pc Ls (.long y :: .long x :: st)) := by
  subst hp hz
  exact H.via fun t q => XS.lrem X.here hx rfl hd rfl hy (by rw [lrem_mod]; exact q)
theorem g_ineg (pc' : Nat) (X : Stand p l e R s m args below meth c T locs cells slots) (hx : p.tables.exec = Jvm.exec) {x : Int32} {z : Int32} (hd : decode c.code pc = .ok (.ineg, 1)) (hp : pc + 1 = pc') (hz : -x = z) (H : Go p e below s k n Q T (mkF m pc' Ls (.int z :: st))) : Go p e below s k n Q T (mkF m pc Ls (.int x :: st)) := by
  subst hp hz
  exact H.via fun t q => XS.ineg X.here hx rfl hd rfl q
theorem g_lneg (pc' : Nat) (X : Stand p l e R s m args below meth c T locs cells slots) (hx : p.tables.exec = Jvm.exec) {x : Int64} {z : Int64} (hd : decode c.code pc = .ok (.lneg, 1)) (hp : pc + 1 = pc') (hz : -x = z) (H : Go p e below s k n Q T (mkF m pc' Ls (.long z :: st))) : Go p e below s k n Q T (mkF m pc Ls (.long x :: st)) := by
  subst hp hz
  exact H.via fun t q => XS.lneg X.here hx rfl hd rfl q
theorem g_i2l (pc' : Nat) (X : Stand p l e R s m args below meth c T locs cells slots) (hx : p.tables.exec = Jvm.exec) {x : Int32} {z : Int64} (hd : decode c.code pc = .ok (.i2l, 1)) (hp : pc + 1 = pc') (hz : x.toInt64 = z) (H : Go p e below s k n Q T (mkF m pc' Ls (.long z :: st))) : Go p e below s k n Q T (mkF m pc Ls (.int x :: st)) := by
  subst hp hz
  exact H.via fun t q => XS.i2l X.here hx rfl hd rfl q
theorem g_l2i (pc' : Nat) (X : Stand p l e R s m args below meth c T locs cells slots) (hx : p.tables.exec = Jvm.exec) {x : Int64} {z : Int32} (hd : decode c.code pc = .ok (.l2i, 1)) (hp : pc + 1 = pc') (hz : x.toInt32 = z) (H : Go p e below s k n Q T (mkF m pc' Ls (.int z :: st))) : Go p e below s k n Q T (mkF m pc Ls (.long x :: st)) := by
  subst hp hz
  exact H.via fun t q => XS.l2i X.here hx rfl hd rfl q
theorem g_i2b (pc' : Nat) (X : Stand p l e R s m args below meth c T locs cells slots) (hx : p.tables.exec = Jvm.exec) {x : Int32} {z : Int32} (hd : decode c.code pc = .ok (.i2b, 1)) (hp : pc + 1 = pc') (hz : x.toInt8.toInt32 = z) (H : Go p e below s k n Q T (mkF m pc' Ls (.int z :: st))) : Go p e below s k n Q T (mkF m pc Ls (.int x :: st)) := by
  subst hp hz
  exact H.via fun t q => XS.i2b X.here hx rfl hd rfl q
theorem g_i2s (pc' : Nat) (X : Stand p l e R s m args below meth c T locs cells slots) (hx : p.tables.exec = Jvm.exec) {x : Int32} {z : Int32} (hd : decode c.code pc = .ok (.i2s, 1)) (hp : pc + 1 = pc') (hz : x.toInt16.toInt32 = z) (H : Go p e below s k n Q T (mkF m pc' Ls (.int z :: st))) : Go p e below s k n Q T (mkF m pc Ls (.int x :: st)) := by
  subst hp hz
  exact H.via fun t q => XS.i2s X.here hx rfl hd rfl q
theorem g_i2c (pc' : Nat) (X : Stand p l e R s m args below meth c T locs cells slots) (hx : p.tables.exec = Jvm.exec) {x : Int32} {z : Int32} (hd : decode c.code pc = .ok (.i2c, 1)) (hp : pc + 1 = pc') (hz : x.toUInt32.toUInt16.toUInt32.toInt32 = z) (H : Go p e below s k n Q T (mkF m pc' Ls (.int z :: st))) : Go p e below s k n Q T (mkF m pc Ls (.int x :: st)) := by
  subst hp hz
  exact H.via fun t q => XS.i2c X.here hx rfl hd rfl q
theorem g_dup (pc' : Nat) (X : Stand p l e R s m args below meth c T locs cells slots) (hx : p.tables.exec = Jvm.exec) {v : Value} (hd : decode c.code pc = .ok (.dup, 1)) (hp : pc + 1 = pc') (hv : v.category = 1) (H : Go p e below s k n Q T (mkF m pc' Ls (v :: v :: st))) : Go p e below s k n Q T (mkF m pc Ls (v :: st)) := by
  subst hp
  exact H.via fun t q => XS.dup X.here hx rfl hd rfl hv q
theorem g_pop (pc' : Nat) (X : Stand p l e R s m args below meth c T locs cells slots) (hx : p.tables.exec = Jvm.exec) {v : Value} (hd : decode c.code pc = .ok (.pop, 1)) (hp : pc + 1 = pc') (hv : v.category = 1) (H : Go p e below s k n Q T (mkF m pc' Ls st)) : Go p e below s k n Q T (mkF m pc Ls (v :: st)) := by
  subst hp
  exact H.via fun t q => XS.pop X.here hx rfl hd rfl hv q
theorem g_dup_x1 (pc' : Nat) (X : Stand p l e R s m args below meth c T locs cells slots) (hx : p.tables.exec = Jvm.exec) {v w : Value} (hd : decode c.code pc = .ok (.dup_x1, 1)) (hp : pc + 1 = pc') (hv : v.category = 1) (hw : w.category = 1) (H : Go p e below s k n Q T (mkF m pc' Ls (v :: w :: v :: st))) : Go p e below s k n Q T (mkF m pc Ls (v :: w :: st)) := by
  subst hp
  exact H.via fun t q => XS.dupX1 X.here hx rfl hd rfl hv hw q
theorem g_dup2 (pc' : Nat) (X : Stand p l e R s m args below meth c T locs cells slots) (hx : p.tables.exec = Jvm.exec) {v w : Value} (hd : decode c.code pc = .ok (.dup2, 1)) (hp : pc + 1 = pc') (hv : v.category = 1) (hw : w.category = 1) (H : Go p e below s k n Q T (mkF m pc' Ls (v :: w :: v :: w :: st))) : Go p e below s k n Q T (mkF m pc Ls (v :: w :: st)) := by
  subst hp
  exact H.via fun t q => XT.dup2 X.here hx rfl hd rfl hv hw q
theorem g_iinc (pc' : Nat) (X : Stand p l e R s m args below meth c T locs cells slots) (hx : p.tables.exec = Jvm.exec) {i : Nat} {cst : Int} {x z : Int32} {Ls' : Array Slot} (hd : decode c.code pc = .ok (.iinc i cst, 3)) (hp : pc + 3 = pc') (hl : Ls[i]? = some (.val (.int x))) (hz : x + Int32.ofInt cst = z) (hl' : storeLocals Ls i (.int z) = some Ls') (H : Go p e below s k n Q T (mkF m pc' Ls' st)) : Go p e below s k n Q T (mkF m pc Ls st) := by
  subst hp hz
  exact H.via fun t q => XS.iinc X.here hx rfl hd hl hl' q
theorem g_goto (pc' : Nat) (X : Stand p l e R s m args below meth c T locs cells slots) (hx : p.tables.exec = Jvm.exec) {o : Int} (hd : decode c.code pc = .ok (.goto o, 3)) (ho : 0 ≤ (pc : Int) + o) (hp : ((pc : Int) + o).toNat = pc') (H : Go p e below s k n Q T (mkF m pc' Ls st)) : Go p e below s k n Q T (mkF m pc Ls st) :=
  H.via fun t q => XS.goto X.here hx rfl rfl hd ho hp q
theorem g_ifYes (pc' : Nat) (X : Stand p l e R s m args below meth c T locs cells slots) (hx : p.tables.exec = Jvm.exec) {cd : ClassFile.Cond} {x : Int32} {o : Int} (hd : decode c.code pc = .ok (.ifCond cd o, 3)) (hc : ifCond.holds cd x = true) (ho : 0 ≤ (pc : Int) + o) (hp : ((pc : Int) + o).toNat = pc') (H : Go p e below s k n Q T (mkF m pc' Ls st)) : Go p e below s k n Q T (mkF m pc Ls (.int x :: st)) :=
  H.via fun t q => XS.ifYes X.here hx rfl rfl hd rfl hc ho hp q
theorem g_ifNo (pc' : Nat) (X : Stand p l e R s m args below meth c T locs cells slots) (hx : p.tables.exec = Jvm.exec) {cd : ClassFile.Cond} {x : Int32} {o : Int} (hd : decode c.code pc = .ok (.ifCond cd o, 3)) (hc : ifCond.holds cd x = false) (hp : pc + 3 = pc') (H : Go p e below s k n Q T (mkF m pc' Ls st)) : Go p e below s k n Q T (mkF m pc Ls (.int x :: st)) := by
  subst hp
  exact H.via fun t q => XS.ifNo X.here hx rfl hd rfl hc q
theorem g_icmpYes (pc' : Nat) (X : Stand p l e R s m args below meth c T locs cells slots) (hx : p.tables.exec = Jvm.exec) {cd : ClassFile.Cond} {x y : Int32} {o : Int} (hd : decode c.code pc = .ok (.if_icmp cd o, 3)) (hc : if_icmp.holds cd x y = true) (ho : 0 ≤ (pc : Int) + o) (hp : ((pc : Int) + o).toNat = pc') (H : Go p e below s k n Q T (mkF m pc' Ls st)) : Go p e below s k n Q T (mkF m pc Ls (.int y :: .int x :: st)) :=
  H.via fun t q => XS.icmpYes X.here hx rfl rfl hd rfl hc ho hp q
theorem g_icmpNo (pc' : Nat) (X : Stand p l e R s m args below meth c T locs cells slots) (hx : p.tables.exec = Jvm.exec) {cd : ClassFile.Cond} {x y : Int32} {o : Int} (hd : decode c.code pc = .ok (.if_icmp cd o, 3)) (hc : if_icmp.holds cd x y = false) (hp : pc + 3 = pc') (H : Go p e below s k n Q T (mkF m pc' Ls st)) : Go p e below s k n Q T (mkF m pc Ls (.int y :: .int x :: st)) := by
  subst hp
  exact H.via fun t q => XS.icmpNo X.here hx rfl hd rfl hc q
theorem g_lcmpYes (pc' : Nat) (X : Stand p l e R s m args below meth c T locs cells slots) (hx : p.tables.exec = Jvm.exec) {cd : ClassFile.Cond} {x y : Int64} {o : Int} {pc1 : Nat} (hd : decode c.code pc = .ok (.lcmp, 1)) (hp1 : pc + 1 = pc1) (hd' : decode c.code pc1 = .ok (.ifCond cd o, 3)) (hc : ifCond.holds cd (lcmpW x y) = true) (ho : 0 ≤ (pc1 : Int) + o) (hp : ((pc1 : Int) + o).toNat = pc') (H : Go p e below s k n Q T (mkF m pc' Ls st)) : Go p e below s k n Q T (mkF m pc Ls (.long y :: .long x :: st)) := by
  subst hp1
  exact H.via fun t q => XS.lcmp X.here hx rfl hd rfl (XS.ifYes X.here hx rfl rfl hd' rfl hc ho hp q)
theorem g_lcmpNo (pc' : Nat) (X : Stand p l e R s m args below meth c T locs cells slots) (hx : p.tables.exec = Jvm.exec) {cd : ClassFile.Cond} {x y : Int64} {o : Int} {pc1 : Nat} (hd : decode c.code pc = .ok (.lcmp, 1)) (hp1 : pc + 1 = pc1) (hd' : decode c.code pc1 = .ok (.ifCond cd o, 3)) (hc : ifCond.holds cd (lcmpW x y) = false) (hp : pc1 + 3 = pc') (H : Go p e below s k n Q T (mkF m pc' Ls st)) : Go p e below s k n Q T (mkF m pc Ls (.long y :: .long x :: st)) := by
  subst hp1; subst hp
  exact H.via fun t q => XS.lcmp X.here hx rfl hd rfl (XS.ifNo X.here hx rfl hd' rfl hc q)
theorem g_ifnullYes (pc' : Nat) (X : Stand p l e R s m args below meth c T locs cells slots) (hx : p.tables.exec = Jvm.exec) {b : Addr} {o : Int} (hd : decode c.code pc = .ok (.ifnull o, 3)) (ho : 0 ≤ (pc : Int) + o) (hp : ((pc : Int) + o).toNat = pc') (H : Go p e below s k n Q T (mkF m pc' Ls st)) : Go p e below s k n Q T (mkF m pc Ls (.null :: st)) :=
  H.via fun t q => XS.ifnullYes X.here hx rfl rfl hd rfl ho hp q
theorem g_ifnullNo (pc' : Nat) (X : Stand p l e R s m args below meth c T locs cells slots) (hx : p.tables.exec = Jvm.exec) {b : Addr} {o : Int} (hd : decode c.code pc = .ok (.ifnull o, 3)) (hp : pc + 3 = pc') (H : Go p e below s k n Q T (mkF m pc' Ls st)) : Go p e below s k n Q T (mkF m pc Ls (.ref b :: st)) := by
  subst hp
  exact H.via fun t q => XS.ifnullNo X.here hx rfl hd rfl q
theorem g_ifnonnullYes (pc' : Nat) (X : Stand p l e R s m args below meth c T locs cells slots) (hx : p.tables.exec = Jvm.exec) {b : Addr} {o : Int} (hd : decode c.code pc = .ok (.ifnonnull o, 3)) (ho : 0 ≤ (pc : Int) + o) (hp : ((pc : Int) + o).toNat = pc') (H : Go p e below s k n Q T (mkF m pc' Ls st)) : Go p e below s k n Q T (mkF m pc Ls (.ref b :: st)) :=
  H.via fun t q => XS.ifnonnullYes X.here hx rfl rfl hd rfl ho hp q
theorem g_ifnonnullNo (pc' : Nat) (X : Stand p l e R s m args below meth c T locs cells slots) (hx : p.tables.exec = Jvm.exec) {b : Addr} {o : Int} (hd : decode c.code pc = .ok (.ifnonnull o, 3)) (hp : pc + 3 = pc') (H : Go p e below s k n Q T (mkF m pc' Ls st)) : Go p e below s k n Q T (mkF m pc Ls (.null :: st)) := by
  subst hp
  exact H.via fun t q => XS.ifnonnullNo X.here hx rfl hd rfl q
theorem g_ldc (pc' : Nat) (X : Stand p l e R s m args below meth c T locs cells slots) (hx : p.tables.exec = Jvm.exec) (hZ : Z.Warmed39 s.vm) {own : String} {index : Nat} {z : Int32} (hown : s.vm.findClass own = some m.cls) (w : (Cond.constant own index z).before a0 Z = true) (hd : decode c.code pc = .ok (.ldc index, 2)) (hp : pc + 2 = pc') (H : Go p e below s k n Q T (mkF m pc' Ls (.int z :: st))) : Go p e below s k n Q T (mkF m pc Ls st) := by
  subst hp
  exact H.via fun t q => X.ldcInt hx hown (mvT hZ w) (g := mkF m pc Ls st) rfl hd t q
theorem g_ldc2 (pc' : Nat) (X : Stand p l e R s m args below meth c T locs cells slots) (hx : p.tables.exec = Jvm.exec) (hZ : Z.Warmed39 s.vm) {own : String} {index : Nat} {z : Int64} (hown : s.vm.findClass own = some m.cls) (w : (Cond.constantLong own index z).before a0 Z = true) (hd : decode c.code pc = .ok (.ldc2_w index, 3)) (hp : pc + 3 = pc') (H : Go p e below s k n Q T (mkF m pc' Ls (.long z :: st))) : Go p e below s k n Q T (mkF m pc Ls st) := by
  subst hp
  exact H.via fun t q => X.ldc2Long hx hown (mvT hZ w) (g := mkF m pc Ls st) rfl hd t q
theorem g_retI (X : Stand p l e R s m args below meth c T locs cells slots) (hx : p.tables.exec = Jvm.exec) (hret : meth.sig.returnType = some .int) (hlk : meth.locks = false) {z : Int32} (hd : decode c.code pc = .ok (.ireturn, 1)) (hk : cells ≤ k) (hn : slots ≤ n) (hQ : Q (some (.int z)) T.heap locs) : Go p e below s k n Q T (mkF m pc Ls (.int z :: st)) := by
  obtain ⟨fs, hr, hrun, hended, hW, hsame⟩ := X.leave (v := some (.int z)) (fun q => by rw [hret] at q; cases q) hlk
  exact ⟨_, _, retOut X hx hret rfl (Or.inl ⟨rfl, Or.inl rfl, z, rfl⟩) hd hr, hrun, hended, _, _, rfl, hQ, ⟨_, rfl⟩, hW, hsame.mono hk hn⟩
theorem g_retJ (X : Stand p l e R s m args below meth c T locs cells slots) (hx : p.tables.exec = Jvm.exec) (hret : meth.sig.returnType = some .long) (hlk : meth.locks = false) {z : Int64} (hd : decode c.code pc = .ok (.lreturn, 1)) (hk : cells ≤ k) (hn : slots ≤ n) (hQ : Q (some (.long z)) T.heap locs) : Go p e below s k n Q T (mkF m pc Ls (.long z :: st)) := by
  obtain ⟨fs, hr, hrun, hended, hW, hsame⟩ := X.leave (v := some (.long z)) (fun q => by rw [hret] at q; cases q) hlk
  exact ⟨_, _, retOut X hx hret rfl (Or.inr (Or.inl ⟨rfl, rfl, z, rfl⟩)) hd hr, hrun, hended, _, _, rfl, hQ, ⟨_, rfl⟩, hW, hsame.mono hk hn⟩
theorem g_retA {ty : FieldType} (X : Stand p l e R s m args below meth c T locs cells slots) (hx : p.tables.exec = Jvm.exec) (hret : meth.sig.returnType = some ty) (hlk : meth.locks = false) {v : Value} (hty : ty.isReference = true) (hv : v.isRef = true) (hnv : narrow ty v = v) (hd : decode c.code pc = .ok (.areturn, 1)) (hk : cells ≤ k) (hn : slots ≤ n) (hQ : Q (some v) T.heap locs) : Go p e below s k n Q T (mkF m pc Ls (v :: st)) := by
  obtain ⟨fs, hr, hrun, hended, hW, hsame⟩ := X.leave (v := some v) (fun q => by rw [hret] at q; cases q) hlk
  exact ⟨_, _, retOut X hx hret hnv (Or.inr (Or.inr (Or.inr (Or.inr ⟨rfl, hty, hv⟩)))) hd hr, hrun, hended, _, _, rfl, hQ, ⟨_, rfl⟩, hW, hsame.mono hk hn⟩
theorem g_ret0 (X : Stand p l e R s m args below meth c T locs cells slots) (hx : p.tables.exec = Jvm.exec) (hret : meth.sig.returnType = none) (hlk : meth.locks = false) (hd : decode c.code pc = .ok (.return_, 1)) (hk : cells ≤ k) (hn : slots ≤ n) (hQ : Q (none) T.heap locs) : Go p e below s k n Q T (mkF m pc Ls []) := by
  obtain ⟨fs, hr, hrun, hended, hW, hsame⟩ := X.leave (v := none) (fun _ => rfl) hlk
  exact ⟨_, _, X.returnOut hx hret hd hr, hrun, hended, _, _, rfl, hQ, ⟨_, rfl⟩, hW, hsame.mono hk hn⟩
theorem g_retN (X : Stand p l e R s m args below meth c T locs cells slots) (hx : p.tables.exec = Jvm.exec) {t : FieldType} (hret : meth.sig.returnType = some t) (hlk : meth.locks = false) {z z' : Int32} (ht : t = .boolean ∨ t = .byte ∨ t = .char ∨ t = .short) (hz : nar t z = z') (hd : decode c.code pc = .ok (.ireturn, 1)) (hk : cells ≤ k) (hn : slots ≤ n) (hQ : Q (some (.int z')) T.heap locs) : Go p e below s k n Q T (mkF m pc Ls (.int z :: st)) := by
  subst hz
  obtain ⟨fs, hr, hrun, hended, hW, hsame⟩ := X.leave (v := some (.int (nar t z))) (fun q => by rw [hret] at q; cases q) hlk
  exact ⟨_, _, retN X hx hret ht hd hr, hrun, hended, _, _, rfl, hQ, ⟨_, rfl⟩, hW, hsame.mono hk hn⟩
theorem g_getF (pc' : Nat) (X : Stand p l e R s m args below meth c T locs cells slots) (hx : p.tables.exec = Jvm.exec) (hZ : Z.Warmed39 s.vm) {own R0 O nm d : String} {index : Nat} (hown : s.vm.findClass own = some m.cls) (w : (Cond.fieldLink own index R0 nm d).before a0 Z = true) (via : Via Z R0 O nm d) (eT : T.heap = h) {a : Addr} {v : Value} (F : Fld Z h a O nm d v) (hd : decode c.code pc = .ok (.getfield index, 3)) (hp : pc + 3 = pc') (H : ∀ T', Stand p l e R s m args below meth c T' locs cells slots → T'.heap = h → Go p e below s k n Q T' (mkF m pc' Ls (v :: st))) : Go p e below s k n Q T (mkF m pc Ls (.ref a :: st)) := by
  subst hp
  obtain ⟨T', X', e', q⟩ := getF X hx hZ hown (host := "") (Or.inl w) via eT F (g := mkF m pc Ls (.ref a :: st)) rfl rfl hd
  exact (H T' X' e').via q
theorem g_putF (pc' : Nat) (X : Stand p l e R s m args below meth c T locs cells slots) (hx : p.tables.exec = Jvm.exec) (hZ : Z.Warmed39 s.vm) {own R0 O nm d C : String} {index kk : Nat} {ty : FieldType} (hown : s.vm.findClass own = some m.cls) (w : (Cond.fieldLink own index R0 nm d).before a0 Z = true) (via : Via Z R0 O nm d) (eT : T.heap = h) {a : Addr} {v old : Value} (F : Fld Z h a O nm d old) (E : Exa Z h a C) (L : (Cond.lays C O nm d).before a0 Z = true ∨ ((Cond.laysFinal C O nm d).before a0 Z = true ∧ own = O ∧ meth.name = "<init>")) (wi : (Cond.instantiable C kk).before a0 Z = true) (hty : parseFieldDescriptor d = some ty) (hn : narrow ty v = v) (hf : fits ty v = true) (hd : decode c.code pc = .ok (.putfield index, 3)) (hp : pc + 3 = pc') (H : ∀ T' h', Stand p l e R s m args below meth c T' (locs ++ [⟨a, Jvm.RoadKit.slotOf Z O nm d⟩]) cells slots → T'.heap = h' → Wr h h' a (Jvm.RoadKit.slotOf Z O nm d) v → Go p e below s k n Q T' (mkF m pc' Ls st)) : Go p e below s k n Q T (mkF m pc Ls (v :: .ref a :: st)) := by
  subst hp
  obtain ⟨T', h', X', e', W, q⟩ := putF X hx hZ hown (host := "") (Or.inl w) via eT F E L wi hty hn hf (g := mkF m pc Ls (v :: .ref a :: st)) rfl rfl hd
  exact (H T' h' X' e' W).via q
theorem g_newO (pc' : Nat) (X : Stand p l e R s m args below meth c T locs cells slots) (hx : p.tables.exec = Jvm.exec) (hZ : Z.Warmed39 s.vm) {own C : String} {index nn : Nat} (hown : s.vm.findClass own = some m.cls) (w : (Cond.classLink own index C).before a0 Z = true) (wi : (Cond.instantiable C nn).before a0 Z = true) (wz : (Cond.initialized C).before a0 Z = true) (eT : T.heap = h) (hd : decode c.code pc = .ok (.new index, 3)) (hc : cells + 1 ≤ R.cells) (hl : slots + nn ≤ R.slots) (hp : pc + 3 = pc') (H : ∀ T' h' b, Stand p l e R s m args below meth c T' locs (cells + 1) (slots + nn) → T'.heap = h' → Ext h h' → b = h.size → Exa Z h' b C → (∀ {O nm d : String} {ty : FieldType}, Laid Z a0 C O nm d → parseFieldDescriptor d = some ty → Fld Z h' b O nm d (defaultValue ty)) → Go p e below s k n Q T' (mkF m pc' Ls (.ref b :: st))) : Go p e below s k n Q T (mkF m pc Ls st) := by
  subst hp
  obtain ⟨T', h', X', e', E, A, D, -, q⟩ := newO X hx hZ hown w wi wz eT (g := mkF m pc Ls st) rfl hd hc hl
  exact (H T' h' _ X' e' E rfl A D).via q
theorem g_initO (pc' : Nat) (X : Stand p l e R s m args below meth c T locs cells slots) (hx : p.tables.exec = Jvm.exec) (hZ : Z.Warmed39 s.vm) {own : String} {idx : Nat} (hown : s.vm.findClass own = some m.cls) (w1 : (Cond.methodLink own idx Lib.objectInit).before a0 Z = true) (w2 : (Cond.instanceMethod Lib.objectInit).before a0 Z = true) (w3 : (Cond.code Lib.objectInit ⟨#[0xb1]⟩ 1 none).before a0 Z = true) (eT : T.heap = h) (hsize : Ls.size = c.maxLocals) {a : Addr} (hd : decode c.code pc = .ok (.invokespecial idx, 3)) (hf : 1 ≤ R.frames) (W : Nat) (hW : (st.map fun v => v.category).sum ≤ W) (hl : W + 12 ≤ R.locals) (hp : pc + 3 = pc') (H : ∀ T', Stand p l e R s m args below meth c T' locs cells slots → T'.heap = h → Go p e below s k n Q T' (mkF m pc' Ls st)) : Go p e below s k n Q T (mkF m pc Ls (.ref a :: st)) := by
  subst hp
  obtain ⟨T', X', e', q⟩ := initO X hx hZ hown w1 w2 w3 eT (g := mkF m pc Ls (.ref a :: st)) rfl hsize rfl hd hf (W := W) (by show 2 * 0 + _ ≤ _; omega) hl
  exact (H T' X' e').via q
theorem g_callS (pc' : Nat) (X : Stand p l e R s m args below meth c T locs cells slots) (hx : p.tables.exec = Jvm.exec) (hZ : Z.Warmed39 s.vm) {own : String} {index : Nat} {y : MethodName} {bytes : ByteArray} {maxL : Nat} {ret : Option FieldType} {rm : Room} {as' : Array Value} {Qc : Option Value → Heap → List Loc → Prop} (hown : s.vm.findClass own = some m.cls) (w1 : (Cond.methodLink own index y).before a0 Z = true) (w2 : (Cond.static y).before a0 Z = true) (w3 : (Cond.initialized y.cls).before a0 Z = true) (w4 : (Cond.code y bytes maxL ret).before a0 Z = true) (hy : y.cls ≠ "java/lang/invoke/MethodHandle" ∧ y.cls ≠ "java/lang/invoke/VarHandle") (eT : T.heap = h) (hM : MetFree l y (head1 [Cond.code y bytes maxL ret] rm) (fun a U => a = as' ∧ Z.Warmed39 U.vm ∧ U.heap = h) (fun _ _ _ _ _ => True) (fun _ U o U' => ∃ v L, o = .returned v ∧ Qc v U'.heap L ∧ FrameEnd U o U' L rm.cells rm.slots)) (hsize : Ls.size = c.maxLocals) (argsL rest : List Value) (ha : argsL.toArray = as') (hst : st = argsL.reverse ++ rest) (hlen : ∀ sig, parseMethodDescriptor y.desc = some sig → argsL.length = sig.parameters.length) (W : Nat) (hW : (rest.map fun v => v.category).sum ≤ W) (hd : decode c.code pc = .ok (.invokestatic index, 3)) (hfr : rm.frames + 1 ≤ R.frames) (hlo : W + (maxL + 11) + rm.locals ≤ R.locals) (hce : cells + rm.cells ≤ R.cells) (hsl : slots + rm.slots ≤ R.slots) (hp : pc + 3 = pc') (H : ∀ v T' L, Stand p l e R s m args below meth c T' (locs ++ L) (cells + rm.cells) (slots + rm.slots) → Qc v T'.heap L → Go p e below s k n Q T' (mkF m pc' Ls (v.toList ++ rest))) : Go p e below s k n Q T (mkF m pc Ls st) := by
  subst hp hst
  obtain ⟨v, _, ⟨T', L, k', n'⟩, -, X', ⟨Lc, hQ, l1, l2, l3⟩, q⟩ := Jvm.LawKit.callS X hx (y := y) hown (mvT hZ w1) (mvT hZ w2) (mvT hZ w3) (mvT hZ w4) hy (backOf (W := W) hM hZ w4 w3 hfr hlo) (g := mkF m pc Ls (argsL.reverse ++ rest)) rfl hsize (argsL := argsL) (rest := rest) hlen rfl (by show 2 * 0 + _ ≤ _; omega) hd (fun _ _ => ⟨ha, eT, hce, hsl⟩)
  dsimp only [Pt.U, Pt.locs, Pt.cells, Pt.slots] at X' l1 l2 l3 q hQ
  subst l1 l2 l3
  exact (H v T' Lc X' hQ).via q
theorem g_callI (pc' : Nat) (X : Stand p l e R s m args below meth c T locs cells slots) (hx : p.tables.exec = Jvm.exec) (hZ : Z.Warmed39 s.vm) {own : String} {index : Nat} {y : MethodName} {bytes : ByteArray} {maxL : Nat} {rm : Room} {as' : Array Value} {Qc : Option Value → Heap → List Loc → Prop} (hy1 : y.name = "<init>") (hown : s.vm.findClass own = some m.cls) (w1 : (Cond.methodLink own index y).before a0 Z = true) (w2 : (Cond.instanceMethod y).before a0 Z = true) (w3 : (Cond.initialized y.cls).before a0 Z = true) (w4 : (Cond.code y bytes maxL none).before a0 Z = true) (hy : y.cls ≠ "java/lang/invoke/MethodHandle" ∧ y.cls ≠ "java/lang/invoke/VarHandle") (eT : T.heap = h) (hM : MetFree l y (head1 [Cond.code y bytes maxL none] rm) (fun a U => a = as' ∧ Z.Warmed39 U.vm ∧ U.heap = h) (fun _ _ _ _ _ => True) (fun _ U o U' => ∃ v L, o = .returned v ∧ Qc v U'.heap L ∧ FrameEnd U o U' L rm.cells rm.slots)) (hsize : Ls.size = c.maxLocals) (a : Addr) (argsL rest : List Value) (ha : (.ref a :: argsL).toArray = as') (hst : st = argsL.reverse ++ .ref a :: rest) (hlen : ∀ sig, parseMethodDescriptor y.desc = some sig → argsL.length = sig.parameters.length) (W : Nat) (hW : (rest.map fun v => v.category).sum ≤ W) (hd : decode c.code pc = .ok (.invokespecial index, 3)) (hfr : rm.frames + 1 ≤ R.frames) (hlo : W + (maxL + 11) + rm.locals ≤ R.locals) (hce : cells + rm.cells ≤ R.cells) (hsl : slots + rm.slots ≤ R.slots) (hp : pc + 3 = pc') (H : ∀ v T' L, Stand p l e R s m args below meth c T' (locs ++ L) (cells + rm.cells) (slots + rm.slots) → Qc v T'.heap L → Go p e below s k n Q T' (mkF m pc' Ls (v.toList ++ rest))) : Go p e below s k n Q T (mkF m pc Ls st) := by
  subst hp hst
  obtain ⟨v, _, ⟨T', L, k', n'⟩, -, X', ⟨Lc, hQ, l1, l2, l3⟩, q⟩ := X.specialBack hx (y := y) hy1 hown (mvT hZ w1) (mvT hZ w2) (mvT hZ w4) hy (backOf (W := W) hM hZ w4 w3 hfr hlo) (g := mkF m pc Ls (argsL.reverse ++ .ref a :: rest)) rfl hsize (Steps.refl _) (a := a) (argsL := argsL) (rest := rest) hlen rfl (by show 2 * 0 + _ ≤ _; omega) hd (fun _ _ => ⟨ha, eT, hce, hsl⟩)
  dsimp only [Pt.U, Pt.locs, Pt.cells, Pt.slots] at X' l1 l2 l3 q hQ
  subst l1 l2 l3
  exact (H v T' Lc X' hQ).via fun t r => q.trans r
theorem g_callV (pc' : Nat) (X : Stand p l e R s m args below meth c T locs cells slots) (hx : p.tables.exec = Jvm.exec) (hZ : Z.Warmed39 s.vm) {own : String} {index : Nat} {y : MethodName} {bytes : ByteArray} {maxL : Nat} {ret : Option FieldType} {rm : Room} {as' : Array Value} {Qc : Option Value → Heap → List Loc → Prop} (hown : s.vm.findClass own = some m.cls) (w1 : (Cond.methodLink own index y).before a0 Z = true) (w2 : (Cond.declares y).before a0 Z = true) (w5 : (Cond.selects y.cls y y).before a0 Z = true) (w6 : (Cond.instanceMethod y).before a0 Z = true) (w3 : (Cond.initialized y.cls).before a0 Z = true) (w4 : (Cond.code y bytes maxL ret).before a0 Z = true) (hy : y.cls ≠ "java/lang/invoke/MethodHandle" ∧ y.cls ≠ "java/lang/invoke/VarHandle") (eT : T.heap = h) {a : Addr} (E : Exa Z h a y.cls) (hM : MetFree l y (head1 [Cond.code y bytes maxL ret] rm) (fun a U => a = as' ∧ Z.Warmed39 U.vm ∧ U.heap = h) (fun _ _ _ _ _ => True) (fun _ U o U' => ∃ v L, o = .returned v ∧ Qc v U'.heap L ∧ FrameEnd U o U' L rm.cells rm.slots)) (hsize : Ls.size = c.maxLocals) (argsL rest : List Value) (ha : (.ref a :: argsL).toArray = as') (hst : st = argsL.reverse ++ .ref a :: rest) (hlen : ∀ sig, parseMethodDescriptor y.desc = some sig → argsL.length = sig.parameters.length) (W : Nat) (hW : (rest.map fun v => v.category).sum ≤ W) (hd : decode c.code pc = .ok (.invokevirtual index, 3)) (hfr : rm.frames + 1 ≤ R.frames) (hlo : W + (maxL + 11) + rm.locals ≤ R.locals) (hce : cells + rm.cells ≤ R.cells) (hsl : slots + rm.slots ≤ R.slots) (hp : pc + 3 = pc') (H : ∀ v T' L, Stand p l e R s m args below meth c T' (locs ++ L) (cells + rm.cells) (slots + rm.slots) → Qc v T'.heap L → Go p e below s k n Q T' (mkF m pc' Ls (v.toList ++ rest))) : Go p e below s k n Q T (mkF m pc Ls st) := by
  subst hp hst
  obtain ⟨cq, kq, qa, qb, qc⟩ := isOf hZ eT E
  obtain ⟨v, _, ⟨T', L, k', n'⟩, -, X', ⟨Lc, hQ, l1, l2, l3⟩, q⟩ := X.virtualBack hx (y := y) (z := y) hown (mvT hZ w1) (mvT hZ w2) (notFace_of_selects (args := #[]) (mvT hZ w5)) (mvT hZ w5) (mvT hZ w6) hy (backOf (W := W) hM hZ w4 w3 hfr hlo) qa qc (g := mkF m pc Ls (argsL.reverse ++ .ref a :: rest)) rfl hsize (Steps.refl _) (argsL := argsL) (rest := rest) hlen rfl (by show 2 * 0 + _ ≤ _; omega) hd (fun _ _ => ⟨ha, eT, hce, hsl⟩)
  dsimp only [Pt.U, Pt.locs, Pt.cells, Pt.slots] at X' l1 l2 l3 q hQ
  subst l1 l2 l3
  exact (H v T' Lc X' hQ).via fun t r => q.trans r
end OwnKit
theorem own_lrem (x y : Int64) (d : Int) (hy : y.toInt = d) : (0 ≤ x.toInt → (x % y).toInt = x.toInt % d) ∧ (x.toInt < 0 → (x % y).toInt = -((-x.toInt) % d)) := by
  rw [Int64.toInt_mod, hy]; exact tr _ _
theorem own_lremV (x y : Int64) : 0 ≤ x.toInt → 0 < y.toInt → 0 ≤ (x % y).toInt ∧ (x % y).toInt < y.toInt ∧ (x % y).toInt ≤ x.toInt := by
  intro h1 h2
  rw [Int64.toInt_mod, Int.tmod_eq_emod_of_nonneg h1]
  have a := Int.emod_nonneg x.toInt (by omega : y.toInt ≠ 0)
  have b := Int.emod_lt_of_pos x.toInt h2
  refine ⟨a, b, ?_⟩
  by_cases c : x.toInt < y.toInt
  · rw [Int.emod_eq_of_lt h1 c]; exact Int.le_refl _
  · omega
theorem own_prod {a b A B : Int} (h1 : 0 ≤ a) (h2 : a ≤ A) (h3 : 0 ≤ b) (h4 : b ≤ B) : 0 ≤ a * b ∧ a * b ≤ A * B :=
  ⟨Int.mul_nonneg h1 h3, Int.mul_le_mul h2 h4 h3 (Int.le_trans h1 h2)⟩

theorem d1_0 : decode jdk_29_method_65_code 0 = .ok (.iload_n 0, 1) := by decide +kernel
theorem d1_1 : decode jdk_29_method_65_code 1 = .ok (.iload_n 1, 1) := by decide +kernel
theorem d1_2 : decode jdk_29_method_65_code 2 = .ok (.if_icmp .lt 7, 3) := by decide +kernel
theorem d1_5 : decode jdk_29_method_65_code 5 = .ok (.iload_n 0, 1) := by decide +kernel
theorem d1_6 : decode jdk_29_method_65_code 6 = .ok (.goto 4, 3) := by decide +kernel
theorem d1_9 : decode jdk_29_method_65_code 9 = .ok (.iload_n 1, 1) := by decide +kernel
theorem d1_10 : decode jdk_29_method_65_code 10 = .ok (.ireturn, 1) := by decide +kernel
def Rel1 (p1 : Int32) (p2 : Int32) (r : Int32) : Prop := (p1 < p2 ∧ r = p2) ∨ (¬ (p1 < p2) ∧ r = p1)
def Q1 (Z : State) (p1 : Int32) (p2 : Int32) (h0 : Heap) (n0 : Nat) (v : Option Value) (h : Heap) (L : List Loc) : Prop := ∃ r : Int32, v = some (.int r) ∧ Rel1 p1 p2 r ∧ Fr n0 L ∧ h = h0
theorem ef_rm1 (m : MethodId) (p1 : Int32) (p2 : Int32) : entryFrame m #[(.int p1), (.int p2)] 2 = mkF m 0 #[.val (.int p1), .val (.int p2)] [] := by first | (simp [entryFrame, mkF, argsToLocals, Value.category]; done) | rfl
set_option maxRecDepth 65536 in
set_option maxHeartbeats 40000000 in
theorem rm1 (l : Launch) (Z : State) (a0 : Array Value) (hw : ∀ d ∈ tables_1, d.before a0 Z = true) (ws : List Jvm.Cond) (p1 : Int32) (p2 : Int32) (h0 : Heap) (n0 : Nat) (Z0 : n0 ≤ h0.size)  :
    MetFree l (⟨"java/lang/Math", "max", "(II)I"⟩ : MethodName) (head1 (Jvm.Cond.code (⟨"java/lang/Math", "max", "(II)I"⟩ : MethodName) jdk_29_method_65_code 2 (some .int) :: ws) ({ frames := 0, cells := 0, slots := 0, locals := 0 } : Room)) (fun a U => a = #[(.int p1), (.int p2)] ∧ Z.Warmed39 U.vm ∧ U.heap = h0) (fun _ _ _ _ _ => True) (fun _ U o U' => ∃ v L, o = .returned v ∧ (Q1 Z p1 p2 h0 n0) v U'.heap L ∧ FrameEnd U o U' L ({ frames := 0, cells := 0, slots := 0, locals := 0 } : Room).cells ({ frames := 0, cells := 0, slots := 0, locals := 0 } : Room).slots) := by
  refine MetFree.of_bodySF (Jvm.Free.JP.mathPlain rfl (by decide +kernel)) hisR ?_
  intro p e s m args below meth c s₁ Bd hml0 hP hK
  obtain ⟨rfl, hZ, hh⟩ := hP
  have hx := Bd.exec
  have hby := Bd.bytes
  have hml : c.maxLocals = 2 := hml0
  have hown : s.vm.findClass "java/lang/Math" = some m.cls := findClass_of_methodNamed Bd.named
  have hnm := (name_of_methodNamed Bd.named Bd.method).1
  have hlk : meth.locks = false := BodyLoose.notSynchronized Bd
  have X0 : Stand p l e ({ frames := 0, cells := 0, slots := 0, locals := 0 } : Room) s m #[(.int p1), (.int p2)] below meth c s₁ [] 0 0 := Stand.of_body Bd
  have e0 : s₁.heap = h0 := by rw [← hh, Bd.state]; rfl
  have N0 := Fr.nil n0
  show Go p e below s ({ frames := 0, cells := 0, slots := 0, locals := 0 } : Room).cells ({ frames := 0, cells := 0, slots := 0, locals := 0 } : Room).slots (Q1 Z p1 p2 h0 n0) s₁ (entryFrame m #[(.int p1), (.int p2)] 2)
  rw [ef_rm1 m p1 p2]
  refine g_iloadN 1 X0 hx (hb hby d1_0) rfl (v := p1) rfl ?_
  refine g_iloadN 2 X0 hx (hb hby d1_1) rfl (v := p2) rfl ?_
  by_cases hc2_0 : p1 < p2
  ·
    refine g_icmpYes 9 X0 hx (hb hby d1_2)  (tlt hc2_0).1 (by decide) (by decide) ?_
    refine g_iloadN 10 X0 hx (hb hby d1_9) rfl (v := p2) rfl ?_
    exact g_retI X0 hx Bd.returns hlk (hb hby d1_10) (by decide) (by decide) ⟨p2, rfl, (Or.inl ⟨hc2_0, rfl⟩), N0, e0⟩
  ·
    refine g_icmpNo 5 X0 hx (hb hby d1_2)  (flt hc2_0).1 rfl ?_
    refine g_iloadN 6 X0 hx (hb hby d1_5) rfl (v := p1) rfl ?_
    refine g_goto 10 X0 hx (hb hby d1_6) (by decide) (by decide) ?_
    exact g_retI X0 hx Bd.returns hlk (hb hby d1_10) (by decide) (by decide) ⟨p1, rfl, (Or.inr ⟨hc2_0, rfl⟩), N0, e0⟩
theorem pn_0 : plainName "java/lang/Record" = true := by first | (simp [plainName, overriddenIn]; done) | decide +kernel
theorem d3_0 : decode jdk_30_method_1_code 0 = .ok (.aload_n 0, 1) := by decide +kernel
theorem d3_1 : decode jdk_30_method_1_code 1 = .ok (.invokespecial 1, 3) := by decide +kernel
theorem d3_4 : decode jdk_30_method_1_code 4 = .ok (.return_, 1) := by decide +kernel
def Q3 (Z : State) (a1 : Addr) (h0 : Heap) (n0 : Nat) (v : Option Value) (h : Heap) (L : List Loc) : Prop := v = none ∧ Fr n0 L ∧ h = h0
theorem ef_rm3 (m : MethodId) (a1 : Addr) : entryFrame m #[(.ref a1)] 1 = mkF m 0 #[.val (.ref a1)] [] := by first | (simp [entryFrame, mkF, argsToLocals, Value.category]; done) | rfl
set_option maxRecDepth 65536 in
set_option maxHeartbeats 40000000 in
theorem rm3 (l : Launch) (Z : State) (a0 : Array Value) (hw : ∀ d ∈ tables_1, d.before a0 Z = true) (ws : List Jvm.Cond) (a1 : Addr) (h0 : Heap) (n0 : Nat) (Z0 : n0 ≤ h0.size)  :
    MetFree l (⟨"java/lang/Record", "<init>", "()V"⟩ : MethodName) (head1 (Jvm.Cond.code (⟨"java/lang/Record", "<init>", "()V"⟩ : MethodName) jdk_30_method_1_code 1 none :: ws) ({ frames := 1, cells := 0, slots := 0, locals := 12 } : Room)) (fun a U => a = #[(.ref a1)] ∧ Z.Warmed39 U.vm ∧ U.heap = h0) (fun _ _ _ _ _ => True) (fun _ U o U' => ∃ v L, o = .returned v ∧ (Q3 Z a1 h0 n0) v U'.heap L ∧ FrameEnd U o U' L ({ frames := 1, cells := 0, slots := 0, locals := 12 } : Room).cells ({ frames := 1, cells := 0, slots := 0, locals := 12 } : Room).slots) := by
  refine MetFree.of_bodySF (plainFor_of_name pn_0) hisR ?_
  intro p e s m args below meth c s₁ Bd hml0 hP hK
  obtain ⟨rfl, hZ, hh⟩ := hP
  have hx := Bd.exec
  have hby := Bd.bytes
  have hml : c.maxLocals = 1 := hml0
  have hown : s.vm.findClass "java/lang/Record" = some m.cls := findClass_of_methodNamed Bd.named
  have hnm := (name_of_methodNamed Bd.named Bd.method).1
  have hlk : meth.locks = false := BodyLoose.notSynchronized Bd
  have X0 : Stand p l e ({ frames := 1, cells := 0, slots := 0, locals := 12 } : Room) s m #[(.ref a1)] below meth c s₁ [] 0 0 := Stand.of_body Bd
  have e0 : s₁.heap = h0 := by rw [← hh, Bd.state]; rfl
  have N0 := Fr.nil n0
  show Go p e below s ({ frames := 1, cells := 0, slots := 0, locals := 12 } : Room).cells ({ frames := 1, cells := 0, slots := 0, locals := 12 } : Room).slots (Q3 Z a1 h0 n0) s₁ (entryFrame m #[(.ref a1)] 1)
  rw [ef_rm3 m a1]
  refine g_aloadN 1 X0 hx (hb hby d3_0) rfl (v := (.ref a1)) rfl rfl ?_
  refine g_initO 4 X0 hx hZ hown (hw _ (List.mem_of_getElem? (i := 17) rfl)) (hw _ (List.mem_of_getElem? (i := 18) rfl)) (hw _ (List.mem_of_getElem? (i := 19) rfl)) e0 (by rw [hml]; rfl) (hb hby d3_1) (by decide) 0 (Nat.le_of_eq rfl) (by decide) rfl ?_
  intro T1 X1 e1
  exact g_ret0 X1 hx Bd.returns hlk (hb hby d3_4) (by decide) (by decide) ⟨rfl, N0, e1⟩
theorem pd_0 : parseMethodDescriptor "()V" = some ⟨[], none⟩ := by decide +kernel
theorem d2_0 : decode prog_22_method_1_code 0 = .ok (.aload_n 0, 1) := by decide +kernel
theorem d2_1 : decode prog_22_method_1_code 1 = .ok (.invokespecial 1, 3) := by decide +kernel
theorem d2_4 : decode prog_22_method_1_code 4 = .ok (.aload_n 0, 1) := by decide +kernel
theorem d2_5 : decode prog_22_method_1_code 5 = .ok (.iload_n 1, 1) := by decide +kernel
theorem d2_6 : decode prog_22_method_1_code 6 = .ok (.putfield 7, 3) := by decide +kernel
theorem d2_9 : decode prog_22_method_1_code 9 = .ok (.aload_n 0, 1) := by decide +kernel
theorem d2_10 : decode prog_22_method_1_code 10 = .ok (.iload_n 2, 1) := by decide +kernel
theorem d2_11 : decode prog_22_method_1_code 11 = .ok (.putfield 13, 3) := by decide +kernel
theorem d2_14 : decode prog_22_method_1_code 14 = .ok (.aload_n 0, 1) := by decide +kernel
theorem d2_15 : decode prog_22_method_1_code 15 = .ok (.iload_n 3, 1) := by decide +kernel
theorem d2_16 : decode prog_22_method_1_code 16 = .ok (.putfield 16, 3) := by decide +kernel
theorem d2_19 : decode prog_22_method_1_code 19 = .ok (.aload_n 0, 1) := by decide +kernel
theorem d2_20 : decode prog_22_method_1_code 20 = .ok (.iload 4, 2) := by decide +kernel
theorem d2_22 : decode prog_22_method_1_code 22 = .ok (.putfield 19, 3) := by decide +kernel
theorem d2_25 : decode prog_22_method_1_code 25 = .ok (.return_, 1) := by decide +kernel
def Q2 (Z : State) (a1 : Addr) (p2 : Int32) (p3 : Int32) (p4 : Int32) (p5 : Int32) (h0 : Heap) (n0 : Nat) (v : Option Value) (h : Heap) (L : List Loc) : Prop := v = none ∧ Fr n0 L ∧ Keep h0 h [a1] ∧ Exa Z h a1 "com/example/tempfail/tempfail/guard/Guard" ∧ Fld Z h a1 "com/example/tempfail/tempfail/guard/Guard" "pendingLimit" "I" (.int p2) ∧ Fld Z h a1 "com/example/tempfail/tempfail/guard/Guard" "selectiveFrom" "I" (.int p3) ∧ Fld Z h a1 "com/example/tempfail/tempfail/guard/Guard" "heavyShare" "I" (.int p4) ∧ Fld Z h a1 "com/example/tempfail/tempfail/guard/Guard" "domains" "I" (.int p5)
theorem pn_1 : plainName "com/example/tempfail/tempfail/guard/Guard" = true := by first | (simp [plainName, overriddenIn]; done) | decide +kernel
theorem ef_rm2 (m : MethodId) (a1 : Addr) (p2 : Int32) (p3 : Int32) (p4 : Int32) (p5 : Int32) : entryFrame m #[(.ref a1), (.int p2), (.int p3), (.int p4), (.int p5)] 5 = mkF m 0 #[.val (.ref a1), .val (.int p2), .val (.int p3), .val (.int p4), .val (.int p5)] [] := by first | (simp [entryFrame, mkF, argsToLocals, Value.category]; done) | rfl
set_option maxRecDepth 65536 in
set_option maxHeartbeats 40000000 in
theorem rm2 (l : Launch) (Z : State) (a0 : Array Value) (hw : ∀ d ∈ tables_1, d.before a0 Z = true) (ws : List Jvm.Cond) (a1 : Addr) (p2 : Int32) (p3 : Int32) (p4 : Int32) (p5 : Int32) (h0 : Heap) (n0 : Nat) (Z0 : n0 ≤ h0.size) (E_a1 : Exa Z h0 a1 "com/example/tempfail/tempfail/guard/Guard") (F_pendingLimit : Fld Z h0 a1 "com/example/tempfail/tempfail/guard/Guard" "pendingLimit" "I" (.int (0 : Int32))) (F_selectiveFrom : Fld Z h0 a1 "com/example/tempfail/tempfail/guard/Guard" "selectiveFrom" "I" (.int (0 : Int32))) (F_heavyShare : Fld Z h0 a1 "com/example/tempfail/tempfail/guard/Guard" "heavyShare" "I" (.int (0 : Int32))) (F_domains : Fld Z h0 a1 "com/example/tempfail/tempfail/guard/Guard" "domains" "I" (.int (0 : Int32))) (g_a1 : n0 ≤ a1) :
    MetFree l (⟨"com/example/tempfail/tempfail/guard/Guard", "<init>", "(IIII)V"⟩ : MethodName) (head1 (Jvm.Cond.code (⟨"com/example/tempfail/tempfail/guard/Guard", "<init>", "(IIII)V"⟩ : MethodName) prog_22_method_1_code 5 none :: ws) ({ frames := 2, cells := 0, slots := 0, locals := 24 } : Room)) (fun a U => a = #[(.ref a1), (.int p2), (.int p3), (.int p4), (.int p5)] ∧ Z.Warmed39 U.vm ∧ U.heap = h0) (fun _ _ _ _ _ => True) (fun _ U o U' => ∃ v L, o = .returned v ∧ (Q2 Z a1 p2 p3 p4 p5 h0 n0) v U'.heap L ∧ FrameEnd U o U' L ({ frames := 2, cells := 0, slots := 0, locals := 24 } : Room).cells ({ frames := 2, cells := 0, slots := 0, locals := 24 } : Room).slots) := by
  refine MetFree.of_bodySF (plainFor_of_name pn_1) hisR ?_
  intro p e s m args below meth c s₁ Bd hml0 hP hK
  obtain ⟨rfl, hZ, hh⟩ := hP
  have hx := Bd.exec
  have hby := Bd.bytes
  have hml : c.maxLocals = 5 := hml0
  have hown : s.vm.findClass "com/example/tempfail/tempfail/guard/Guard" = some m.cls := findClass_of_methodNamed Bd.named
  have hnm := (name_of_methodNamed Bd.named Bd.method).1
  have hlk : meth.locks = false := BodyLoose.notSynchronized Bd
  have X0 : Stand p l e ({ frames := 2, cells := 0, slots := 0, locals := 24 } : Room) s m #[(.ref a1), (.int p2), (.int p3), (.int p4), (.int p5)] below meth c s₁ [] 0 0 := Stand.of_body Bd
  have e0 : s₁.heap = h0 := by rw [← hh, Bd.state]; rfl
  have N0 := Fr.nil n0
  have K0 := Keep.refl h0 [a1]
  show Go p e below s ({ frames := 2, cells := 0, slots := 0, locals := 24 } : Room).cells ({ frames := 2, cells := 0, slots := 0, locals := 24 } : Room).slots (Q2 Z a1 p2 p3 p4 p5 h0 n0) s₁ (entryFrame m #[(.ref a1), (.int p2), (.int p3), (.int p4), (.int p5)] 5)
  rw [ef_rm2 m a1 p2 p3 p4 p5]
  refine g_aloadN 1 X0 hx (hb hby d2_0) rfl (v := (.ref a1)) rfl rfl ?_
  refine g_callI 4 X0 hx hZ (y := (⟨"java/lang/Record", "<init>", "()V"⟩ : MethodName)) rfl hown (hw _ (List.mem_of_getElem? (i := 12) rfl)) (hw _ (List.mem_of_getElem? (i := 13) rfl)) (hw _ (List.mem_of_getElem? (i := 15) rfl)) (hw _ (List.mem_of_getElem? (i := 16) rfl)) (by decide) e0 (rm3 l Z a0 hw [] a1  h0 n0 Z0 ) (by rw [hml]; rfl) a1 [] [] rfl rfl (lenOf pd_0 rfl) 0 (Nat.le_of_eq rfl) (hb hby d2_1) (by decide) (by decide) (by decide) (by decide) rfl ?_
  intro v1 T1 L1 X1 hQ1
  obtain ⟨rfl, N1q, e1⟩ := hQ1
  have N1 := Fr.app N0 N1q
  show Go p e below s ({ frames := 2, cells := 0, slots := 0, locals := 24 } : Room).cells ({ frames := 2, cells := 0, slots := 0, locals := 24 } : Room).slots (Q2 Z a1 p2 p3 p4 p5 h0 n0) T1 (mkF m 4 #[.val (.ref a1), .val (.int p2), .val (.int p3), .val (.int p4), .val (.int p5)] [])
  refine g_aloadN 5 X1 hx (hb hby d2_4) rfl (v := (.ref a1)) rfl rfl ?_
  refine g_iloadN 6 X1 hx (hb hby d2_5) rfl (v := p2) rfl ?_
  refine g_putF 9 X1 hx hZ hown (hw _ (List.mem_of_getElem? (i := 20) rfl)) Via.refl e1 F_pendingLimit E_a1 (Or.inr ⟨(hw _ (List.mem_of_getElem? (i := 21) rfl)), rfl, hnm⟩) (hw _ (List.mem_of_getElem? (i := 7) rfl)) (ty := .int) (by decide) rfl rfl (hb hby d2_6) rfl ?_
  intro T2 h2 X2 e2 W2
  have f3 := E_a1.wr W2
  have f4 := F_selectiveFrom.other W2 (Or.inr (slot_ne (Or.inr (hw _ (List.mem_of_getElem? (i := 23) rfl))) (Or.inr (hw _ (List.mem_of_getElem? (i := 21) rfl))) (by decide) (t := .int) (t' := .int) (by decide) (by decide)))
  have f5 := F_heavyShare.other W2 (Or.inr (slot_ne (Or.inr (hw _ (List.mem_of_getElem? (i := 25) rfl))) (Or.inr (hw _ (List.mem_of_getElem? (i := 21) rfl))) (by decide) (t := .int) (t' := .int) (by decide) (by decide)))
  have f6 := F_domains.other W2 (Or.inr (slot_ne (Or.inr (hw _ (List.mem_of_getElem? (i := 27) rfl))) (Or.inr (hw _ (List.mem_of_getElem? (i := 21) rfl))) (by decide) (t := .int) (t' := .int) (by decide) (by decide)))
  have Zs7 : n0 ≤ h2.size := (Nat.le_trans Z0 (Keep.of_wr W2).1)
  have K8 : Keep h0 h2 [a1] := K0.wr W2 (Or.inl (List.mem_of_getElem? (i := 0) rfl))
  have f9 := F_pendingLimit.same W2
  have N10 := Fr.snoc X2 N1 g_a1
  refine g_aloadN 10 X2 hx (hb hby d2_9) rfl (v := (.ref a1)) rfl rfl ?_
  refine g_iloadN 11 X2 hx (hb hby d2_10) rfl (v := p3) rfl ?_
  refine g_putF 14 X2 hx hZ hown (hw _ (List.mem_of_getElem? (i := 22) rfl)) Via.refl e2 f4 f3 (Or.inr ⟨(hw _ (List.mem_of_getElem? (i := 23) rfl)), rfl, hnm⟩) (hw _ (List.mem_of_getElem? (i := 7) rfl)) (ty := .int) (by decide) rfl rfl (hb hby d2_11) rfl ?_
  intro T11 h11 X11 e11 W11
  have f12 := f3.wr W11
  have f13 := f9.other W11 (Or.inr (slot_ne (Or.inr (hw _ (List.mem_of_getElem? (i := 21) rfl))) (Or.inr (hw _ (List.mem_of_getElem? (i := 23) rfl))) (by decide) (t := .int) (t' := .int) (by decide) (by decide)))
  have f14 := f5.other W11 (Or.inr (slot_ne (Or.inr (hw _ (List.mem_of_getElem? (i := 25) rfl))) (Or.inr (hw _ (List.mem_of_getElem? (i := 23) rfl))) (by decide) (t := .int) (t' := .int) (by decide) (by decide)))
  have f15 := f6.other W11 (Or.inr (slot_ne (Or.inr (hw _ (List.mem_of_getElem? (i := 27) rfl))) (Or.inr (hw _ (List.mem_of_getElem? (i := 23) rfl))) (by decide) (t := .int) (t' := .int) (by decide) (by decide)))
  have Zs16 : n0 ≤ h11.size := (Nat.le_trans Zs7 (Keep.of_wr W11).1)
  have K17 : Keep h0 h11 [a1] := K8.wr W11 (Or.inl (List.mem_of_getElem? (i := 0) rfl))
  have f18 := f4.same W11
  have N19 := Fr.snoc X11 N10 g_a1
  refine g_aloadN 15 X11 hx (hb hby d2_14) rfl (v := (.ref a1)) rfl rfl ?_
  refine g_iloadN 16 X11 hx (hb hby d2_15) rfl (v := p4) rfl ?_
  refine g_putF 19 X11 hx hZ hown (hw _ (List.mem_of_getElem? (i := 24) rfl)) Via.refl e11 f14 f12 (Or.inr ⟨(hw _ (List.mem_of_getElem? (i := 25) rfl)), rfl, hnm⟩) (hw _ (List.mem_of_getElem? (i := 7) rfl)) (ty := .int) (by decide) rfl rfl (hb hby d2_16) rfl ?_
  intro T20 h20 X20 e20 W20
  have f21 := f12.wr W20
  have f22 := f13.other W20 (Or.inr (slot_ne (Or.inr (hw _ (List.mem_of_getElem? (i := 21) rfl))) (Or.inr (hw _ (List.mem_of_getElem? (i := 25) rfl))) (by decide) (t := .int) (t' := .int) (by decide) (by decide)))
  have f23 := f18.other W20 (Or.inr (slot_ne (Or.inr (hw _ (List.mem_of_getElem? (i := 23) rfl))) (Or.inr (hw _ (List.mem_of_getElem? (i := 25) rfl))) (by decide) (t := .int) (t' := .int) (by decide) (by decide)))
  have f24 := f15.other W20 (Or.inr (slot_ne (Or.inr (hw _ (List.mem_of_getElem? (i := 27) rfl))) (Or.inr (hw _ (List.mem_of_getElem? (i := 25) rfl))) (by decide) (t := .int) (t' := .int) (by decide) (by decide)))
  have Zs25 : n0 ≤ h20.size := (Nat.le_trans Zs16 (Keep.of_wr W20).1)
  have K26 : Keep h0 h20 [a1] := K17.wr W20 (Or.inl (List.mem_of_getElem? (i := 0) rfl))
  have f27 := f14.same W20
  have N28 := Fr.snoc X20 N19 g_a1
  refine g_aloadN 20 X20 hx (hb hby d2_19) rfl (v := (.ref a1)) rfl rfl ?_
  refine g_iload 22 X20 hx (hb hby d2_20) rfl (v := p5) rfl ?_
  refine g_putF 25 X20 hx hZ hown (hw _ (List.mem_of_getElem? (i := 26) rfl)) Via.refl e20 f24 f21 (Or.inr ⟨(hw _ (List.mem_of_getElem? (i := 27) rfl)), rfl, hnm⟩) (hw _ (List.mem_of_getElem? (i := 7) rfl)) (ty := .int) (by decide) rfl rfl (hb hby d2_22) rfl ?_
  intro T29 h29 X29 e29 W29
  have f30 := f21.wr W29
  have f31 := f22.other W29 (Or.inr (slot_ne (Or.inr (hw _ (List.mem_of_getElem? (i := 21) rfl))) (Or.inr (hw _ (List.mem_of_getElem? (i := 27) rfl))) (by decide) (t := .int) (t' := .int) (by decide) (by decide)))
  have f32 := f23.other W29 (Or.inr (slot_ne (Or.inr (hw _ (List.mem_of_getElem? (i := 23) rfl))) (Or.inr (hw _ (List.mem_of_getElem? (i := 27) rfl))) (by decide) (t := .int) (t' := .int) (by decide) (by decide)))
  have f33 := f27.other W29 (Or.inr (slot_ne (Or.inr (hw _ (List.mem_of_getElem? (i := 25) rfl))) (Or.inr (hw _ (List.mem_of_getElem? (i := 27) rfl))) (by decide) (t := .int) (t' := .int) (by decide) (by decide)))
  have Zs34 : n0 ≤ h29.size := (Nat.le_trans Zs25 (Keep.of_wr W29).1)
  have K35 : Keep h0 h29 [a1] := K26.wr W29 (Or.inl (List.mem_of_getElem? (i := 0) rfl))
  have f36 := f24.same W29
  have N37 := Fr.snoc X29 N28 g_a1
  exact g_ret0 X29 hx Bd.returns hlk (hb hby d2_25) (by decide) (by decide) (by
      show Q2 Z a1 p2 p3 p4 p5 h0 n0 _ T29.heap _
      rw [e29]
      exact ⟨rfl, N37, K35, f30, f31, f32, f33, f36⟩)
theorem d6_0 : decode prog_22_method_4_code 0 = .ok (.lload_n 1, 1) := by decide +kernel
theorem d6_1 : decode prog_22_method_4_code 1 = .ok (.aload_n 0, 1) := by decide +kernel
theorem d6_2 : decode prog_22_method_4_code 2 = .ok (.getfield 7, 3) := by decide +kernel
theorem d6_5 : decode prog_22_method_4_code 5 = .ok (.i2l, 1) := by decide +kernel
theorem d6_6 : decode prog_22_method_4_code 6 = .ok (.lcmp, 1) := by decide +kernel
theorem d6_7 : decode prog_22_method_4_code 7 = .ok (.ifCond .lt 7, 3) := by decide +kernel
theorem d6_10 : decode prog_22_method_4_code 10 = .ok (.iconst 1, 1) := by decide +kernel
theorem d6_11 : decode prog_22_method_4_code 11 = .ok (.goto 4, 3) := by decide +kernel
theorem d6_14 : decode prog_22_method_4_code 14 = .ok (.iconst 0, 1) := by decide +kernel
theorem d6_15 : decode prog_22_method_4_code 15 = .ok (.ireturn, 1) := by decide +kernel
def Rel6 (q2 : Int64) (w_pendingLimit_a1 : Int32) (r : Int32) : Prop := (q2 < (w_pendingLimit_a1.toInt64) ∧ r = (0 : Int32)) ∨ (¬ (q2 < (w_pendingLimit_a1.toInt64)) ∧ r = (1 : Int32))
def Q6 (Z : State) (a1 : Addr) (q2 : Int64) (w_pendingLimit_a1 : Int32) (h0 : Heap) (n0 : Nat) (v : Option Value) (h : Heap) (L : List Loc) : Prop := ∃ r : Int32, v = some (.int r) ∧ Rel6 q2 w_pendingLimit_a1 r ∧ Fr n0 L ∧ h = h0
theorem ef_rm6 (m : MethodId) (a1 : Addr) (q2 : Int64) : entryFrame m #[(.ref a1), (.long q2)] 3 = mkF m 0 #[.val (.ref a1), .val (.long q2), .second] [] := by first | (simp [entryFrame, mkF, argsToLocals, Value.category]; done) | rfl
set_option maxRecDepth 65536 in
set_option maxHeartbeats 40000000 in
theorem rm6 (l : Launch) (Z : State) (a0 : Array Value) (hw : ∀ d ∈ tables_1, d.before a0 Z = true) (ws : List Jvm.Cond) (a1 : Addr) (q2 : Int64) (w_pendingLimit_a1 : Int32) (h0 : Heap) (n0 : Nat) (Z0 : n0 ≤ h0.size) (F_pendingLimit_a1 : Fld Z h0 a1 "com/example/tempfail/tempfail/guard/Guard" "pendingLimit" "I" (.int w_pendingLimit_a1)) :
    MetFree l (⟨"com/example/tempfail/tempfail/guard/Guard", "atLimit", "(J)Z"⟩ : MethodName) (head1 (Jvm.Cond.code (⟨"com/example/tempfail/tempfail/guard/Guard", "atLimit", "(J)Z"⟩ : MethodName) prog_22_method_4_code 3 (some .boolean) :: ws) ({ frames := 0, cells := 0, slots := 0, locals := 0 } : Room)) (fun a U => a = #[(.ref a1), (.long q2)] ∧ Z.Warmed39 U.vm ∧ U.heap = h0) (fun _ _ _ _ _ => True) (fun _ U o U' => ∃ v L, o = .returned v ∧ (Q6 Z a1 q2 w_pendingLimit_a1 h0 n0) v U'.heap L ∧ FrameEnd U o U' L ({ frames := 0, cells := 0, slots := 0, locals := 0 } : Room).cells ({ frames := 0, cells := 0, slots := 0, locals := 0 } : Room).slots) := by
  refine MetFree.of_bodySF (plainFor_of_name pn_1) hisR ?_
  intro p e s m args below meth c s₁ Bd hml0 hP hK
  obtain ⟨rfl, hZ, hh⟩ := hP
  have hx := Bd.exec
  have hby := Bd.bytes
  have hml : c.maxLocals = 3 := hml0
  have hown : s.vm.findClass "com/example/tempfail/tempfail/guard/Guard" = some m.cls := findClass_of_methodNamed Bd.named
  have hnm := (name_of_methodNamed Bd.named Bd.method).1
  have hlk : meth.locks = false := BodyLoose.notSynchronized Bd
  have X0 : Stand p l e ({ frames := 0, cells := 0, slots := 0, locals := 0 } : Room) s m #[(.ref a1), (.long q2)] below meth c s₁ [] 0 0 := Stand.of_body Bd
  have e0 : s₁.heap = h0 := by rw [← hh, Bd.state]; rfl
  have N0 := Fr.nil n0
  show Go p e below s ({ frames := 0, cells := 0, slots := 0, locals := 0 } : Room).cells ({ frames := 0, cells := 0, slots := 0, locals := 0 } : Room).slots (Q6 Z a1 q2 w_pendingLimit_a1 h0 n0) s₁ (entryFrame m #[(.ref a1), (.long q2)] 3)
  rw [ef_rm6 m a1 q2]
  refine g_lloadN 1 X0 hx (hb hby d6_0) rfl (v := q2) rfl ?_
  refine g_aloadN 2 X0 hx (hb hby d6_1) rfl (v := (.ref a1)) rfl rfl ?_
  refine g_getF 5 X0 hx hZ hown (hw _ (List.mem_of_getElem? (i := 20) rfl)) Via.refl e0 F_pendingLimit_a1 (hb hby d6_2) rfl ?_
  intro T1 X1 e1
  refine g_i2l 6 X1 hx (hb hby d6_5) rfl (z := (w_pendingLimit_a1.toInt64)) rfl ?_
  by_cases hc6_1 : q2 < (w_pendingLimit_a1.toInt64)
  ·
    refine g_lcmpYes 14 X1 hx (hb hby d6_6) rfl (hb hby d6_7) (tltL hc6_1).1 (by decide) (by decide) ?_
    refine g_iconst 15 X1 hx (hb hby d6_14) rfl (z := (0 : Int32)) rfl ?_
    exact g_retN X1 hx (t := .boolean) Bd.returns hlk (by simp) rfl (hb hby d6_15) (by decide) (by decide) ⟨(0 : Int32), rfl, (Or.inl ⟨hc6_1, rfl⟩), N0, e1⟩
  ·
    refine g_lcmpNo 10 X1 hx (hb hby d6_6) rfl (hb hby d6_7) (fltL hc6_1).1 rfl ?_
    refine g_iconst 11 X1 hx (hb hby d6_10) rfl (z := (1 : Int32)) rfl ?_
    refine g_goto 15 X1 hx (hb hby d6_11) (by decide) (by decide) ?_
    exact g_retN X1 hx (t := .boolean) Bd.returns hlk (by simp) rfl (hb hby d6_15) (by decide) (by decide) ⟨(1 : Int32), rfl, (Or.inr ⟨hc6_1, rfl⟩), N0, e1⟩
theorem d7_0 : decode prog_22_method_3_code 0 = .ok (.aload_n 0, 1) := by decide +kernel
theorem d7_1 : decode prog_22_method_3_code 1 = .ok (.getfield 7, 3) := by decide +kernel
theorem d7_4 : decode prog_22_method_3_code 4 = .ok (.i2l, 1) := by decide +kernel
theorem d7_5 : decode prog_22_method_3_code 5 = .ok (.aload_n 0, 1) := by decide +kernel
theorem d7_6 : decode prog_22_method_3_code 6 = .ok (.getfield 13, 3) := by decide +kernel
theorem d7_9 : decode prog_22_method_3_code 9 = .ok (.i2l, 1) := by decide +kernel
theorem d7_10 : decode prog_22_method_3_code 10 = .ok (.lmul, 1) := by decide +kernel
theorem d7_11 : decode prog_22_method_3_code 11 = .ok (.ldc2_w 30, 3) := by decide +kernel
theorem d7_14 : decode prog_22_method_3_code 14 = .ok (.ladd, 1) := by decide +kernel
theorem d7_15 : decode prog_22_method_3_code 15 = .ok (.lconst 1, 1) := by decide +kernel
theorem d7_16 : decode prog_22_method_3_code 16 = .ok (.lsub, 1) := by decide +kernel
theorem d7_17 : decode prog_22_method_3_code 17 = .ok (.ldc2_w 30, 3) := by decide +kernel
theorem d7_20 : decode prog_22_method_3_code 20 = .ok (.ldiv, 1) := by decide +kernel
theorem d7_21 : decode prog_22_method_3_code 21 = .ok (.lreturn, 1) := by decide +kernel
def Rel7 (w_pendingLimit_a1 : Int32) (w_selectiveFrom_a1 : Int32) (r : Int64) : Prop := (r = (((((w_pendingLimit_a1.toInt64) * (w_selectiveFrom_a1.toInt64)) + (10000 : Int64)) - (1 : Int64)) / (10000 : Int64)))
def Q7 (Z : State) (a1 : Addr) (w_pendingLimit_a1 : Int32) (w_selectiveFrom_a1 : Int32) (h0 : Heap) (n0 : Nat) (v : Option Value) (h : Heap) (L : List Loc) : Prop := ∃ r : Int64, v = some (.long r) ∧ Rel7 w_pendingLimit_a1 w_selectiveFrom_a1 r ∧ Fr n0 L ∧ h = h0
theorem ef_rm7 (m : MethodId) (a1 : Addr) : entryFrame m #[(.ref a1)] 1 = mkF m 0 #[.val (.ref a1)] [] := by first | (simp [entryFrame, mkF, argsToLocals, Value.category]; done) | rfl
set_option maxRecDepth 65536 in
set_option maxHeartbeats 40000000 in
theorem rm7 (l : Launch) (Z : State) (a0 : Array Value) (hw : ∀ d ∈ tables_1, d.before a0 Z = true) (ws : List Jvm.Cond) (a1 : Addr) (w_pendingLimit_a1 : Int32) (w_selectiveFrom_a1 : Int32) (h0 : Heap) (n0 : Nat) (Z0 : n0 ≤ h0.size) (F_pendingLimit_a1 : Fld Z h0 a1 "com/example/tempfail/tempfail/guard/Guard" "pendingLimit" "I" (.int w_pendingLimit_a1)) (F_selectiveFrom_a1 : Fld Z h0 a1 "com/example/tempfail/tempfail/guard/Guard" "selectiveFrom" "I" (.int w_selectiveFrom_a1)) :
    MetFree l (⟨"com/example/tempfail/tempfail/guard/Guard", "selectivePending", "()J"⟩ : MethodName) (head1 (Jvm.Cond.code (⟨"com/example/tempfail/tempfail/guard/Guard", "selectivePending", "()J"⟩ : MethodName) prog_22_method_3_code 1 (some .long) :: ws) ({ frames := 0, cells := 0, slots := 0, locals := 0 } : Room)) (fun a U => a = #[(.ref a1)] ∧ Z.Warmed39 U.vm ∧ U.heap = h0) (fun _ _ _ _ _ => True) (fun _ U o U' => ∃ v L, o = .returned v ∧ (Q7 Z a1 w_pendingLimit_a1 w_selectiveFrom_a1 h0 n0) v U'.heap L ∧ FrameEnd U o U' L ({ frames := 0, cells := 0, slots := 0, locals := 0 } : Room).cells ({ frames := 0, cells := 0, slots := 0, locals := 0 } : Room).slots) := by
  refine MetFree.of_bodySF (plainFor_of_name pn_1) hisR ?_
  intro p e s m args below meth c s₁ Bd hml0 hP hK
  obtain ⟨rfl, hZ, hh⟩ := hP
  have hx := Bd.exec
  have hby := Bd.bytes
  have hml : c.maxLocals = 1 := hml0
  have hown : s.vm.findClass "com/example/tempfail/tempfail/guard/Guard" = some m.cls := findClass_of_methodNamed Bd.named
  have hnm := (name_of_methodNamed Bd.named Bd.method).1
  have hlk : meth.locks = false := BodyLoose.notSynchronized Bd
  have X0 : Stand p l e ({ frames := 0, cells := 0, slots := 0, locals := 0 } : Room) s m #[(.ref a1)] below meth c s₁ [] 0 0 := Stand.of_body Bd
  have e0 : s₁.heap = h0 := by rw [← hh, Bd.state]; rfl
  have N0 := Fr.nil n0
  show Go p e below s ({ frames := 0, cells := 0, slots := 0, locals := 0 } : Room).cells ({ frames := 0, cells := 0, slots := 0, locals := 0 } : Room).slots (Q7 Z a1 w_pendingLimit_a1 w_selectiveFrom_a1 h0 n0) s₁ (entryFrame m #[(.ref a1)] 1)
  rw [ef_rm7 m a1]
  refine g_aloadN 1 X0 hx (hb hby d7_0) rfl (v := (.ref a1)) rfl rfl ?_
  refine g_getF 4 X0 hx hZ hown (hw _ (List.mem_of_getElem? (i := 20) rfl)) Via.refl e0 F_pendingLimit_a1 (hb hby d7_1) rfl ?_
  intro T1 X1 e1
  refine g_i2l 5 X1 hx (hb hby d7_4) rfl (z := (w_pendingLimit_a1.toInt64)) rfl ?_
  refine g_aloadN 6 X1 hx (hb hby d7_5) rfl (v := (.ref a1)) rfl rfl ?_
  refine g_getF 9 X1 hx hZ hown (hw _ (List.mem_of_getElem? (i := 22) rfl)) Via.refl e1 F_selectiveFrom_a1 (hb hby d7_6) rfl ?_
  intro T2 X2 e2
  refine g_i2l 10 X2 hx (hb hby d7_9) rfl (z := (w_selectiveFrom_a1.toInt64)) rfl ?_
  refine g_lmul 11 X2 hx (hb hby d7_10) rfl (z := ((w_pendingLimit_a1.toInt64) * (w_selectiveFrom_a1.toInt64))) rfl ?_
  refine g_ldc2 14 X2 hx hZ hown (hw _ (List.mem_of_getElem? (i := 43) rfl)) (hb hby d7_11) rfl ?_
  refine g_ladd 15 X2 hx (hb hby d7_14) rfl (z := (((w_pendingLimit_a1.toInt64) * (w_selectiveFrom_a1.toInt64)) + (10000 : Int64))) rfl ?_
  refine g_lconst 16 X2 hx (hb hby d7_15) rfl (z := (1 : Int64)) rfl ?_
  refine g_lsub 17 X2 hx (hb hby d7_16) rfl (z := ((((w_pendingLimit_a1.toInt64) * (w_selectiveFrom_a1.toInt64)) + (10000 : Int64)) - (1 : Int64))) rfl ?_
  refine g_ldc2 20 X2 hx hZ hown (hw _ (List.mem_of_getElem? (i := 43) rfl)) (hb hby d7_17) rfl ?_
  refine g_ldiv 21 X2 hx (hb hby d7_20) rfl (by decide) (z := (((((w_pendingLimit_a1.toInt64) * (w_selectiveFrom_a1.toInt64)) + (10000 : Int64)) - (1 : Int64)) / (10000 : Int64))) rfl ?_
  exact g_retJ X2 hx Bd.returns hlk (hb hby d7_21) (by decide) (by decide) ⟨(((((w_pendingLimit_a1.toInt64) * (w_selectiveFrom_a1.toInt64)) + (10000 : Int64)) - (1 : Int64)) / (10000 : Int64)), rfl, rfl, N0, e2⟩
theorem pd_1 : parseMethodDescriptor "(J)Z" = some ⟨[.long], some .boolean⟩ := by decide +kernel
theorem pd_2 : parseMethodDescriptor "()J" = some ⟨[], some .long⟩ := by decide +kernel
theorem d5_0 : decode prog_22_method_2_code 0 = .ok (.aload_n 0, 1) := by decide +kernel
theorem d5_1 : decode prog_22_method_2_code 1 = .ok (.lload_n 1, 1) := by decide +kernel
theorem d5_2 : decode prog_22_method_2_code 2 = .ok (.invokevirtual 22, 3) := by decide +kernel
theorem d5_5 : decode prog_22_method_2_code 5 = .ok (.ifCond .eq 9, 3) := by decide +kernel
theorem d5_8 : decode prog_22_method_2_code 8 = .ok (.iconst 0, 1) := by decide +kernel
theorem d5_9 : decode prog_22_method_2_code 9 = .ok (.istore 5, 2) := by decide +kernel
theorem d5_11 : decode prog_22_method_2_code 11 = .ok (.goto 41, 3) := by decide +kernel
theorem d5_14 : decode prog_22_method_2_code 14 = .ok (.lload_n 1, 1) := by decide +kernel
theorem d5_15 : decode prog_22_method_2_code 15 = .ok (.aload_n 0, 1) := by decide +kernel
theorem d5_16 : decode prog_22_method_2_code 16 = .ok (.invokevirtual 26, 3) := by decide +kernel
theorem d5_19 : decode prog_22_method_2_code 19 = .ok (.lcmp, 1) := by decide +kernel
theorem d5_20 : decode prog_22_method_2_code 20 = .ok (.ifCond .lt 29, 3) := by decide +kernel
theorem d5_23 : decode prog_22_method_2_code 23 = .ok (.lload_n 3, 1) := by decide +kernel
theorem d5_24 : decode prog_22_method_2_code 24 = .ok (.ldc2_w 30, 3) := by decide +kernel
theorem d5_27 : decode prog_22_method_2_code 27 = .ok (.lmul, 1) := by decide +kernel
theorem d5_28 : decode prog_22_method_2_code 28 = .ok (.lload_n 1, 1) := by decide +kernel
theorem d5_29 : decode prog_22_method_2_code 29 = .ok (.aload_n 0, 1) := by decide +kernel
theorem d5_30 : decode prog_22_method_2_code 30 = .ok (.getfield 16, 3) := by decide +kernel
theorem d5_33 : decode prog_22_method_2_code 33 = .ok (.i2l, 1) := by decide +kernel
theorem d5_34 : decode prog_22_method_2_code 34 = .ok (.lmul, 1) := by decide +kernel
theorem d5_35 : decode prog_22_method_2_code 35 = .ok (.lcmp, 1) := by decide +kernel
theorem d5_36 : decode prog_22_method_2_code 36 = .ok (.ifCond .ge 7, 3) := by decide +kernel
theorem d5_39 : decode prog_22_method_2_code 39 = .ok (.iconst 1, 1) := by decide +kernel
theorem d5_40 : decode prog_22_method_2_code 40 = .ok (.goto 4, 3) := by decide +kernel
theorem d5_43 : decode prog_22_method_2_code 43 = .ok (.iconst 0, 1) := by decide +kernel
theorem d5_44 : decode prog_22_method_2_code 44 = .ok (.istore 5, 2) := by decide +kernel
theorem d5_46 : decode prog_22_method_2_code 46 = .ok (.goto 6, 3) := by decide +kernel
theorem d5_49 : decode prog_22_method_2_code 49 = .ok (.iconst 1, 1) := by decide +kernel
theorem d5_50 : decode prog_22_method_2_code 50 = .ok (.istore 5, 2) := by decide +kernel
theorem d5_52 : decode prog_22_method_2_code 52 = .ok (.iload 5, 2) := by decide +kernel
theorem d5_54 : decode prog_22_method_2_code 54 = .ok (.ireturn, 1) := by decide +kernel
def Rel5 (q2 : Int64) (q3 : Int64) (w_pendingLimit_a1 : Int32) (w_selectiveFrom_a1 : Int32) (w_heavyShare_a1 : Int32) (r : Int32) : Prop := (∃ (r1 : Int32) (r3 : Int64), Rel6 q2 w_pendingLimit_a1 r1 ∧ r1 = (0 : Int32) ∧ Rel7 w_pendingLimit_a1 w_selectiveFrom_a1 r3 ∧ q2 < r3 ∧ r = (1 : Int32)) ∨ (∃ (r1 : Int32) (r3 : Int64), Rel6 q2 w_pendingLimit_a1 r1 ∧ r1 = (0 : Int32) ∧ Rel7 w_pendingLimit_a1 w_selectiveFrom_a1 r3 ∧ ¬ (q2 < r3) ∧ (q3 * (10000 : Int64)) < (q2 * (w_heavyShare_a1.toInt64)) ∧ r = (1 : Int32)) ∨ (∃ (r1 : Int32) (r3 : Int64), Rel6 q2 w_pendingLimit_a1 r1 ∧ r1 = (0 : Int32) ∧ Rel7 w_pendingLimit_a1 w_selectiveFrom_a1 r3 ∧ ¬ (q2 < r3) ∧ ¬ ((q3 * (10000 : Int64)) < (q2 * (w_heavyShare_a1.toInt64))) ∧ r = (0 : Int32)) ∨ (∃ (r1 : Int32), Rel6 q2 w_pendingLimit_a1 r1 ∧ ¬ (r1 = (0 : Int32)) ∧ r = (0 : Int32))
def Q5 (Z : State) (a1 : Addr) (q2 : Int64) (q3 : Int64) (w_pendingLimit_a1 : Int32) (w_selectiveFrom_a1 : Int32) (w_heavyShare_a1 : Int32) (h0 : Heap) (n0 : Nat) (v : Option Value) (h : Heap) (L : List Loc) : Prop := ∃ r : Int32, v = some (.int r) ∧ Rel5 q2 q3 w_pendingLimit_a1 w_selectiveFrom_a1 w_heavyShare_a1 r ∧ Fr n0 L ∧ h = h0
theorem ef_rm5 (m : MethodId) (a1 : Addr) (q2 : Int64) (q3 : Int64) : entryFrame m #[(.ref a1), (.long q2), (.long q3)] 6 = mkF m 0 #[.val (.ref a1), .val (.long q2), .second, .val (.long q3), .second, .unset] [] := by first | (simp [entryFrame, mkF, argsToLocals, Value.category]; done) | rfl
set_option maxRecDepth 65536 in
set_option maxHeartbeats 40000000 in
theorem rm5 (l : Launch) (Z : State) (a0 : Array Value) (hw : ∀ d ∈ tables_1, d.before a0 Z = true) (ws : List Jvm.Cond) (a1 : Addr) (q2 : Int64) (q3 : Int64) (w_pendingLimit_a1 : Int32) (w_selectiveFrom_a1 : Int32) (w_heavyShare_a1 : Int32) (h0 : Heap) (n0 : Nat) (Z0 : n0 ≤ h0.size) (F_pendingLimit_a1 : Fld Z h0 a1 "com/example/tempfail/tempfail/guard/Guard" "pendingLimit" "I" (.int w_pendingLimit_a1)) (F_selectiveFrom_a1 : Fld Z h0 a1 "com/example/tempfail/tempfail/guard/Guard" "selectiveFrom" "I" (.int w_selectiveFrom_a1)) (F_heavyShare_a1 : Fld Z h0 a1 "com/example/tempfail/tempfail/guard/Guard" "heavyShare" "I" (.int w_heavyShare_a1)) (E_a1 : Exa Z h0 a1 "com/example/tempfail/tempfail/guard/Guard") :
    MetFree l (⟨"com/example/tempfail/tempfail/guard/Guard", "admits", "(JJ)Z"⟩ : MethodName) (head1 (Jvm.Cond.code (⟨"com/example/tempfail/tempfail/guard/Guard", "admits", "(JJ)Z"⟩ : MethodName) prog_22_method_2_code 6 (some .boolean) :: ws) ({ frames := 1, cells := 0, slots := 0, locals := 14 } : Room)) (fun a U => a = #[(.ref a1), (.long q2), (.long q3)] ∧ Z.Warmed39 U.vm ∧ U.heap = h0) (fun _ _ _ _ _ => True) (fun _ U o U' => ∃ v L, o = .returned v ∧ (Q5 Z a1 q2 q3 w_pendingLimit_a1 w_selectiveFrom_a1 w_heavyShare_a1 h0 n0) v U'.heap L ∧ FrameEnd U o U' L ({ frames := 1, cells := 0, slots := 0, locals := 14 } : Room).cells ({ frames := 1, cells := 0, slots := 0, locals := 14 } : Room).slots) := by
  refine MetFree.of_bodySF (plainFor_of_name pn_1) hisR ?_
  intro p e s m args below meth c s₁ Bd hml0 hP hK
  obtain ⟨rfl, hZ, hh⟩ := hP
  have hx := Bd.exec
  have hby := Bd.bytes
  have hml : c.maxLocals = 6 := hml0
  have hown : s.vm.findClass "com/example/tempfail/tempfail/guard/Guard" = some m.cls := findClass_of_methodNamed Bd.named
  have hnm := (name_of_methodNamed Bd.named Bd.method).1
  have hlk : meth.locks = false := BodyLoose.notSynchronized Bd
  have X0 : Stand p l e ({ frames := 1, cells := 0, slots := 0, locals := 14 } : Room) s m #[(.ref a1), (.long q2), (.long q3)] below meth c s₁ [] 0 0 := Stand.of_body Bd
  have e0 : s₁.heap = h0 := by rw [← hh, Bd.state]; rfl
  have N0 := Fr.nil n0
  show Go p e below s ({ frames := 1, cells := 0, slots := 0, locals := 14 } : Room).cells ({ frames := 1, cells := 0, slots := 0, locals := 14 } : Room).slots (Q5 Z a1 q2 q3 w_pendingLimit_a1 w_selectiveFrom_a1 w_heavyShare_a1 h0 n0) s₁ (entryFrame m #[(.ref a1), (.long q2), (.long q3)] 6)
  rw [ef_rm5 m a1 q2 q3]
  refine g_aloadN 1 X0 hx (hb hby d5_0) rfl (v := (.ref a1)) rfl rfl ?_
  refine g_lloadN 2 X0 hx (hb hby d5_1) rfl (v := q2) rfl ?_
  refine g_callV 5 X0 hx hZ (y := (⟨"com/example/tempfail/tempfail/guard/Guard", "atLimit", "(J)Z"⟩ : MethodName)) hown (hw _ (List.mem_of_getElem? (i := 33) rfl)) (hw _ (List.mem_of_getElem? (i := 34) rfl)) (hw _ (List.mem_of_getElem? (i := 36) rfl)) (hw _ (List.mem_of_getElem? (i := 35) rfl)) (hw _ (List.mem_of_getElem? (i := 8) rfl)) (hw _ (List.mem_of_getElem? (i := 37) rfl)) (by decide) e0 E_a1 (rm6 l Z a0 hw [] a1 q2 w_pendingLimit_a1 h0 n0 Z0 F_pendingLimit_a1) (by rw [hml]; rfl) [(.long q2)] [] rfl rfl (lenOf pd_1 rfl) 0 (Nat.le_of_eq rfl) (hb hby d5_2) (by decide) (by decide) (by decide) (by decide) rfl ?_
  intro v1 T1 L1 X1 hQ1
  obtain ⟨r1, rfl, hr1, N1q, e1⟩ := hQ1
  have N1 := Fr.app N0 N1q
  show Go p e below s ({ frames := 1, cells := 0, slots := 0, locals := 14 } : Room).cells ({ frames := 1, cells := 0, slots := 0, locals := 14 } : Room).slots (Q5 Z a1 q2 q3 w_pendingLimit_a1 w_selectiveFrom_a1 w_heavyShare_a1 h0 n0) T1 (mkF m 5 #[.val (.ref a1), .val (.long q2), .second, .val (.long q3), .second, .unset] [(.int r1)])
  by_cases hc5_1 : r1 = (0 : Int32)
  ·
    refine g_ifYes 14 X1 hx (hb hby d5_5)  ((if0 _ _).trans (teq hc5_1).1) (by decide) (by decide) ?_
    refine g_lloadN 15 X1 hx (hb hby d5_14) rfl (v := q2) rfl ?_
    refine g_aloadN 16 X1 hx (hb hby d5_15) rfl (v := (.ref a1)) rfl rfl ?_
    refine g_callV 19 X1 hx hZ (y := (⟨"com/example/tempfail/tempfail/guard/Guard", "selectivePending", "()J"⟩ : MethodName)) hown (hw _ (List.mem_of_getElem? (i := 38) rfl)) (hw _ (List.mem_of_getElem? (i := 39) rfl)) (hw _ (List.mem_of_getElem? (i := 41) rfl)) (hw _ (List.mem_of_getElem? (i := 40) rfl)) (hw _ (List.mem_of_getElem? (i := 8) rfl)) (hw _ (List.mem_of_getElem? (i := 42) rfl)) (by decide) e1 E_a1 (rm7 l Z a0 hw [] a1 w_pendingLimit_a1 w_selectiveFrom_a1 h0 n0 Z0 F_pendingLimit_a1 F_selectiveFrom_a1) (by rw [hml]; rfl) [] [(.long q2)] rfl rfl (lenOf pd_2 rfl) 2 (Nat.le_of_eq rfl) (hb hby d5_16) (by decide) (by decide) (by decide) (by decide) rfl ?_
    intro v3 T3 L3 X3 hQ3
    obtain ⟨r3, rfl, hr3, N3q, e3⟩ := hQ3
    have N3 := Fr.app N1 N3q
    show Go p e below s ({ frames := 1, cells := 0, slots := 0, locals := 14 } : Room).cells ({ frames := 1, cells := 0, slots := 0, locals := 14 } : Room).slots (Q5 Z a1 q2 q3 w_pendingLimit_a1 w_selectiveFrom_a1 w_heavyShare_a1 h0 n0) T3 (mkF m 19 #[.val (.ref a1), .val (.long q2), .second, .val (.long q3), .second, .unset] [(.long r3), (.long q2)])
    by_cases hc19_3 : q2 < r3
    ·
      refine g_lcmpYes 49 X3 hx (hb hby d5_19) rfl (hb hby d5_20) (tltL hc19_3).1 (by decide) (by decide) ?_
      refine g_iconst 50 X3 hx (hb hby d5_49) rfl (z := (1 : Int32)) rfl ?_
      refine g_istore 52 X3 hx (hb hby d5_50) rfl (Ls' := #[.val (.ref a1), .val (.long q2), .second, .val (.long q3), .second, .val (.int (1 : Int32))]) rfl ?_
      refine g_iload 54 X3 hx (hb hby d5_52) rfl (v := (1 : Int32)) rfl ?_
      exact g_retN X3 hx (t := .boolean) Bd.returns hlk (by simp) rfl (hb hby d5_54) (by decide) (by decide) ⟨(1 : Int32), rfl, (Or.inl ⟨r1, r3, hr1, hc5_1, hr3, hc19_3, rfl⟩), N3, e3⟩
    ·
      refine g_lcmpNo 23 X3 hx (hb hby d5_19) rfl (hb hby d5_20) (fltL hc19_3).1 rfl ?_
      refine g_lloadN 24 X3 hx (hb hby d5_23) rfl (v := q3) rfl ?_
      refine g_ldc2 27 X3 hx hZ hown (hw _ (List.mem_of_getElem? (i := 43) rfl)) (hb hby d5_24) rfl ?_
      refine g_lmul 28 X3 hx (hb hby d5_27) rfl (z := (q3 * (10000 : Int64))) rfl ?_
      refine g_lloadN 29 X3 hx (hb hby d5_28) rfl (v := q2) rfl ?_
      refine g_aloadN 30 X3 hx (hb hby d5_29) rfl (v := (.ref a1)) rfl rfl ?_
      refine g_getF 33 X3 hx hZ hown (hw _ (List.mem_of_getElem? (i := 24) rfl)) Via.refl e3 F_heavyShare_a1 (hb hby d5_30) rfl ?_
      intro T5 X5 e5
      refine g_i2l 34 X5 hx (hb hby d5_33) rfl (z := (w_heavyShare_a1.toInt64)) rfl ?_
      refine g_lmul 35 X5 hx (hb hby d5_34) rfl (z := (q2 * (w_heavyShare_a1.toInt64))) rfl ?_
      by_cases hc35_5 : (q3 * (10000 : Int64)) < (q2 * (w_heavyShare_a1.toInt64))
      ·
        refine g_lcmpNo 39 X5 hx (hb hby d5_35) rfl (hb hby d5_36) (tltL hc35_5).2.1 rfl ?_
        refine g_iconst 40 X5 hx (hb hby d5_39) rfl (z := (1 : Int32)) rfl ?_
        refine g_goto 44 X5 hx (hb hby d5_40) (by decide) (by decide) ?_
        refine g_istore 46 X5 hx (hb hby d5_44) rfl (Ls' := #[.val (.ref a1), .val (.long q2), .second, .val (.long q3), .second, .val (.int (1 : Int32))]) rfl ?_
        refine g_goto 52 X5 hx (hb hby d5_46) (by decide) (by decide) ?_
        refine g_iload 54 X5 hx (hb hby d5_52) rfl (v := (1 : Int32)) rfl ?_
        exact g_retN X5 hx (t := .boolean) Bd.returns hlk (by simp) rfl (hb hby d5_54) (by decide) (by decide) ⟨(1 : Int32), rfl, (Or.inr (Or.inl ⟨r1, r3, hr1, hc5_1, hr3, hc19_3, hc35_5, rfl⟩)), N3, e5⟩
      ·
        refine g_lcmpYes 43 X5 hx (hb hby d5_35) rfl (hb hby d5_36) (fltL hc35_5).2.1 (by decide) (by decide) ?_
        refine g_iconst 44 X5 hx (hb hby d5_43) rfl (z := (0 : Int32)) rfl ?_
        refine g_istore 46 X5 hx (hb hby d5_44) rfl (Ls' := #[.val (.ref a1), .val (.long q2), .second, .val (.long q3), .second, .val (.int (0 : Int32))]) rfl ?_
        refine g_goto 52 X5 hx (hb hby d5_46) (by decide) (by decide) ?_
        refine g_iload 54 X5 hx (hb hby d5_52) rfl (v := (0 : Int32)) rfl ?_
        exact g_retN X5 hx (t := .boolean) Bd.returns hlk (by simp) rfl (hb hby d5_54) (by decide) (by decide) ⟨(0 : Int32), rfl, (Or.inr (Or.inr (Or.inl ⟨r1, r3, hr1, hc5_1, hr3, hc19_3, hc35_5, rfl⟩))), N3, e5⟩
  ·
    refine g_ifNo 8 X1 hx (hb hby d5_5)  ((if0 _ _).trans (feq hc5_1).1) rfl ?_
    refine g_iconst 9 X1 hx (hb hby d5_8) rfl (z := (0 : Int32)) rfl ?_
    refine g_istore 11 X1 hx (hb hby d5_9) rfl (Ls' := #[.val (.ref a1), .val (.long q2), .second, .val (.long q3), .second, .val (.int (0 : Int32))]) rfl ?_
    refine g_goto 52 X1 hx (hb hby d5_11) (by decide) (by decide) ?_
    refine g_iload 54 X1 hx (hb hby d5_52) rfl (v := (0 : Int32)) rfl ?_
    exact g_retN X1 hx (t := .boolean) Bd.returns hlk (by simp) rfl (hb hby d5_54) (by decide) (by decide) ⟨(0 : Int32), rfl, (Or.inr (Or.inr (Or.inr ⟨r1, hr1, hc5_1, rfl⟩))), N1, e1⟩
theorem own_lim (z1 r2 : Int32) (hr : Rel1 (1 : Int32) z1 r2) : 1 ≤ r2.toInt ∧ r2.toInt ≤ 2147483647 := by
  have r := rng32 r2
  rcases hr with ⟨a, b⟩ | ⟨a, b⟩ <;> subst b <;> simp only [Int32.lt_iff_toInt_lt, Int32.reduceToInt] at * <;> omega
theorem own_from (p z3 z4 : Int32) (h3 : p &&& (2147483647 : Int32) = z3) (h4 : z3 % (10000 : Int32) = z4) : 0 ≤ z4.toInt ∧ z4.toInt ≤ 9999 := by
  have m := c_mask p (2147483647 : Int32) 31 (by decide) (by decide)
  rw [h3] at m
  have d := (c_irem z3 (10000 : Int32) 10000 (by decide)).1 (by omega)
  rw [h4] at d
  omega
theorem own_plus (z4 z5 : Int32) (h : 0 ≤ z4.toInt ∧ z4.toInt ≤ 9999) (h5 : z4 + (1 : Int32) = z5) : 1 ≤ z5.toInt ∧ z5.toInt ≤ 10000 := by
  have a := c_iadd z4 (1 : Int32)
  rw [h5] at a
  have r := rng32 z5
  simp only [Int32.reduceToInt] at a
  omega
theorem own_mulx (a b : Int32) (ha : 1 ≤ a.toInt ∧ a.toInt ≤ 2147483647) (hb : 1 ≤ b.toInt ∧ b.toInt ≤ 10000) : (a.toInt64 * b.toInt64).toInt = a.toInt * b.toInt ∧ 1 ≤ a.toInt * b.toInt ∧ a.toInt * b.toInt ≤ 21474836470000 := by
  have q := own_prod (a := a.toInt - 1) (b := b.toInt - 1) (A := 2147483646) (B := 9999) (by omega) (by omega) (by omega) (by omega)
  have q2 := own_prod (a := a.toInt) (b := b.toInt) (A := 2147483647) (B := 10000) (by omega) (by omega) (by omega) (by omega)
  have e : (a.toInt - 1) * (b.toInt - 1) = a.toInt * b.toInt - a.toInt - b.toInt + 1 := by
    rw [Int.sub_mul, Int.mul_sub]; omega
  have c := c_lmul a.toInt64 b.toInt64
  rw [c_i2l, c_i2l] at c
  have r := rng64 (a.toInt64 * b.toInt64)
  generalize a.toInt * b.toInt = P at *
  omega
theorem own_sel (a b : Int32) (r : Int64) (ha : 1 ≤ a.toInt ∧ a.toInt ≤ 2147483647) (hb : 1 ≤ b.toInt ∧ b.toInt ≤ 10000) (hr : r = (((((a.toInt64) * (b.toInt64)) + (10000 : Int64)) - (1 : Int64)) / (10000 : Int64))) : r.toInt = (a.toInt * b.toInt + 9999) / 10000 := by
  obtain ⟨e1, e2, e3⟩ := own_mulx a b ha hb
  generalize a.toInt64 * b.toInt64 = M at *
  generalize a.toInt * b.toInt = P at *
  have c1 := c_ladd M (10000 : Int64)
  have r1 := rng64 (M + (10000 : Int64))
  simp only [Int64.reduceToInt] at c1
  have b1 : (M + (10000 : Int64)).toInt = P + 10000 := by omega
  have c2 := c_lsub (M + (10000 : Int64)) (1 : Int64)
  have r2 := rng64 (M + (10000 : Int64) - (1 : Int64))
  simp only [Int64.reduceToInt] at c2
  have b2 : (M + (10000 : Int64) - (1 : Int64)).toInt = P + 9999 := by omega
  have d := (c_ldiv (M + (10000 : Int64) - (1 : Int64)) (10000 : Int64) 10000 (by decide) (by decide)).1 (by omega)
  rw [hr, d, b2]
theorem own_tenk (a z : Int64) (h : -1000000000000 ≤ a.toInt ∧ a.toInt ≤ 1000000000000) (hz : a * (10000 : Int64) = z) : z.toInt = a.toInt * 10000 := by
  have c := c_lmul a (10000 : Int64)
  rw [hz] at c
  have r := rng64 z
  simp only [Int64.reduceToInt] at c
  omega
theorem own_plus' (z4 z5 : Int32) (h : 0 ≤ z4.toInt ∧ z4.toInt ≤ 9999) (h5 : (1 : Int32) + z4 = z5) : 1 ≤ z5.toInt ∧ z5.toInt ≤ 10000 := own_plus z4 z5 h (by rw [← h5, Int32.add_comm])
theorem own_nz (a b : Int64) (h : a + (1 : Int64) = b) (q : 0 ≤ a.toInt) : b ≠ 0 := by
  intro e
  have c := c_ladd a (1 : Int64)
  rw [h, e] at c
  have r := rng64 a
  simp only [Int64.reduceToInt] at c
  omega
theorem own_share (n r x30 p : Int64) (a b : Int32) (hn : 0 ≤ n.toInt) (hl : n < a.toInt64) (ha : 1 ≤ a.toInt ∧ a.toInt ≤ 2147483647) (hb : 1 ≤ b.toInt ∧ b.toInt ≤ 10000) (hr : Rel7 a b r) (h30 : n * (10000 : Int64) = x30) (hp : a.toInt64 * b.toInt64 = p) : n < r ↔ x30 < p := by
  obtain ⟨e1, e2, e3⟩ := own_mulx a b ha hb
  have e4 := own_sel a b r ha hb hr
  rw [hp] at e1
  simp only [Int64.lt_iff_toInt_lt, c_i2l] at hl
  generalize a.toInt * b.toInt = P at *
  have e5 := own_tenk n x30 (by omega) h30
  simp only [Int64.lt_iff_toInt_lt]
  omega
theorem pd_3 : parseMethodDescriptor "(II)I" = some ⟨[.int, .int], some .int⟩ := by decide +kernel
theorem pd_4 : parseMethodDescriptor "(IIII)V" = some ⟨[.int, .int, .int, .int], none⟩ := by decide +kernel
theorem pd_5 : parseMethodDescriptor "(JJ)Z" = some ⟨[.long, .long], some .boolean⟩ := by decide +kernel
theorem sub0_0 (q5 : Int64) (z11 : Int64) (hz11 : q5 &&& (9223372036854775807 : Int64) = z11) : 0 ≤ z11.toInt := by
  have o0 := rng64 q5
  have o1 := rng64 (q5 &&& (9223372036854775807 : Int64))
  have o2 := c_maskL q5 (9223372036854775807 : Int64) 63 (by decide) (by decide)
  have o3 := rng64 z11
  simp only [Int32.lt_iff_toInt_lt, Int64.lt_iff_toInt_lt, Int32.le_iff_toInt_le, Int64.le_iff_toInt_le, ← Int32.toInt_inj, ← Int64.toInt_inj, Int32.reduceToInt, Int64.reduceToInt, Int32.toInt_toInt64, ne_eq] at * <;> omega
theorem sub0_1 (q5 : Int64) (z11 : Int64) (hz11 : q5 &&& (9223372036854775807 : Int64) = z11) : 0 ≤ z11.toInt := by
  have o0 := rng64 q5
  have o1 := rng64 (q5 &&& (9223372036854775807 : Int64))
  have o2 := c_maskL q5 (9223372036854775807 : Int64) 63 (by decide) (by decide)
  have o3 := rng64 z11
  simp only [Int32.lt_iff_toInt_lt, Int64.lt_iff_toInt_lt, Int32.le_iff_toInt_le, Int64.le_iff_toInt_le, ← Int32.toInt_inj, ← Int64.toInt_inj, Int32.reduceToInt, Int64.reduceToInt, Int32.toInt_toInt64, ne_eq] at * <;> omega
theorem sub0_2 (q5 : Int64) (z11 : Int64) (hz11 : q5 &&& (9223372036854775807 : Int64) = z11) : 0 ≤ z11.toInt := by
  have o0 := rng64 q5
  have o1 := rng64 (q5 &&& (9223372036854775807 : Int64))
  have o2 := c_maskL q5 (9223372036854775807 : Int64) 63 (by decide) (by decide)
  have o3 := rng64 z11
  simp only [Int32.lt_iff_toInt_lt, Int64.lt_iff_toInt_lt, Int32.le_iff_toInt_le, Int64.le_iff_toInt_le, ← Int32.toInt_inj, ← Int64.toInt_inj, Int32.reduceToInt, Int64.reduceToInt, Int32.toInt_toInt64, ne_eq] at * <;> omega
theorem leaf_0 (p1 : Int32) (p2 : Int32) (p3 : Int32) (p4 : Int32) (q5 : Int64) (q6 : Int64) (z1 : Int32) (r2 : Int32) (z3 : Int32) (z4 : Int32) (z5 : Int32) (z6 : Int32) (z7 : Int32) (z8 : Int32) (z9 : Int32) (r10 : Int32) (z11 : Int64) (z12 : Int64) (z13 : Int64) (z15 : Int64) (r24 : Int32) (z25 : Int64) (z30 : Int64) (z31 : Int64) (z32 : Int64) (z33 : Int64) (z35 : Int32) (z37 : Int64) (z38 : Int64) (z39 : Int64) (z41 : Int32) (z45 : Int32) (z48 : Int32) (hz1 : p1 &&& (2147483647 : Int32) = z1) (hr2 : Rel1 (1 : Int32) z1 r2) (hz3 : p2 &&& (2147483647 : Int32) = z3) (hz4 : z3 % (10000 : Int32) = z4) (hz5 : (1 : Int32) + z4 = z5) (hz6 : p3 &&& (2147483647 : Int32) = z6) (hz7 : z6 % (10000 : Int32) = z7) (hz8 : (1 : Int32) + z7 = z8) (hz9 : p4 &&& (2147483647 : Int32) = z9) (hr10 : Rel1 (1 : Int32) z9 r10) (hz11 : q5 &&& (9223372036854775807 : Int64) = z11) (hz12 : q6 &&& (9223372036854775807 : Int64) = z12) (hz13 : z11 + (1 : Int64) = z13) (hz15 : z12 % z13 = z15) (hr24 : Rel5 z11 z15 r2 z5 z8 r24) (hz25 : r2.toInt64 = z25) (hc98_25 : z11 < z25) (hz30 : z11 * (10000 : Int64) = z30) (hz31 : r2.toInt64 = z31) (hz32 : z5.toInt64 = z32) (hz33 : z31 * z32 = z33) (hj36 : (z30 < z33 ∧ z35 = (1 : Int32)) ∨ (¬ (z30 < z33) ∧ z35 = (0 : Int32))) (hz37 : z15 * (10000 : Int64) = z37) (hz38 : z8.toInt64 = z38) (hz39 : z11 * z38 = z39) (hj42 : (z37 < z39 ∧ z41 = (1 : Int32)) ∨ (¬ (z37 < z39) ∧ z41 = (0 : Int32))) (hj46 : (z35 = (0 : Int32) ∧ z41 = (0 : Int32) ∧ z45 = (0 : Int32)) ∨ (z35 = (0 : Int32) ∧ ¬ (z41 = (0 : Int32)) ∧ z45 = (1 : Int32)) ∨ (¬ (z35 = (0 : Int32)) ∧ z45 = (1 : Int32))) (hj49 : (r24 = z45 ∧ z48 = (1 : Int32)) ∨ (¬ (r24 = z45) ∧ z48 = (0 : Int32))) : z48 = 1 := by
  subst hz25 hz31 hz32 hz38 hz37 hz39
  have k : r24 = z45 := by
    rcases hr24 with ⟨a, b, c, d, e, f, g⟩ | ⟨a, b, c, d, e, f, g, h⟩ | ⟨a, b, c, d, e, f, g, h⟩ | ⟨a, c, d, _⟩
    · have s := (own_share z11 b z30 z33 r2 z5 (sub0_1 q5 z11 hz11) hc98_25 (own_lim z1 r2 hr2) (own_plus' z4 z5 (own_from p2 z3 z4 hz3 hz4) hz5) e hz30 hz33).mp f
      rcases hj36 with ⟨_, x⟩ | ⟨x, _⟩
      · rcases hj46 with ⟨y, _⟩ | ⟨y, _⟩ | ⟨_, y⟩
        · rw [x] at y; exact absurd y (by decide)
        · rw [x] at y; exact absurd y (by decide)
        · rw [g, y]
      · exact absurd s x
    · have s := mt (own_share z11 b z30 z33 r2 z5 (sub0_1 q5 z11 hz11) hc98_25 (own_lim z1 r2 hr2) (own_plus' z4 z5 (own_from p2 z3 z4 hz3 hz4) hz5) e hz30 hz33).mpr f
      rcases hj42 with ⟨_, x⟩ | ⟨x, _⟩
      · rcases hj46 with ⟨_, y, _⟩ | ⟨_, _, y⟩ | ⟨_, y⟩
        · rw [x] at y; exact absurd y (by decide)
        · rw [h, y]
        · rw [h, y]
      · exact absurd g x
    · have s := mt (own_share z11 b z30 z33 r2 z5 (sub0_1 q5 z11 hz11) hc98_25 (own_lim z1 r2 hr2) (own_plus' z4 z5 (own_from p2 z3 z4 hz3 hz4) hz5) e hz30 hz33).mpr f
      rcases hj36 with ⟨x, _⟩ | ⟨_, x⟩
      · exact absurd x s
      · rcases hj42 with ⟨y, _⟩ | ⟨_, y⟩
        · exact absurd y g
        · rcases hj46 with ⟨_, _, t⟩ | ⟨_, t, _⟩ | ⟨t, _⟩
          · rw [h, t]
          · exact absurd y t
          · exact absurd x t
    · rcases c with ⟨_, c⟩ | ⟨c, _⟩
      · exact absurd c d
      · exact absurd hc98_25 c
  rcases hj49 with ⟨_, b⟩ | ⟨a, _⟩
  · exact b
  · exact absurd k a
theorem leaf_1 (p1 : Int32) (p2 : Int32) (p3 : Int32) (p4 : Int32) (q5 : Int64) (q6 : Int64) (z1 : Int32) (r2 : Int32) (z3 : Int32) (z4 : Int32) (z5 : Int32) (z6 : Int32) (z7 : Int32) (z8 : Int32) (z9 : Int32) (r10 : Int32) (z11 : Int64) (z12 : Int64) (z13 : Int64) (z15 : Int64) (r24 : Int32) (z25 : Int64) (z51 : Int32) (hz1 : p1 &&& (2147483647 : Int32) = z1) (hr2 : Rel1 (1 : Int32) z1 r2) (hz3 : p2 &&& (2147483647 : Int32) = z3) (hz4 : z3 % (10000 : Int32) = z4) (hz5 : (1 : Int32) + z4 = z5) (hz6 : p3 &&& (2147483647 : Int32) = z6) (hz7 : z6 % (10000 : Int32) = z7) (hz8 : (1 : Int32) + z7 = z8) (hz9 : p4 &&& (2147483647 : Int32) = z9) (hr10 : Rel1 (1 : Int32) z9 r10) (hz11 : q5 &&& (9223372036854775807 : Int64) = z11) (hz12 : q6 &&& (9223372036854775807 : Int64) = z12) (hz13 : z11 + (1 : Int64) = z13) (hz15 : z12 % z13 = z15) (hr24 : Rel5 z11 z15 r2 z5 z8 r24) (hz25 : r2.toInt64 = z25) (hc98_25 : ¬ (z11 < z25)) (hj52 : (r24 = (0 : Int32) ∧ z51 = (1 : Int32)) ∨ (¬ (r24 = (0 : Int32)) ∧ z51 = (0 : Int32))) : z51 = 1 := by
  subst hz25
  have k : r24 = (0 : Int32) := by
    rcases hr24 with ⟨a, b, c, d, _⟩ | ⟨a, b, c, d, _⟩ | ⟨a, b, c, d, _⟩ | ⟨a, _, _, c⟩
    · rcases c with ⟨c, _⟩ | ⟨_, c⟩
      · exact absurd c hc98_25
      · rw [d] at c; exact absurd c (by decide)
    · rcases c with ⟨c, _⟩ | ⟨_, c⟩
      · exact absurd c hc98_25
      · rw [d] at c; exact absurd c (by decide)
    · rcases c with ⟨c, _⟩ | ⟨_, c⟩
      · exact absurd c hc98_25
      · rw [d] at c; exact absurd c (by decide)
    · exact c
  rcases hj52 with ⟨_, b⟩ | ⟨a, _⟩
  · exact b
  · exact absurd k a
def Q0 (Z : State) (p1 : Int32) (p2 : Int32) (p3 : Int32) (p4 : Int32) (q5 : Int64) (q6 : Int64) (h0 : Heap) (n0 : Nat) (v : Option Value) (h : Heap) (L : List Loc) : Prop := v = some (.int (1 : Int32)) ∧ Fr n0 L
theorem pn_2 : plainName "com/example/tempfail/tempfail/guard/GuardAdmitsPinLaw" = true := by first | (simp [plainName, overriddenIn]; done) | decide +kernel
theorem ef_rm0 (m : MethodId) (p1 : Int32) (p2 : Int32) (p3 : Int32) (p4 : Int32) (q5 : Int64) (q6 : Int64) : entryFrame m #[(.int p1), (.int p2), (.int p3), (.int p4), (.long q5), (.long q6)] maxLocals = mkF m 0 #[.val (.int p1), .val (.int p2), .val (.int p3), .val (.int p4), .val (.long q5), .second, .val (.long q6), .second, .unset, .unset, .unset, .unset, .unset, .unset, .unset, .unset, .unset, .unset, .unset, .unset, .unset] [] := by first | (simp [entryFrame, mkF, argsToLocals, Value.category, maxLocals]; done) | rfl
set_option maxRecDepth 65536 in
set_option maxHeartbeats 40000000 in
theorem rm0 (l : Launch) (Z : State) (a0 : Array Value) (hw : ∀ d ∈ tables_1, d.before a0 Z = true) (ws : List Jvm.Cond) (p1 : Int32) (p2 : Int32) (p3 : Int32) (p4 : Int32) (q5 : Int64) (q6 : Int64) (h0 : Heap) (n0 : Nat) (Z0 : n0 ≤ h0.size)  :
    MetFree l x (head1 (Jvm.Cond.code x code maxLocals ret :: ws) room_1) (fun a U => a = #[(.int p1), (.int p2), (.int p3), (.int p4), (.long q5), (.long q6)] ∧ Z.Warmed39 U.vm ∧ U.heap = h0) (fun _ _ _ _ _ => True) (fun _ U o U' => ∃ v L, o = .returned v ∧ (Q0 Z p1 p2 p3 p4 q5 q6 h0 n0) v U'.heap L ∧ FrameEnd U o U' L 16 128) := by
  refine MetFree.of_bodySF (plainFor_of_name pn_2) hisR ?_
  intro p e s m args below meth c s₁ Bd hml0 hP hK
  obtain ⟨rfl, hZ, hh⟩ := hP
  have hx := Bd.exec
  have hby := Bd.bytes
  have hml : c.maxLocals = 21 := hml0
  have hown : s.vm.findClass "com/example/tempfail/tempfail/guard/GuardAdmitsPinLaw" = some m.cls := findClass_of_methodNamed Bd.named
  have hnm := (name_of_methodNamed Bd.named Bd.method).1
  have hlk : meth.locks = false := BodyLoose.notSynchronized Bd
  have X0 : Stand p l e room_1 s m #[(.int p1), (.int p2), (.int p3), (.int p4), (.long q5), (.long q6)] below meth c s₁ [] 0 0 := Stand.of_body Bd
  have e0 : s₁.heap = h0 := by rw [← hh, Bd.state]; rfl
  have N0 := Fr.nil n0
  show Go p e below s 16 128 (Q0 Z p1 p2 p3 p4 q5 q6 h0 n0) s₁ (entryFrame m #[(.int p1), (.int p2), (.int p3), (.int p4), (.long q5), (.long q6)] maxLocals)
  rw [ef_rm0 m p1 p2 p3 p4 q5 q6]
  refine g_iconst 1 X0 hx (hb hby at_0) rfl (z := (1 : Int32)) rfl ?_
  refine g_iloadN 2 X0 hx (hb hby at_1) rfl (v := p1) rfl ?_
  refine g_ldc 4 X0 hx hZ hown (hw _ (List.mem_of_getElem? (i := 0) rfl)) (hb hby at_2) rfl ?_
  obtain ⟨z1, hz1⟩ : ∃ z : Int32, p1 &&& (2147483647 : Int32) = z := ⟨_, rfl⟩
  refine g_iand 5 X0 hx (hb hby at_4) rfl (z := z1) hz1 ?_
  refine g_callS 8 X0 hx hZ (y := (⟨"java/lang/Math", "max", "(II)I"⟩ : MethodName)) hown (hw _ (List.mem_of_getElem? (i := 1) rfl)) (hw _ (List.mem_of_getElem? (i := 2) rfl)) (hw _ (List.mem_of_getElem? (i := 3) rfl)) (hw _ (List.mem_of_getElem? (i := 4) rfl)) (by decide) e0 (rm1 l Z a0 hw [] (1 : Int32) z1  h0 n0 Z0 ) (by rw [hml]; rfl) [(.int (1 : Int32)), (.int z1)] [] rfl rfl (lenOf pd_3 rfl) 0 (Nat.le_of_eq rfl) (hb hby at_5) (by decide) (by decide) (by decide) (by decide) rfl ?_
  intro v2 T2 L2 X2 hQ2
  obtain ⟨r2, rfl, hr2, N2q, e2⟩ := hQ2
  have N2 := Fr.app N0 N2q
  show Go p e below s 16 128 (Q0 Z p1 p2 p3 p4 q5 q6 h0 n0) T2 (mkF m 8 #[.val (.int p1), .val (.int p2), .val (.int p3), .val (.int p4), .val (.long q5), .second, .val (.long q6), .second, .unset, .unset, .unset, .unset, .unset, .unset, .unset, .unset, .unset, .unset, .unset, .unset, .unset] [(.int r2)])
  refine g_istore 10 X2 hx (hb hby at_8) rfl (Ls' := #[.val (.int p1), .val (.int p2), .val (.int p3), .val (.int p4), .val (.long q5), .second, .val (.long q6), .second, .val (.int r2), .unset, .unset, .unset, .unset, .unset, .unset, .unset, .unset, .unset, .unset, .unset, .unset]) rfl ?_
  refine g_iconst 11 X2 hx (hb hby at_10) rfl (z := (1 : Int32)) rfl ?_
  refine g_iloadN 12 X2 hx (hb hby at_11) rfl (v := p2) rfl ?_
  refine g_ldc 14 X2 hx hZ hown (hw _ (List.mem_of_getElem? (i := 0) rfl)) (hb hby at_12) rfl ?_
  obtain ⟨z3, hz3⟩ : ∃ z : Int32, p2 &&& (2147483647 : Int32) = z := ⟨_, rfl⟩
  refine g_iand 15 X2 hx (hb hby at_14) rfl (z := z3) hz3 ?_
  refine g_sipush 18 X2 hx (hb hby at_15) rfl (z := (10000 : Int32)) rfl ?_
  obtain ⟨z4, hz4⟩ : ∃ z : Int32, z3 % (10000 : Int32) = z := ⟨_, rfl⟩
  refine g_irem 19 X2 hx (hb hby at_18) rfl (by decide) (z := z4) hz4 ?_
  obtain ⟨z5, hz5⟩ : ∃ z : Int32, (1 : Int32) + z4 = z := ⟨_, rfl⟩
  refine g_iadd 20 X2 hx (hb hby at_19) rfl (z := z5) hz5 ?_
  refine g_istore 22 X2 hx (hb hby at_20) rfl (Ls' := #[.val (.int p1), .val (.int p2), .val (.int p3), .val (.int p4), .val (.long q5), .second, .val (.long q6), .second, .val (.int r2), .val (.int z5), .unset, .unset, .unset, .unset, .unset, .unset, .unset, .unset, .unset, .unset, .unset]) rfl ?_
  refine g_iconst 23 X2 hx (hb hby at_22) rfl (z := (1 : Int32)) rfl ?_
  refine g_iloadN 24 X2 hx (hb hby at_23) rfl (v := p3) rfl ?_
  refine g_ldc 26 X2 hx hZ hown (hw _ (List.mem_of_getElem? (i := 0) rfl)) (hb hby at_24) rfl ?_
  obtain ⟨z6, hz6⟩ : ∃ z : Int32, p3 &&& (2147483647 : Int32) = z := ⟨_, rfl⟩
  refine g_iand 27 X2 hx (hb hby at_26) rfl (z := z6) hz6 ?_
  refine g_sipush 30 X2 hx (hb hby at_27) rfl (z := (10000 : Int32)) rfl ?_
  obtain ⟨z7, hz7⟩ : ∃ z : Int32, z6 % (10000 : Int32) = z := ⟨_, rfl⟩
  refine g_irem 31 X2 hx (hb hby at_30) rfl (by decide) (z := z7) hz7 ?_
  obtain ⟨z8, hz8⟩ : ∃ z : Int32, (1 : Int32) + z7 = z := ⟨_, rfl⟩
  refine g_iadd 32 X2 hx (hb hby at_31) rfl (z := z8) hz8 ?_
  refine g_istore 34 X2 hx (hb hby at_32) rfl (Ls' := #[.val (.int p1), .val (.int p2), .val (.int p3), .val (.int p4), .val (.long q5), .second, .val (.long q6), .second, .val (.int r2), .val (.int z5), .val (.int z8), .unset, .unset, .unset, .unset, .unset, .unset, .unset, .unset, .unset, .unset]) rfl ?_
  refine g_iconst 35 X2 hx (hb hby at_34) rfl (z := (1 : Int32)) rfl ?_
  refine g_iloadN 36 X2 hx (hb hby at_35) rfl (v := p4) rfl ?_
  refine g_ldc 38 X2 hx hZ hown (hw _ (List.mem_of_getElem? (i := 0) rfl)) (hb hby at_36) rfl ?_
  obtain ⟨z9, hz9⟩ : ∃ z : Int32, p4 &&& (2147483647 : Int32) = z := ⟨_, rfl⟩
  refine g_iand 39 X2 hx (hb hby at_38) rfl (z := z9) hz9 ?_
  refine g_callS 42 X2 hx hZ (y := (⟨"java/lang/Math", "max", "(II)I"⟩ : MethodName)) hown (hw _ (List.mem_of_getElem? (i := 1) rfl)) (hw _ (List.mem_of_getElem? (i := 2) rfl)) (hw _ (List.mem_of_getElem? (i := 3) rfl)) (hw _ (List.mem_of_getElem? (i := 4) rfl)) (by decide) e2 (rm1 l Z a0 hw [] (1 : Int32) z9  h0 n0 Z0 ) (by rw [hml]; rfl) [(.int (1 : Int32)), (.int z9)] [] rfl rfl (lenOf pd_3 rfl) 0 (Nat.le_of_eq rfl) (hb hby at_39) (by decide) (by decide) (by decide) (by decide) rfl ?_
  intro v10 T10 L10 X10 hQ10
  obtain ⟨r10, rfl, hr10, N10q, e10⟩ := hQ10
  have N10 := Fr.app N2 N10q
  show Go p e below s 16 128 (Q0 Z p1 p2 p3 p4 q5 q6 h0 n0) T10 (mkF m 42 #[.val (.int p1), .val (.int p2), .val (.int p3), .val (.int p4), .val (.long q5), .second, .val (.long q6), .second, .val (.int r2), .val (.int z5), .val (.int z8), .unset, .unset, .unset, .unset, .unset, .unset, .unset, .unset, .unset, .unset] [(.int r10)])
  refine g_istore 44 X10 hx (hb hby at_42) rfl (Ls' := #[.val (.int p1), .val (.int p2), .val (.int p3), .val (.int p4), .val (.long q5), .second, .val (.long q6), .second, .val (.int r2), .val (.int z5), .val (.int z8), .val (.int r10), .unset, .unset, .unset, .unset, .unset, .unset, .unset, .unset, .unset]) rfl ?_
  refine g_lload 46 X10 hx (hb hby at_44) rfl (v := q5) rfl ?_
  refine g_ldc2 49 X10 hx hZ hown (hw _ (List.mem_of_getElem? (i := 5) rfl)) (hb hby at_46) rfl ?_
  obtain ⟨z11, hz11⟩ : ∃ z : Int64, q5 &&& (9223372036854775807 : Int64) = z := ⟨_, rfl⟩
  refine g_land 50 X10 hx (hb hby at_49) rfl (z := z11) hz11 ?_
  refine g_lstore 52 X10 hx (hb hby at_50) rfl (Ls' := #[.val (.int p1), .val (.int p2), .val (.int p3), .val (.int p4), .val (.long q5), .second, .val (.long q6), .second, .val (.int r2), .val (.int z5), .val (.int z8), .val (.int r10), .val (.long z11), .second, .unset, .unset, .unset, .unset, .unset, .unset, .unset]) rfl ?_
  refine g_lload 54 X10 hx (hb hby at_52) rfl (v := q6) rfl ?_
  refine g_ldc2 57 X10 hx hZ hown (hw _ (List.mem_of_getElem? (i := 5) rfl)) (hb hby at_54) rfl ?_
  obtain ⟨z12, hz12⟩ : ∃ z : Int64, q6 &&& (9223372036854775807 : Int64) = z := ⟨_, rfl⟩
  refine g_land 58 X10 hx (hb hby at_57) rfl (z := z12) hz12 ?_
  refine g_lload 60 X10 hx (hb hby at_58) rfl (v := z11) rfl ?_
  refine g_lconst 61 X10 hx (hb hby at_60) rfl (z := (1 : Int64)) rfl ?_
  obtain ⟨z13, hz13⟩ : ∃ z : Int64, z11 + (1 : Int64) = z := ⟨_, rfl⟩
  refine g_ladd 62 X10 hx (hb hby at_61) rfl (z := z13) hz13 ?_
  have hq62_nz_13 : z13 ≠ 0 := own_nz z11 z13 hz13 (sub0_0 q5 z11 hz11)
  obtain ⟨z15, hz15⟩ : ∃ z : Int64, z12 % z13 = z := ⟨_, rfl⟩
  refine g_lrem 63 X10 hx (hb hby at_62) rfl hq62_nz_13 (z := z15) hz15 ?_
  refine g_lstore 65 X10 hx (hb hby at_63) rfl (Ls' := #[.val (.int p1), .val (.int p2), .val (.int p3), .val (.int p4), .val (.long q5), .second, .val (.long q6), .second, .val (.int r2), .val (.int z5), .val (.int z8), .val (.int r10), .val (.long z11), .second, .val (.long z15), .second, .unset, .unset, .unset, .unset, .unset]) rfl ?_
  refine g_newO 68 X10 hx hZ hown (hw _ (List.mem_of_getElem? (i := 6) rfl)) (hw _ (List.mem_of_getElem? (i := 7) rfl)) (hw _ (List.mem_of_getElem? (i := 8) rfl)) e10 (hb hby at_65) (by decide) (by decide) rfl ?_
  intro T16 h16 b16 X16 e16 E16 g16 A16 D16
  have Zs17 : n0 ≤ h16.size := (Nat.le_trans Z0 E16.1)
  have g_b16 : n0 ≤ b16 := Nat.le_trans Z0 (Nat.le_of_eq g16.symm)
  have f18 : Fld Z h16 b16 "com/example/tempfail/tempfail/guard/Guard" "pendingLimit" "I" (.int (0 : Int32)) := D16 (Or.inr (hw _ (List.mem_of_getElem? (i := 21) rfl))) (ty := .int) (by decide)
  have f19 : Fld Z h16 b16 "com/example/tempfail/tempfail/guard/Guard" "selectiveFrom" "I" (.int (0 : Int32)) := D16 (Or.inr (hw _ (List.mem_of_getElem? (i := 23) rfl))) (ty := .int) (by decide)
  have f20 : Fld Z h16 b16 "com/example/tempfail/tempfail/guard/Guard" "heavyShare" "I" (.int (0 : Int32)) := D16 (Or.inr (hw _ (List.mem_of_getElem? (i := 25) rfl))) (ty := .int) (by decide)
  have f21 : Fld Z h16 b16 "com/example/tempfail/tempfail/guard/Guard" "domains" "I" (.int (0 : Int32)) := D16 (Or.inr (hw _ (List.mem_of_getElem? (i := 27) rfl))) (ty := .int) (by decide)
  refine g_dup 69 X16 hx (hb hby at_68) rfl rfl ?_
  refine g_iload 71 X16 hx (hb hby at_69) rfl (v := r2) rfl ?_
  refine g_iload 73 X16 hx (hb hby at_71) rfl (v := z5) rfl ?_
  refine g_iload 75 X16 hx (hb hby at_73) rfl (v := z8) rfl ?_
  refine g_iload 77 X16 hx (hb hby at_75) rfl (v := r10) rfl ?_
  refine g_callI 80 X16 hx hZ (y := (⟨"com/example/tempfail/tempfail/guard/Guard", "<init>", "(IIII)V"⟩ : MethodName)) rfl hown (hw _ (List.mem_of_getElem? (i := 9) rfl)) (hw _ (List.mem_of_getElem? (i := 10) rfl)) (hw _ (List.mem_of_getElem? (i := 8) rfl)) (hw _ (List.mem_of_getElem? (i := 11) rfl)) (by decide) e16 (rm2 l Z a0 hw [] b16 r2 z5 z8 r10 h16 n0 Zs17 A16 f18 f19 f20 f21 g_b16) (by rw [hml]; rfl) b16 [(.int r2), (.int z5), (.int z8), (.int r10)] [(.ref b16)] rfl rfl (lenOf pd_4 rfl) 1 (Nat.le_of_eq rfl) (hb hby at_77) (by decide) (by decide) (by decide) (by decide) rfl ?_
  intro v22 T22 L22 X22 hQ22
  obtain ⟨rfl, N22q, K22, E22, F22_0, F22_1, F22_2, F22_3⟩ := hQ22
  have N22 := Fr.app N10 N22q
  have Zs23 : n0 ≤ T22.heap.size := (Nat.le_trans Zs17 K22.1)
  show Go p e below s 16 128 (Q0 Z p1 p2 p3 p4 q5 q6 h0 n0) T22 (mkF m 80 #[.val (.int p1), .val (.int p2), .val (.int p3), .val (.int p4), .val (.long q5), .second, .val (.long q6), .second, .val (.int r2), .val (.int z5), .val (.int z8), .val (.int r10), .val (.long z11), .second, .val (.long z15), .second, .unset, .unset, .unset, .unset, .unset] [(.ref b16)])
  refine g_astore 82 X22 hx (hb hby at_80) rfl (Ls' := #[.val (.int p1), .val (.int p2), .val (.int p3), .val (.int p4), .val (.long q5), .second, .val (.long q6), .second, .val (.int r2), .val (.int z5), .val (.int z8), .val (.int r10), .val (.long z11), .second, .val (.long z15), .second, .val (.ref b16), .unset, .unset, .unset, .unset]) rfl rfl ?_
  refine g_aload 84 X22 hx (hb hby at_82) rfl (v := (.ref b16)) rfl rfl ?_
  refine g_lload 86 X22 hx (hb hby at_84) rfl (v := z11) rfl ?_
  refine g_lload 88 X22 hx (hb hby at_86) rfl (v := z15) rfl ?_
  refine g_callV 91 X22 hx hZ (y := (⟨"com/example/tempfail/tempfail/guard/Guard", "admits", "(JJ)Z"⟩ : MethodName)) hown (hw _ (List.mem_of_getElem? (i := 28) rfl)) (hw _ (List.mem_of_getElem? (i := 29) rfl)) (hw _ (List.mem_of_getElem? (i := 31) rfl)) (hw _ (List.mem_of_getElem? (i := 30) rfl)) (hw _ (List.mem_of_getElem? (i := 8) rfl)) (hw _ (List.mem_of_getElem? (i := 32) rfl)) (by decide) rfl E22 (rm5 l Z a0 hw [] b16 z11 z15 r2 z5 z8 T22.heap n0 Zs23 F22_0 F22_1 F22_2 E22) (by rw [hml]; rfl) [(.long z11), (.long z15)] [] rfl rfl (lenOf pd_5 rfl) 0 (Nat.le_of_eq rfl) (hb hby at_88) (by decide) (by decide) (by decide) (by decide) rfl ?_
  intro v24 T24 L24 X24 hQ24
  obtain ⟨r24, rfl, hr24, N24q, e24⟩ := hQ24
  have N24 := Fr.app N22 N24q
  show Go p e below s 16 128 (Q0 Z p1 p2 p3 p4 q5 q6 h0 n0) T24 (mkF m 91 #[.val (.int p1), .val (.int p2), .val (.int p3), .val (.int p4), .val (.long q5), .second, .val (.long q6), .second, .val (.int r2), .val (.int z5), .val (.int z8), .val (.int r10), .val (.long z11), .second, .val (.long z15), .second, .val (.ref b16), .unset, .unset, .unset, .unset] [(.int r24)])
  refine g_istore 93 X24 hx (hb hby at_91) rfl (Ls' := #[.val (.int p1), .val (.int p2), .val (.int p3), .val (.int p4), .val (.long q5), .second, .val (.long q6), .second, .val (.int r2), .val (.int z5), .val (.int z8), .val (.int r10), .val (.long z11), .second, .val (.long z15), .second, .val (.ref b16), .val (.int r24), .unset, .unset, .unset]) rfl ?_
  refine g_lload 95 X24 hx (hb hby at_93) rfl (v := z11) rfl ?_
  refine g_iload 97 X24 hx (hb hby at_95) rfl (v := r2) rfl ?_
  obtain ⟨z25, hz25⟩ : ∃ z : Int64, r2.toInt64 = z := ⟨_, rfl⟩
  refine g_i2l 98 X24 hx (hb hby at_97) rfl (z := z25) hz25 ?_
  by_cases hc98_25 : z11 < z25
  ·
    refine g_lcmpYes 108 X24 hx (hb hby at_98) rfl (hb hby at_99) (tltL hc98_25).1 (by decide) (by decide) ?_
    refine g_lload 110 X24 hx (hb hby at_108) rfl (v := z11) rfl ?_
    refine g_ldc2 113 X24 hx hZ hown (hw _ (List.mem_of_getElem? (i := 44) rfl)) (hb hby at_110) rfl ?_
    obtain ⟨z30, hz30⟩ : ∃ z : Int64, z11 * (10000 : Int64) = z := ⟨_, rfl⟩
    refine g_lmul 114 X24 hx (hb hby at_113) rfl (z := z30) hz30 ?_
    refine g_iload 116 X24 hx (hb hby at_114) rfl (v := r2) rfl ?_
    obtain ⟨z31, hz31⟩ : ∃ z : Int64, r2.toInt64 = z := ⟨_, rfl⟩
    refine g_i2l 117 X24 hx (hb hby at_116) rfl (z := z31) hz31 ?_
    refine g_iload 119 X24 hx (hb hby at_117) rfl (v := z5) rfl ?_
    obtain ⟨z32, hz32⟩ : ∃ z : Int64, z5.toInt64 = z := ⟨_, rfl⟩
    refine g_i2l 120 X24 hx (hb hby at_119) rfl (z := z32) hz32 ?_
    obtain ⟨z33, hz33⟩ : ∃ z : Int64, z31 * z32 = z := ⟨_, rfl⟩
    refine g_lmul 121 X24 hx (hb hby at_120) rfl (z := z33) hz33 ?_
    suffices Jhj36 : ∀ (z35 : Int32), ((z30 < z33 ∧ z35 = (1 : Int32)) ∨ (¬ (z30 < z33) ∧ z35 = (0 : Int32))) → Go p e below s 16 128 (Q0 Z p1 p2 p3 p4 q5 q6 h0 n0) T24 (mkF m 130 #[.val (.int p1), .val (.int p2), .val (.int p3), .val (.int p4), .val (.long q5), .second, .val (.long q6), .second, .val (.int r2), .val (.int z5), .val (.int z8), .val (.int r10), .val (.long z11), .second, .val (.long z15), .second, .val (.ref b16), .val (.int r24), .unset, .unset, .unset] [(.int z35)]) by
      by_cases hc121_33 : z30 < z33
      ·
        refine g_lcmpNo 125 X24 hx (hb hby at_121) rfl (hb hby at_122) (tltL hc121_33).2.1 rfl ?_
        refine g_iconst 126 X24 hx (hb hby at_125) rfl (z := (1 : Int32)) rfl ?_
        refine g_goto 130 X24 hx (hb hby at_126) (by decide) (by decide) ?_
        exact Jhj36 (1 : Int32) (Or.inl ⟨hc121_33, rfl⟩)
      ·
        refine g_lcmpYes 129 X24 hx (hb hby at_121) rfl (hb hby at_122) (fltL hc121_33).2.1 (by decide) (by decide) ?_
        refine g_iconst 130 X24 hx (hb hby at_129) rfl (z := (0 : Int32)) rfl ?_
        exact Jhj36 (0 : Int32) (Or.inr (⟨hc121_33, rfl⟩))
    intro z35 hj36
    refine g_istore 132 X24 hx (hb hby at_130) rfl (Ls' := #[.val (.int p1), .val (.int p2), .val (.int p3), .val (.int p4), .val (.long q5), .second, .val (.long q6), .second, .val (.int r2), .val (.int z5), .val (.int z8), .val (.int r10), .val (.long z11), .second, .val (.long z15), .second, .val (.ref b16), .val (.int r24), .unset, .val (.int z35), .unset]) rfl ?_
    refine g_lload 134 X24 hx (hb hby at_132) rfl (v := z15) rfl ?_
    refine g_ldc2 137 X24 hx hZ hown (hw _ (List.mem_of_getElem? (i := 44) rfl)) (hb hby at_134) rfl ?_
    obtain ⟨z37, hz37⟩ : ∃ z : Int64, z15 * (10000 : Int64) = z := ⟨_, rfl⟩
    refine g_lmul 138 X24 hx (hb hby at_137) rfl (z := z37) hz37 ?_
    refine g_lload 140 X24 hx (hb hby at_138) rfl (v := z11) rfl ?_
    refine g_iload 142 X24 hx (hb hby at_140) rfl (v := z8) rfl ?_
    obtain ⟨z38, hz38⟩ : ∃ z : Int64, z8.toInt64 = z := ⟨_, rfl⟩
    refine g_i2l 143 X24 hx (hb hby at_142) rfl (z := z38) hz38 ?_
    obtain ⟨z39, hz39⟩ : ∃ z : Int64, z11 * z38 = z := ⟨_, rfl⟩
    refine g_lmul 144 X24 hx (hb hby at_143) rfl (z := z39) hz39 ?_
    suffices Jhj42 : ∀ (z41 : Int32), ((z37 < z39 ∧ z41 = (1 : Int32)) ∨ (¬ (z37 < z39) ∧ z41 = (0 : Int32))) → Go p e below s 16 128 (Q0 Z p1 p2 p3 p4 q5 q6 h0 n0) T24 (mkF m 153 #[.val (.int p1), .val (.int p2), .val (.int p3), .val (.int p4), .val (.long q5), .second, .val (.long q6), .second, .val (.int r2), .val (.int z5), .val (.int z8), .val (.int r10), .val (.long z11), .second, .val (.long z15), .second, .val (.ref b16), .val (.int r24), .unset, .val (.int z35), .unset] [(.int z41)]) by
      by_cases hc144_39 : z37 < z39
      ·
        refine g_lcmpNo 148 X24 hx (hb hby at_144) rfl (hb hby at_145) (tltL hc144_39).2.1 rfl ?_
        refine g_iconst 149 X24 hx (hb hby at_148) rfl (z := (1 : Int32)) rfl ?_
        refine g_goto 153 X24 hx (hb hby at_149) (by decide) (by decide) ?_
        exact Jhj42 (1 : Int32) (Or.inl ⟨hc144_39, rfl⟩)
      ·
        refine g_lcmpYes 152 X24 hx (hb hby at_144) rfl (hb hby at_145) (fltL hc144_39).2.1 (by decide) (by decide) ?_
        refine g_iconst 153 X24 hx (hb hby at_152) rfl (z := (0 : Int32)) rfl ?_
        exact Jhj42 (0 : Int32) (Or.inr (⟨hc144_39, rfl⟩))
    intro z41 hj42
    refine g_istore 155 X24 hx (hb hby at_153) rfl (Ls' := #[.val (.int p1), .val (.int p2), .val (.int p3), .val (.int p4), .val (.long q5), .second, .val (.long q6), .second, .val (.int r2), .val (.int z5), .val (.int z8), .val (.int r10), .val (.long z11), .second, .val (.long z15), .second, .val (.ref b16), .val (.int r24), .unset, .val (.int z35), .val (.int z41)]) rfl ?_
    refine g_iload 157 X24 hx (hb hby at_155) rfl (v := z35) rfl ?_
    suffices Jhj46 : ∀ (z45 : Int32), ((z35 = (0 : Int32) ∧ z41 = (0 : Int32) ∧ z45 = (0 : Int32)) ∨ (z35 = (0 : Int32) ∧ ¬ (z41 = (0 : Int32)) ∧ z45 = (1 : Int32)) ∨ (¬ (z35 = (0 : Int32)) ∧ z45 = (1 : Int32))) → Go p e below s 16 128 (Q0 Z p1 p2 p3 p4 q5 q6 h0 n0) T24 (mkF m 170 #[.val (.int p1), .val (.int p2), .val (.int p3), .val (.int p4), .val (.long q5), .second, .val (.long q6), .second, .val (.int r2), .val (.int z5), .val (.int z8), .val (.int r10), .val (.long z11), .second, .val (.long z15), .second, .val (.ref b16), .val (.int r24), .unset, .val (.int z35), .val (.int z41)] [(.int z45)]) by
      by_cases hc157_42 : z35 = (0 : Int32)
      ·
        refine g_ifNo 160 X24 hx (hb hby at_157)  ((if0 _ _).trans (teq hc157_42).2) rfl ?_
        refine g_iload 162 X24 hx (hb hby at_160) rfl (v := z41) rfl ?_
        by_cases hc162_43 : z41 = (0 : Int32)
        ·
          refine g_ifYes 169 X24 hx (hb hby at_162)  ((if0 _ _).trans (teq hc162_43).1) (by decide) (by decide) ?_
          refine g_iconst 170 X24 hx (hb hby at_169) rfl (z := (0 : Int32)) rfl ?_
          exact Jhj46 (0 : Int32) (Or.inl ⟨hc157_42, hc162_43, rfl⟩)
        ·
          refine g_ifNo 165 X24 hx (hb hby at_162)  ((if0 _ _).trans (feq hc162_43).1) rfl ?_
          refine g_iconst 166 X24 hx (hb hby at_165) rfl (z := (1 : Int32)) rfl ?_
          refine g_goto 170 X24 hx (hb hby at_166) (by decide) (by decide) ?_
          exact Jhj46 (1 : Int32) (Or.inr (Or.inl ⟨hc157_42, hc162_43, rfl⟩))
      ·
        refine g_ifYes 165 X24 hx (hb hby at_157)  ((if0 _ _).trans (feq hc157_42).2) (by decide) (by decide) ?_
        refine g_iconst 166 X24 hx (hb hby at_165) rfl (z := (1 : Int32)) rfl ?_
        refine g_goto 170 X24 hx (hb hby at_166) (by decide) (by decide) ?_
        exact Jhj46 (1 : Int32) (Or.inr (Or.inr (⟨hc157_42, rfl⟩)))
    intro z45 hj46
    refine g_istore 172 X24 hx (hb hby at_170) rfl (Ls' := #[.val (.int p1), .val (.int p2), .val (.int p3), .val (.int p4), .val (.long q5), .second, .val (.long q6), .second, .val (.int r2), .val (.int z5), .val (.int z8), .val (.int r10), .val (.long z11), .second, .val (.long z15), .second, .val (.ref b16), .val (.int r24), .val (.int z45), .val (.int z35), .val (.int z41)]) rfl ?_
    refine g_iload 174 X24 hx (hb hby at_172) rfl (v := r24) rfl ?_
    refine g_iload 176 X24 hx (hb hby at_174) rfl (v := z45) rfl ?_
    suffices Jhj49 : ∀ (z48 : Int32), ((r24 = z45 ∧ z48 = (1 : Int32)) ∨ (¬ (r24 = z45) ∧ z48 = (0 : Int32))) → Go p e below s 16 128 (Q0 Z p1 p2 p3 p4 q5 q6 h0 n0) T24 (mkF m 184 #[.val (.int p1), .val (.int p2), .val (.int p3), .val (.int p4), .val (.long q5), .second, .val (.long q6), .second, .val (.int r2), .val (.int z5), .val (.int z8), .val (.int r10), .val (.long z11), .second, .val (.long z15), .second, .val (.ref b16), .val (.int r24), .val (.int z45), .val (.int z35), .val (.int z41)] [(.int z48)]) by
      by_cases hc176_46 : r24 = z45
      ·
        refine g_icmpNo 179 X24 hx (hb hby at_176)  (teq hc176_46).2 rfl ?_
        refine g_iconst 180 X24 hx (hb hby at_179) rfl (z := (1 : Int32)) rfl ?_
        refine g_goto 184 X24 hx (hb hby at_180) (by decide) (by decide) ?_
        exact Jhj49 (1 : Int32) (Or.inl ⟨hc176_46, rfl⟩)
      ·
        refine g_icmpYes 183 X24 hx (hb hby at_176)  (feq hc176_46).2 (by decide) (by decide) ?_
        refine g_iconst 184 X24 hx (hb hby at_183) rfl (z := (0 : Int32)) rfl ?_
        exact Jhj49 (0 : Int32) (Or.inr (⟨hc176_46, rfl⟩))
    intro z48 hj49
    have hl0 : z48 = 1 := leaf_0 p1 p2 p3 p4 q5 q6 z1 r2 z3 z4 z5 z6 z7 z8 z9 r10 z11 z12 z13 z15 r24 z25 z30 z31 z32 z33 z35 z37 z38 z39 z41 z45 z48 hz1 hr2 hz3 hz4 hz5 hz6 hz7 hz8 hz9 hr10 hz11 hz12 hz13 hz15 hr24 hz25 hc98_25 hz30 hz31 hz32 hz33 hj36 hz37 hz38 hz39 hj42 hj46 hj49
    subst hl0
    exact g_retN X24 hx (t := .boolean) Bd.returns hlk (by simp) rfl (hb hby at_184) (by decide) (by decide) ⟨rfl, N24⟩
  ·
    refine g_lcmpNo 102 X24 hx (hb hby at_98) rfl (hb hby at_99) (fltL hc98_25).1 rfl ?_
    refine g_iconst 103 X24 hx (hb hby at_102) rfl (z := (0 : Int32)) rfl ?_
    refine g_istore 105 X24 hx (hb hby at_103) rfl (Ls' := #[.val (.int p1), .val (.int p2), .val (.int p3), .val (.int p4), .val (.long q5), .second, .val (.long q6), .second, .val (.int r2), .val (.int z5), .val (.int z8), .val (.int r10), .val (.long z11), .second, .val (.long z15), .second, .val (.ref b16), .val (.int r24), .val (.int (0 : Int32)), .unset, .unset]) rfl ?_
    refine g_goto 172 X24 hx (hb hby at_105) (by decide) (by decide) ?_
    refine g_iload 174 X24 hx (hb hby at_172) rfl (v := r24) rfl ?_
    refine g_iload 176 X24 hx (hb hby at_174) rfl (v := (0 : Int32)) rfl ?_
    suffices Jhj52 : ∀ (z51 : Int32), ((r24 = (0 : Int32) ∧ z51 = (1 : Int32)) ∨ (¬ (r24 = (0 : Int32)) ∧ z51 = (0 : Int32))) → Go p e below s 16 128 (Q0 Z p1 p2 p3 p4 q5 q6 h0 n0) T24 (mkF m 184 #[.val (.int p1), .val (.int p2), .val (.int p3), .val (.int p4), .val (.long q5), .second, .val (.long q6), .second, .val (.int r2), .val (.int z5), .val (.int z8), .val (.int r10), .val (.long z11), .second, .val (.long z15), .second, .val (.ref b16), .val (.int r24), .val (.int (0 : Int32)), .unset, .unset] [(.int z51)]) by
      by_cases hc176_49 : r24 = (0 : Int32)
      ·
        refine g_icmpNo 179 X24 hx (hb hby at_176)  (teq hc176_49).2 rfl ?_
        refine g_iconst 180 X24 hx (hb hby at_179) rfl (z := (1 : Int32)) rfl ?_
        refine g_goto 184 X24 hx (hb hby at_180) (by decide) (by decide) ?_
        exact Jhj52 (1 : Int32) (Or.inl ⟨hc176_49, rfl⟩)
      ·
        refine g_icmpYes 183 X24 hx (hb hby at_176)  (feq hc176_49).2 (by decide) (by decide) ?_
        refine g_iconst 184 X24 hx (hb hby at_183) rfl (z := (0 : Int32)) rfl ?_
        exact Jhj52 (0 : Int32) (Or.inr (⟨hc176_49, rfl⟩))
    intro z51 hj52
    have hl1 : z51 = 1 := leaf_1 p1 p2 p3 p4 q5 q6 z1 r2 z3 z4 z5 z6 z7 z8 z9 r10 z11 z12 z13 z15 r24 z25 z51 hz1 hr2 hz3 hz4 hz5 hz6 hz7 hz8 hz9 hr10 hz11 hz12 hz13 hz15 hr24 hz25 hc98_25 hj52
    subst hl1
    exact g_retN X24 hx (t := .boolean) Bd.returns hlk (by simp) rfl (hb hby at_184) (by decide) (by decide) ⟨rfl, N24⟩
set_option maxRecDepth 65536 in
set_option maxHeartbeats 40000000 in
theorem comes_1 {Post : Tables → Env → Array Value → State → Outcome → State → Prop} (hpost : ∀ tb e args s v u, (limb_1_1.after args s (.returned v) u = true ∧ limb_1_2.after args s (.returned v) u = true ∧ True) → FrameEnd s (.returned v) u (Jvm.fieldLocs frame_1_writes args s ++ Jvm.arrayLocs frame_1_arrays args s ++ Jvm.staticLocs frame_1_statics s) 16 128 → Post tb e args s (.returned v) u) :
    ArmFor flags0 classFile x code maxLocals ret World_1 tables_1 room_1 Calls_1 rest_1 Pre_1 Post := by
  intro l hfl _ _ p e ha hc hk s m args below hf hA hF happ hP
  obtain ⟨hcalls, hrest, hpre⟩ := hP
  obtain ⟨-, -, -, hnamed, -, -, -, hat⟩ := (Spec.applies_iff hf).mp happ
  obtain ⟨hg, hn⟩ := and_e (Cond.before_iff.mp (show (Jvm.Cond.and given_1 narrow_1).before args s = true from hpre))
  obtain ⟨hcount, r0⟩ := and_e hg
  obtain ⟨ga0, r1⟩ := and_e r0
  obtain ⟨ga1, r2⟩ := and_e r1
  obtain ⟨ga2, r3⟩ := and_e r2
  obtain ⟨ga3, r4⟩ := and_e r3
  obtain ⟨ga4, r5⟩ := and_e r4
  obtain ⟨w0, w1, w2, w3, w4, w5, rfl⟩ : ∃ w0 w1 w2 w3 w4 w5 : Value, args = #[w0, w1, w2, w3, w4, w5] := by
    have hs : args.size = 6 := by simpa [Cond.value, given_1] using hcount
    obtain ⟨L⟩ := args
    match L, hs with
    | [w0, w1, w2, w3, w4, w5], _ => exact ⟨w0, w1, w2, w3, w4, w5, rfl⟩
  have hw := fun d (hd : d ∈ tables_1) => atoms_spec (ws := Jvm.Cond.code x code maxLocals ret :: tables_1) hat d (List.mem_cons_of_mem _ hd)
  obtain ⟨i0, ei0⟩ := is_v ga0
  obtain rfl : w0 = (.int i0) := Option.some.inj ei0
  obtain ⟨i1, ei1⟩ := is_v ga1
  obtain rfl : w1 = (.int i1) := Option.some.inj ei1
  obtain ⟨i2, ei2⟩ := is_v ga2
  obtain rfl : w2 = (.int i2) := Option.some.inj ei2
  obtain ⟨i3, ei3⟩ := is_v ga3
  obtain rfl : w3 = (.int i3) := Option.some.inj ei3
  obtain ⟨i4, ei4⟩ := isL_v ga4
  obtain rfl : w4 = (.long i4) := Option.some.inj ei4
  obtain ⟨i5, ei5⟩ := isL_v r5
  obtain rfl : w5 = (.long i5) := Option.some.inj ei5
  obtain ⟨n, o, h1, h2, h3, _, L, rfl, ⟨rfl, N⟩, hq⟩ := rm0 l s _ hw tables_1 i0 i1 i2 i3 i4 i5 s.heap s.heap.size (Nat.le_refl _)  p e ha hc hk s m _ below hf ((Spec.applies_iff_loose hf).mp happ).1 ⟨rfl, State.Warmed39.refl s, rfl⟩ trivial
  exact ⟨n, _, h1, h2, h3, hpost _ _ _ _ _ _ ⟨Cond.after_iff.mpr rfl, Cond.after_iff.mpr (eq_i res_at (Term.int_eval (1)) rfl), trivial⟩ ⟨hq.1, hq.2.1, (hq.2.2.sift fun y hy => Or.inr (N y hy)).mono (by decide) (by decide)⟩⟩
theorem main_1_1 : Claimed_1_1 := comes_1 fun _ _ _ _ _ _ h hF => ⟨h.1, hF⟩
theorem main_1_2 : Claimed_1_2 := comes_1 fun _ _ _ _ _ _ h hF => ⟨h.2.1, hF⟩
end Jvm.Pilot.@@N@@
namespace Jvm.Pilot.@@N@@
open Jvm Jvm.ClassFile Sem Op Lib Jvm.Free Jvm.Stand Jvm.Pilot.@@N@@.Jvm.D
/-! MADE BY PROGRAM (witnessworld.py) out of the Statement's table words and the real class files: 12 classes; the members and pool entries that the words name. The judged class is class 1, her method 1. -/
namespace start1
open Jvm.ClassFile
def u (s : String) : CpInfo := .utf8 (stringToUtf16 s)
/-- a pool by its gaps: so many unusable entries, then the entry; so many at the end -/
def gap : Nat → List CpInfo → List CpInfo
  | 0, r => r
  | n + 1, r => .unusable :: gap n r
def poolList (es : List (Nat × CpInfo)) (last : Nat) : List CpInfo := es.foldr (fun e r => gap e.1 (e.2 :: r)) (gap last [])
def pool (es : List (Nat × CpInfo)) (last : Nat) : Array CpInfo := ⟨poolList es last⟩
def fileOf (pool : Array CpInfo) (this : Nat) (attrs : Array Attribute := #[]) (ms : Array MethodInfo := #[]) (fl : Nat := 33) (sup : Nat := 0) (ifs : Array Nat := #[]) (fds : Array FieldInfo := #[]) : ClassFile where
  minorVersion := 0
  majorVersion := 65
  constantPool := pool
  accessFlags := fl
  thisClass := this
  superClass := sup
  interfaces := ifs
  fields := fds
  methods := ms
  attributes := attrs
def plain (name : String) (sup : Option ClassId) : Class where
  name := name
  kind := .ordinary
  loader := none
  accessFlags := 33
  super := sup
  interfaces := #[]
  cf := none
  fields := #[]
  methods := #[]
  instanceTypes := #[]
  staticTypes := #[]
  resolved := #[]
  callSites := []
  init := .initialized
  statics := none
  mirror := none

def pool0 : Array CpInfo := pool [(5, u "<init>"), (0, u "()V"), (1, .class_ 10), (1, u "java/lang/Object")] 113

def k0c0 : Code := { maxStack := 0, maxLocals := 1, code := object_method_1_code, exceptionTable := #[], attributes := #[] }
def k0m0 : Method := { name := "<init>", desc := "()V", sig := { parameters := [], returnType := none }, accessFlags := 1, code := some k0c0 }
/-- java/lang/Object -/
def k0 : Class := { plain "java/lang/Object" none with
  accessFlags := 33
  interfaces := #[]
  cf := some (fileOf pool0 8 #[] #[{ accessFlags := 1, nameIndex := 5, descriptorIndex := 6, attributes := #[] }] 33 0 #[] #[])
  fields := #[]
  methods := #[k0m0]
  instanceTypes := #[]
  staticTypes := #[]
  resolved := Array.replicate 124 none
  statics := none }

def pool1 : Array CpInfo := pool [(2, .class_ 4), (1, u "java/lang/Object"), (0, u "<init>"), (0, u "()V"), (0, .integer 2147483647), (0, .methodref 9 10), (0, .class_ 11), (0, .nameAndType 12 13), (0, u "java/lang/Math"), (0, u "max"), (0, u "(II)I"), (2, .long 9223372036854775807), (1, .class_ 19), (0, u "com/example/tempfail/tempfail/guard/Guard"), (0, .methodref 18 21), (0, .nameAndType 5 22), (0, u "(IIII)V"), (0, .methodref 18 24), (0, .nameAndType 25 26), (0, u "admits"), (0, u "(JJ)Z"), (0, .long 10000), (1, .class_ 30), (0, u "com/example/tempfail/tempfail/guard/GuardAdmitsPinLaw"), (2, u "law"), (0, u "(IIIIJJ)Z")] 3

def k1m0 : Method := { name := "<init>", desc := "()V", sig := { parameters := [], returnType := none }, accessFlags := 1, code := none }
def k1c1 : Code := { maxStack := 6, maxLocals := 21, code := code, exceptionTable := #[], attributes := #[] }
def k1m1 : Method := { name := "law", desc := "(IIIIJJ)Z", sig := { parameters := [.int, .int, .int, .int, .long, .long], returnType := some .boolean }, accessFlags := 9, code := some k1c1 }
/-- com/example/tempfail/tempfail/guard/GuardAdmitsPinLaw -/
def k1 : Class := { plain "com/example/tempfail/tempfail/guard/GuardAdmitsPinLaw" (some 0) with
  accessFlags := 49
  interfaces := #[]
  cf := some (fileOf pool1 29 #[] #[{ accessFlags := 1, nameIndex := 5, descriptorIndex := 6, attributes := #[] }, { accessFlags := 9, nameIndex := 33, descriptorIndex := 34, attributes := #[] }] 49 2 #[] #[])
  fields := #[]
  methods := #[k1m0, k1m1]
  instanceTypes := #[]
  staticTypes := #[]
  resolved := Array.replicate 38 none
  statics := none }

def pool2 : Array CpInfo := pool [(1, .class_ 2), (0, u "java/lang/Math"), (1, .class_ 6), (1, u "java/lang/Object"), (0, u "<init>"), (0, u "()V"), (89, .class_ 100), (1, u "java/lang/Math$RandomNumberGeneratorHolder"), (71, u "negativeZeroFloatBits"), (0, u "J"), (2, u "negativeZeroDoubleBits"), (21, u "max"), (46, u "$assertionsDisabled"), (0, u "Z"), (88, u "(II)I"), (2, u "twoToTheDoubleScaleDown"), (0, u "D"), (4, u "twoToTheDoubleScaleUp"), (9, u "E"), (3, u "PI"), (2, u "TAU"), (2, u "DEGREES_TO_RADIANS"), (0, u "RADIANS_TO_DEGREES")] 94

def k2m0 : Method := { name := "<init>", desc := "()V", sig := { parameters := [], returnType := none }, accessFlags := 2, code := none }
def k2c1 : Code := { maxStack := 2, maxLocals := 2, code := jdk_29_method_65_code, exceptionTable := #[], attributes := #[] }
def k2m1 : Method := { name := "max", desc := "(II)I", sig := { parameters := [.int, .int], returnType := some .int }, accessFlags := 9, code := some k2c1 }
/-- java/lang/Math -/
def k2 : Class := { plain "java/lang/Math" (some 0) with
  accessFlags := 49
  interfaces := #[]
  cf := some (fileOf pool2 1 #[.nestMembers #[98]] #[{ accessFlags := 2, nameIndex := 7, descriptorIndex := 8, attributes := #[] }, { accessFlags := 9, nameIndex := 198, descriptorIndex := 335, attributes := #[] }] 49 4 #[] #[{ accessFlags := 25, nameIndex := 354, descriptorIndex := 339, attributes := #[] }, { accessFlags := 25, nameIndex := 358, descriptorIndex := 339, attributes := #[] }, { accessFlags := 25, nameIndex := 361, descriptorIndex := 339, attributes := #[] }, { accessFlags := 26, nameIndex := 364, descriptorIndex := 339, attributes := #[] }, { accessFlags := 26, nameIndex := 365, descriptorIndex := 339, attributes := #[] }, { accessFlags := 26, nameIndex := 172, descriptorIndex := 173, attributes := #[] }, { accessFlags := 26, nameIndex := 176, descriptorIndex := 173, attributes := #[] }, { accessFlags := 8, nameIndex := 344, descriptorIndex := 339, attributes := #[] }, { accessFlags := 8, nameIndex := 338, descriptorIndex := 339, attributes := #[] }, { accessFlags := 4120, nameIndex := 245, descriptorIndex := 246, attributes := #[] }])
  fields := #[{ name := "E", type := .double, accessFlags := 25, slot := 0, constantValue := 0 }, { name := "PI", type := .double, accessFlags := 25, slot := 1, constantValue := 0 }, { name := "TAU", type := .double, accessFlags := 25, slot := 2, constantValue := 0 }, { name := "DEGREES_TO_RADIANS", type := .double, accessFlags := 26, slot := 3, constantValue := 0 }, { name := "RADIANS_TO_DEGREES", type := .double, accessFlags := 26, slot := 4, constantValue := 0 }, { name := "negativeZeroFloatBits", type := .long, accessFlags := 26, slot := 5, constantValue := 0 }, { name := "negativeZeroDoubleBits", type := .long, accessFlags := 26, slot := 6, constantValue := 0 }, { name := "twoToTheDoubleScaleUp", type := .double, accessFlags := 8, slot := 7, constantValue := 0 }, { name := "twoToTheDoubleScaleDown", type := .double, accessFlags := 8, slot := 8, constantValue := 0 }, { name := "$assertionsDisabled", type := .boolean, accessFlags := 4120, slot := 9, constantValue := 0 }]
  methods := #[k2m0, k2m1]
  instanceTypes := #[]
  staticTypes := #[.double, .double, .double, .double, .double, .long, .long, .double, .double, .boolean]
  resolved := Array.replicate 460 none
  statics := none }

def pool3 : Array CpInfo := pool [(1, .methodref 2 3), (0, .class_ 4), (0, .nameAndType 5 6), (0, u "java/lang/Object"), (0, u "<init>"), (0, u "()V"), (0, .class_ 8), (0, u "java/lang/Record")] 13

def k3c0 : Code := { maxStack := 1, maxLocals := 1, code := jdk_30_method_1_code, exceptionTable := #[], attributes := #[] }
def k3m0 : Method := { name := "<init>", desc := "()V", sig := { parameters := [], returnType := none }, accessFlags := 4, code := some k3c0 }
/-- java/lang/Record -/
def k3 : Class := { plain "java/lang/Record" (some 0) with
  accessFlags := 1057
  interfaces := #[]
  cf := some (fileOf pool3 7 #[] #[{ accessFlags := 4, nameIndex := 5, descriptorIndex := 6, attributes := #[] }] 1057 2 #[] #[])
  fields := #[]
  methods := #[k3m0]
  instanceTypes := #[]
  staticTypes := #[]
  resolved := Array.replicate 22 none
  statics := none }

def pool4 : Array CpInfo := pool [(1, .class_ 2), (0, u "com/example/tempfail/tempfail/greylist/Admission"), (0, .class_ 4), (0, u "java/lang/Object")] 6

/-- com/example/tempfail/tempfail/greylist/Admission -/
def k4 : Class := { plain "com/example/tempfail/tempfail/greylist/Admission" (some 0) with
  accessFlags := 1537
  interfaces := #[]
  cf := some (fileOf pool4 1 #[] #[] 1537 3 #[] #[])
  fields := #[]
  methods := #[]
  instanceTypes := #[]
  staticTypes := #[]
  resolved := Array.replicate 11 none
  statics := none }

def pool5 : Array CpInfo := pool [(1, .methodref 2 3), (0, .class_ 4), (0, .nameAndType 5 6), (0, u "java/lang/Record"), (0, u "<init>"), (0, u "()V"), (0, .fieldref 8 9), (0, .class_ 10), (0, .nameAndType 11 12), (0, u "com/example/tempfail/tempfail/guard/Guard"), (0, u "pendingLimit"), (0, u "I"), (0, .fieldref 8 14), (0, .nameAndType 15 12), (0, u "selectiveFrom"), (0, .fieldref 8 17), (0, .nameAndType 18 12), (0, u "heavyShare"), (0, .fieldref 8 20), (0, .nameAndType 21 12), (0, u "domains"), (0, .methodref 8 23), (0, .nameAndType 24 25), (0, u "atLimit"), (0, u "(J)Z"), (0, .methodref 8 27), (0, .nameAndType 28 29), (0, u "selectivePending"), (0, u "()J"), (0, .long 10000), (13, .class_ 45), (0, u "com/example/tempfail/tempfail/greylist/Admission"), (0, u "WHOLE"), (2, u "(IIII)V"), (3, u "admits"), (0, u "(JJ)Z")] 27

def k5c0 : Code := { maxStack := 2, maxLocals := 5, code := prog_22_method_1_code, exceptionTable := #[], attributes := #[] }
def k5m0 : Method := { name := "<init>", desc := "(IIII)V", sig := { parameters := [.int, .int, .int, .int], returnType := none }, accessFlags := 1, code := some k5c0 }
def k5c1 : Code := { maxStack := 6, maxLocals := 6, code := prog_22_method_2_code, exceptionTable := #[], attributes := #[] }
def k5m1 : Method := { name := "admits", desc := "(JJ)Z", sig := { parameters := [.long, .long], returnType := some .boolean }, accessFlags := 1, code := some k5c1 }
def k5c2 : Code := { maxStack := 4, maxLocals := 1, code := prog_22_method_3_code, exceptionTable := #[], attributes := #[] }
def k5m2 : Method := { name := "selectivePending", desc := "()J", sig := { parameters := [], returnType := some .long }, accessFlags := 1, code := some k5c2 }
def k5c3 : Code := { maxStack := 4, maxLocals := 3, code := prog_22_method_4_code, exceptionTable := #[], attributes := #[] }
def k5m3 : Method := { name := "atLimit", desc := "(J)Z", sig := { parameters := [.long], returnType := some .boolean }, accessFlags := 1, code := some k5c3 }
/-- com/example/tempfail/tempfail/guard/Guard -/
def k5 : Class := { plain "com/example/tempfail/tempfail/guard/Guard" (some 3) with
  accessFlags := 49
  interfaces := #[4]
  cf := some (fileOf pool5 8 #[] #[{ accessFlags := 1, nameIndex := 5, descriptorIndex := 49, attributes := #[] }, { accessFlags := 1, nameIndex := 53, descriptorIndex := 54, attributes := #[] }, { accessFlags := 1, nameIndex := 28, descriptorIndex := 29, attributes := #[] }, { accessFlags := 1, nameIndex := 24, descriptorIndex := 25, attributes := #[] }] 49 2 #[44] #[{ accessFlags := 18, nameIndex := 11, descriptorIndex := 12, attributes := #[] }, { accessFlags := 18, nameIndex := 15, descriptorIndex := 12, attributes := #[] }, { accessFlags := 18, nameIndex := 18, descriptorIndex := 12, attributes := #[] }, { accessFlags := 18, nameIndex := 21, descriptorIndex := 12, attributes := #[] }, { accessFlags := 25, nameIndex := 46, descriptorIndex := 12, attributes := #[] }])
  fields := #[{ name := "pendingLimit", type := .int, accessFlags := 18, slot := 0, constantValue := 0 }, { name := "selectiveFrom", type := .int, accessFlags := 18, slot := 1, constantValue := 0 }, { name := "heavyShare", type := .int, accessFlags := 18, slot := 2, constantValue := 0 }, { name := "domains", type := .int, accessFlags := 18, slot := 3, constantValue := 0 }, { name := "WHOLE", type := .int, accessFlags := 25, slot := 0, constantValue := 0 }]
  methods := #[k5m0, k5m1, k5m2, k5m3]
  instanceTypes := #[.int, .int, .int, .int]
  staticTypes := #[.int]
  resolved := Array.replicate 82 none
  statics := none }

def pool6 : Array CpInfo := pool [(1, u "java/lang/Cloneable"), (0, .class_ 1), (0, u "java/lang/Object"), (0, .class_ 3)] 3

/-- java/lang/Cloneable -/
def k6 : Class := { plain "java/lang/Cloneable" (some 0) with
  accessFlags := 1537
  interfaces := #[]
  cf := some (fileOf pool6 2 #[] #[] 1537 4 #[] #[])
  fields := #[]
  methods := #[]
  instanceTypes := #[]
  staticTypes := #[]
  resolved := Array.replicate 8 none
  statics := none }

def pool7 : Array CpInfo := pool [(1, u "java/io/Serializable"), (0, .class_ 1), (0, u "java/lang/Object"), (0, .class_ 3)] 3

/-- java/io/Serializable -/
def k7 : Class := { plain "java/io/Serializable" (some 0) with
  accessFlags := 1537
  interfaces := #[]
  cf := some (fileOf pool7 2 #[] #[] 1537 4 #[] #[])
  fields := #[]
  methods := #[]
  instanceTypes := #[]
  staticTypes := #[]
  resolved := Array.replicate 8 none
  statics := none }

/-- the primitive byte -/
def k8 : Class := { plain "byte" none with kind := .primitive 'B', accessFlags := 0x411 }
/-- [B -/
def k9 : Class := { plain "[B" (some 0) with kind := .array 8 .byte, interfaces := #[6, 7], accessFlags := 1041 }

/-- the primitive int -/
def k10 : Class := { plain "int" none with kind := .primitive 'I', accessFlags := 0x411 }
/-- [I -/
def k11 : Class := { plain "[I" (some 0) with kind := .array 10 .int, interfaces := #[6, 7], accessFlags := 1041 }

def heap : Heap := #[]
def classes : Array Class := #[k0, k1, k2, k3, k4, k5, k6, k7, k8, k9, k10, k11]
def interned : List (Array UInt16 × Addr) := []
def slotsUsed : Nat := 0
def theMethod : MethodId := ⟨1, 1⟩
def args0 : Array Value := #[.int 5, .int 7, .int 9, .int 11, .long 13, .long 15]
def aboutOver (below : List Frame) : State where
  vm := { classes := classes, interned := interned.toArray }
  heap := heap
  slotsUsed := slotsUsed
  threads := #[{ frames := .invoking theMethod args0 :: below }]
def below0 : List Frame := [.native { method := ⟨0, 0⟩, args := #[] }]
def about1 : State := aboutOver below0
def p0 : Program := .bare "" "" ""
def e0 : Env := launch0.env 0 0 0
theorem w_frames : about1.frames = Frame.invoking theMethod args0 :: below0 := rfl
set_option maxRecDepth 65536 in
theorem w_args : argsFit about1.vm theMethod args0 = true := by decide +kernel
set_option maxRecDepth 65536 in
theorem w_heap : heapFits about1 = true := by decide +kernel
set_option maxRecDepth 65536 in
theorem w_runnable : about1.curStatus? = some .runnable := by decide +kernel
set_option maxRecDepth 65536 in
theorem w_alone : about1.alone = true := by decide +kernel
set_option maxRecDepth 65536 in
theorem w_named : about1.methodNamed? x = some theMethod := by decide +kernel
set_option maxRecDepth 65536 in
theorem w_hears : about1.hears theMethod below0 = true := by decide +kernel
set_option maxRecDepth 65536 in
theorem w_ripe : about1.ripe theMethod args0 below0 = true := by decide +kernel
theorem w_running : about1.status = .running := rfl
set_option maxRecDepth 65536 in
theorem w_room : about1.hasRoom e0.platform room_1 = true :=
  launch0.hasRoom_least _ room_1 (by decide +kernel) (by decide +kernel) (by decide +kernel) (by decide +kernel) (by decide +kernel) (by decide +kernel)
theorem allAtoms_all (ts : List Jvm.Cond) (a : Array Jvm.Value) (st : Jvm.State) : (allAtoms ts).before a st = ts.all (fun c => c.before a st) := by
  induction ts with
  | nil => rfl
  | cons c t ih =>
    show (Jvm.Cond.and c (allAtoms t)).before a st = _
    rw [Jvm.Cond.before_and, ih, List.all_cons]
def words1 : List Jvm.Cond := Jvm.Cond.code x code maxLocals ret :: tables_1
/-- a 'code' word, met by the world's own term for the bytes: nothing is compared byte by byte -/
theorem code_word {y : MethodName} {bytes : ByteArray} {mx : Nat} {rt : Option FieldType} {a : Array Value} {s : State} {m : MethodId} {meth : Method} {c : Code} (h1 : s.methodNamed? y = some m) (h2 : s.vm.method? m = some meth) (h3 : meth.code = some c) (h4 : c.code = bytes)
    (h5 : (c.maxLocals == mx && c.exceptionTable.isEmpty && decide (c.maxStack ≤ mostOperands) && decide (meth.sig.returnType = rt) && !meth.locks && decide (parseMethodDescriptor y.desc = some meth.sig)) = true) : (Jvm.Cond.code y bytes mx rt).before a s = true := by
  simp only [Bool.and_eq_true, beq_iff_eq, Bool.not_eq_true', decide_eq_true_eq] at h5
  obtain ⟨⟨⟨⟨⟨g1, g2⟩, g3⟩, g4⟩, g5⟩, g6⟩ := h5
  simp [Cond.before, Cond.holds, Cond.value, h1, h2, h3, h4, g1, g2, g3, g4, g5, g6]
def isCode : Jvm.Cond → Bool
  | .code _ _ _ _ => true
  | _ => false
theorem all_split {L : List Jvm.Cond} {P : Jvm.Cond → Bool} (h1 : L.all (fun c => isCode c || P c) = true) (h2 : ∀ c ∈ L.filter isCode, P c = true) : L.all P = true := by
  refine List.all_eq_true.mpr fun c hc => ?_
  have h := List.all_eq_true.mp h1 c hc
  rcases Bool.eq_false_or_eq_true (isCode c) with hi | hi
  · exact h2 c (List.mem_filter.mpr ⟨hc, hi⟩)
  · simpa [hi] using h
set_option maxRecDepth 65536 in
theorem w_c0 : (Jvm.Cond.code x code maxLocals ret).before args0 about1 = true := code_word (m := ⟨1, 1⟩) (meth := k1m1) (c := k1c1) (by decide +kernel) rfl rfl rfl (by decide +kernel)
set_option maxRecDepth 65536 in
theorem w_c1 : (Jvm.Cond.code ({ cls := "java/lang/Math", name := "max", desc := "(II)I" } : Jvm.MethodName) jdk_29_method_65_code (2 : Nat) (Option.some Jvm.ClassFile.FieldType.int)).before args0 about1 = true := code_word (m := ⟨2, 1⟩) (meth := k2m1) (c := k2c1) (by decide +kernel) rfl rfl rfl (by decide +kernel)
set_option maxRecDepth 65536 in
theorem w_c2 : (Jvm.Cond.code ({ cls := "com/example/tempfail/tempfail/guard/Guard", name := "<init>", desc := "(IIII)V" } : Jvm.MethodName) prog_22_method_1_code (5 : Nat) (Option.none : Option Jvm.ClassFile.FieldType)).before args0 about1 = true := code_word (m := ⟨5, 0⟩) (meth := k5m0) (c := k5c0) (by decide +kernel) rfl rfl rfl (by decide +kernel)
set_option maxRecDepth 65536 in
theorem w_c3 : (Jvm.Cond.code ({ cls := "java/lang/Record", name := "<init>", desc := "()V" } : Jvm.MethodName) jdk_30_method_1_code (1 : Nat) (Option.none : Option Jvm.ClassFile.FieldType)).before args0 about1 = true := code_word (m := ⟨3, 0⟩) (meth := k3m0) (c := k3c0) (by decide +kernel) rfl rfl rfl (by decide +kernel)
set_option maxRecDepth 65536 in
theorem w_c4 : (Jvm.Cond.code ({ cls := "java/lang/Object", name := "<init>", desc := "()V" } : Jvm.MethodName) object_method_1_code (1 : Nat) (Option.none : Option Jvm.ClassFile.FieldType)).before args0 about1 = true := code_word (m := ⟨0, 0⟩) (meth := k0m0) (c := k0c0) (by decide +kernel) rfl rfl rfl (by decide +kernel)
set_option maxRecDepth 65536 in
theorem w_c5 : (Jvm.Cond.code ({ cls := "com/example/tempfail/tempfail/guard/Guard", name := "admits", desc := "(JJ)Z" } : Jvm.MethodName) prog_22_method_2_code (6 : Nat) (Option.some Jvm.ClassFile.FieldType.boolean)).before args0 about1 = true := code_word (m := ⟨5, 1⟩) (meth := k5m1) (c := k5c1) (by decide +kernel) rfl rfl rfl (by decide +kernel)
set_option maxRecDepth 65536 in
theorem w_c6 : (Jvm.Cond.code ({ cls := "com/example/tempfail/tempfail/guard/Guard", name := "atLimit", desc := "(J)Z" } : Jvm.MethodName) prog_22_method_4_code (3 : Nat) (Option.some Jvm.ClassFile.FieldType.boolean)).before args0 about1 = true := code_word (m := ⟨5, 3⟩) (meth := k5m3) (c := k5c3) (by decide +kernel) rfl rfl rfl (by decide +kernel)
set_option maxRecDepth 65536 in
theorem w_c7 : (Jvm.Cond.code ({ cls := "com/example/tempfail/tempfail/guard/Guard", name := "selectivePending", desc := "()J" } : Jvm.MethodName) prog_22_method_3_code (1 : Nat) (Option.some Jvm.ClassFile.FieldType.long)).before args0 about1 = true := code_word (m := ⟨5, 2⟩) (meth := k5m2) (c := k5c2) (by decide +kernel) rfl rfl rfl (by decide +kernel)
def codes1 : List Jvm.Cond := [Jvm.Cond.code x code maxLocals ret, Jvm.Cond.code ({ cls := "java/lang/Math", name := "max", desc := "(II)I" } : Jvm.MethodName) jdk_29_method_65_code (2 : Nat) (Option.some Jvm.ClassFile.FieldType.int), Jvm.Cond.code ({ cls := "com/example/tempfail/tempfail/guard/Guard", name := "<init>", desc := "(IIII)V" } : Jvm.MethodName) prog_22_method_1_code (5 : Nat) (Option.none : Option Jvm.ClassFile.FieldType), Jvm.Cond.code ({ cls := "java/lang/Record", name := "<init>", desc := "()V" } : Jvm.MethodName) jdk_30_method_1_code (1 : Nat) (Option.none : Option Jvm.ClassFile.FieldType), Jvm.Cond.code ({ cls := "java/lang/Object", name := "<init>", desc := "()V" } : Jvm.MethodName) object_method_1_code (1 : Nat) (Option.none : Option Jvm.ClassFile.FieldType), Jvm.Cond.code ({ cls := "com/example/tempfail/tempfail/guard/Guard", name := "admits", desc := "(JJ)Z" } : Jvm.MethodName) prog_22_method_2_code (6 : Nat) (Option.some Jvm.ClassFile.FieldType.boolean), Jvm.Cond.code ({ cls := "com/example/tempfail/tempfail/guard/Guard", name := "atLimit", desc := "(J)Z" } : Jvm.MethodName) prog_22_method_4_code (3 : Nat) (Option.some Jvm.ClassFile.FieldType.boolean), Jvm.Cond.code ({ cls := "com/example/tempfail/tempfail/guard/Guard", name := "selectivePending", desc := "()J" } : Jvm.MethodName) prog_22_method_3_code (1 : Nat) (Option.some Jvm.ClassFile.FieldType.long)]
set_option maxRecDepth 65536 in
theorem codes_eq : words1.filter isCode = codes1 := rfl
theorem w_codes : ∀ c ∈ words1.filter isCode, c.before args0 about1 = true := by
  rw [codes_eq]
  intro c hc
  simp only [codes1, List.mem_cons, List.not_mem_nil, or_false] at hc
  rcases hc with rfl | rfl | rfl | rfl | rfl | rfl | rfl | rfl
  · exact w_c0
  · exact w_c1
  · exact w_c2
  · exact w_c3
  · exact w_c4
  · exact w_c5
  · exact w_c6
  · exact w_c7
set_option maxRecDepth 65536 in
theorem w_t1 : (words1.take 24).all (fun c => isCode c || c.before args0 about1) = true := by decide +kernel
set_option maxRecDepth 65536 in
theorem w_t2 : (words1.drop 24).all (fun c => isCode c || c.before args0 about1) = true := by decide +kernel
theorem w_tables : (allAtoms (Jvm.Cond.code x code maxLocals ret :: tables_1)).before args0 about1 = true := by
  rw [allAtoms_all]
  show words1.all (fun c => c.before args0 about1) = true
  refine all_split ?_ w_codes
  rw [← List.take_append_drop 24 words1, List.all_append, w_t1, w_t2]
  rfl
set_option maxRecDepth 65536 in
theorem w_case : (Jvm.Cond.and given_1 narrow_1).before args0 about1 = true := by decide +kernel
theorem w_applies : (headSpec (Jvm.Cond.code x code maxLocals ret :: tables_1) room_1).applies x e0.platform about1 = true :=
  (Spec.applies_iff w_frames).mpr ⟨w_running, w_runnable, w_alone, w_named, w_hears, w_ripe, w_room, w_tables⟩
theorem atStart : AtStart classFile x code maxLocals ret World_1 tables_1 room_1 Calls_1 rest_1 Pre_1 launch0 p0 e0 about1 theMethod args0 below0 :=
  ⟨lists_1, trivial, launch0.admits_env _ _ _, launch0.least_env, fairChoices_fair.cas, fairChoices_fair.clock, w_frames, w_args, w_heap, w_applies, trivial, trivial, w_case⟩
end start1
theorem witness_1 : WitnessClaimed_1 := ⟨start1.p0, start1.e0, start1.about1, start1.theMethod, start1.args0, start1.below0, start1.atStart⟩
end Jvm.Pilot.@@N@@
