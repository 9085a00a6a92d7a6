import JvmDerived
import JvmDerived.Pilot.@@N@@Statement
import JvmDerived.Pilot.@@N@@Code
set_option linter.unusedVariables false
set_option linter.unusedSimpArgs false
namespace Jvm.Pilot.@@N@@
open Jvm Jvm.ClassFile Sem Op Lib Jvm.Free Jvm.Stand Jvm.LawKit Jvm.RoadKit Bundle Jvm.Pilot.@@N@@.Jvm.D
section OwnKit
/-- the run goes on from here to the method's end; what it leaves is Q -/
def Go (p : Program) (e : Env) (below : List Frame) (s : State) (k n : Nat) (Q : Option Value → Heap → List Loc → Prop) (T : State) (g : JFrame) : Prop :=
  ∃ s₂ o, Steps p.tables e below (T.setTop g) s₂ ∧ s₂.status = .running ∧ Ended s₂ below o ∧ ∃ v L, o = .returned v ∧ Q v s₂.heap L ∧ FrameEnd s o s₂ L k n
variable {p : Program} {l : Launch} {e : Env} {R : Room} {s : State} {m : MethodId} {args : Array Value} {below : List Frame} {meth : Method} {c : Code} {T : State} {locs : List Loc} {cells slots : Nat} {k n : Nat} {Q : Option Value → Heap → List Loc → Prop} {pc : Nat} {Ls : Array Slot} {st : List Value} {Z : State} {a0 : Array Value} {h h' : Heap}
theorem Go.via {T' : State} {g g' : JFrame} (q : ∀ t, Steps p.tables e below (T'.setTop g') t → Steps p.tables e below (T.setTop g) t) (H : Go p e below s k n Q T' g') : Go p e below s k n Q T g := by
  obtain ⟨s₂, o, h1, r⟩ := H
  exact ⟨s₂, o, q _ h1, r⟩
theorem tltL {x y : Int64} (q : x < y) : ifCond.holds .lt (lcmpW x y) = true ∧ ifCond.holds .ge (lcmpW x y) = false ∧ ifCond.holds .gt (lcmpW y x) = true ∧ ifCond.holds .le (lcmpW y x) = false := by
  simp only [if0]
  exact ⟨(tlt ((lw_lt x y).mpr q)).1, (tlt ((lw_lt x y).mpr q)).2.1, (tlt ((lw_gt y x).mpr q)).2.2.1, (tlt ((lw_gt y x).mpr q)).2.2.2⟩
theorem fltL {x y : Int64} (q : ¬ x < y) : ifCond.holds .lt (lcmpW x y) = false ∧ ifCond.holds .ge (lcmpW x y) = true ∧ ifCond.holds .gt (lcmpW y x) = false ∧ ifCond.holds .le (lcmpW y x) = true := by
  simp only [if0]
  exact ⟨(flt (mt (lw_lt x y).mp q)).1, (flt (mt (lw_lt x y).mp q)).2.1, (flt (mt (lw_gt y x).mp q)).2.2.1, (flt (mt (lw_gt y x).mp q)).2.2.2⟩
theorem teqL {x y : Int64} (q : x = y) : ifCond.holds .eq (lcmpW x y) = true ∧ ifCond.holds .ne (lcmpW x y) = false := by
  simp only [if0]
  exact ⟨(teq ((lw_eq x y).mpr q)).1, (teq ((lw_eq x y).mpr q)).2⟩
theorem feqL {x y : Int64} (q : ¬ x = y) : ifCond.holds .eq (lcmpW x y) = false ∧ ifCond.holds .ne (lcmpW x y) = true := by
  simp only [if0]
  exact ⟨(feq (mt (lw_eq x y).mp q)).1, (feq (mt (lw_eq x y).mp q)).2⟩
theorem tlt0 {x y : Int32} (q : x < y) : (y = 0 → ifCond.holds .lt x = true ∧ ifCond.holds .ge x = false) ∧ (x = 0 → ifCond.holds .gt y = true ∧ ifCond.holds .le y = false) := by
  refine ⟨fun r => ?_, fun r => ?_⟩ <;> subst r <;> simp only [if0]
  · exact ⟨(tlt q).1, (tlt q).2.1⟩
  · exact ⟨(tlt q).2.2.1, (tlt q).2.2.2⟩
theorem g_iloadN (pc' : Nat) (X : Stand p l e R s m args below meth c T locs cells slots) (hx : p.tables.exec = Jvm.exec) {i : Fin 4} {v : Int32} (hd : decode c.code pc = .ok (.iload_n i, 1)) (hp : pc + 1 = pc') (hl : Ls[i.val]? = some (.val (.int v))) (H : Go p e below s k n Q T (mkF m pc' Ls (.int v :: st))) : Go p e below s k n Q T (mkF m pc Ls st) := by
  subst hp
  exact H.via fun t q => XS.iloadN X.here hx rfl hd hl q
theorem g_iload (pc' : Nat) (X : Stand p l e R s m args below meth c T locs cells slots) (hx : p.tables.exec = Jvm.exec) {i : Nat} {v : Int32} (hd : decode c.code pc = .ok (.iload i, 2)) (hp : pc + 2 = pc') (hl : Ls[i]? = some (.val (.int v))) (H : Go p e below s k n Q T (mkF m pc' Ls (.int v :: st))) : Go p e below s k n Q T (mkF m pc Ls st) := by
  subst hp
  exact H.via fun t q => XS.iload X.here hx rfl hd hl q
theorem g_istoreN (pc' : Nat) (X : Stand p l e R s m args below meth c T locs cells slots) (hx : p.tables.exec = Jvm.exec) {i : Fin 4} {v : Int32} {Ls' : Array Slot} (hd : decode c.code pc = .ok (.istore_n i, 1)) (hp : pc + 1 = pc') (hl : storeLocals Ls i.val (.int v) = some Ls') (H : Go p e below s k n Q T (mkF m pc' Ls' st)) : Go p e below s k n Q T (mkF m pc Ls (.int v :: st)) := by
  subst hp
  exact H.via fun t q => XS.istoreN X.here hx rfl hd rfl hl q
theorem g_istore (pc' : Nat) (X : Stand p l e R s m args below meth c T locs cells slots) (hx : p.tables.exec = Jvm.exec) {i : Nat} {v : Int32} {Ls' : Array Slot} (hd : decode c.code pc = .ok (.istore i, 2)) (hp : pc + 2 = pc') (hl : storeLocals Ls i (.int v) = some Ls') (H : Go p e below s k n Q T (mkF m pc' Ls' st)) : Go p e below s k n Q T (mkF m pc Ls (.int v :: st)) := by
  subst hp
  exact H.via fun t q => XS.istore X.here hx rfl hd rfl hl q
theorem g_lloadN (pc' : Nat) (X : Stand p l e R s m args below meth c T locs cells slots) (hx : p.tables.exec = Jvm.exec) {i : Fin 4} {v : Int64} (hd : decode c.code pc = .ok (.lload_n i, 1)) (hp : pc + 1 = pc') (hl : Ls[i.val]? = some (.val (.long v))) (H : Go p e below s k n Q T (mkF m pc' Ls (.long v :: st))) : Go p e below s k n Q T (mkF m pc Ls st) := by
  subst hp
  exact H.via fun t q => XS.lloadN X.here hx rfl hd hl q
theorem g_lload (pc' : Nat) (X : Stand p l e R s m args below meth c T locs cells slots) (hx : p.tables.exec = Jvm.exec) {i : Nat} {v : Int64} (hd : decode c.code pc = .ok (.lload i, 2)) (hp : pc + 2 = pc') (hl : Ls[i]? = some (.val (.long v))) (H : Go p e below s k n Q T (mkF m pc' Ls (.long v :: st))) : Go p e below s k n Q T (mkF m pc Ls st) := by
  subst hp
  exact H.via fun t q => XS.lload X.here hx rfl hd hl q
theorem g_lstoreN (pc' : Nat) (X : Stand p l e R s m args below meth c T locs cells slots) (hx : p.tables.exec = Jvm.exec) {i : Fin 4} {v : Int64} {Ls' : Array Slot} (hd : decode c.code pc = .ok (.lstore_n i, 1)) (hp : pc + 1 = pc') (hl : storeLocals Ls i.val (.long v) = some Ls') (H : Go p e below s k n Q T (mkF m pc' Ls' st)) : Go p e below s k n Q T (mkF m pc Ls (.long v :: st)) := by
  subst hp
  exact H.via fun t q => XS.lstoreN X.here hx rfl hd rfl hl q
theorem g_lstore (pc' : Nat) (X : Stand p l e R s m args below meth c T locs cells slots) (hx : p.tables.exec = Jvm.exec) {i : Nat} {v : Int64} {Ls' : Array Slot} (hd : decode c.code pc = .ok (.lstore i, 2)) (hp : pc + 2 = pc') (hl : storeLocals Ls i (.long v) = some Ls') (H : Go p e below s k n Q T (mkF m pc' Ls' st)) : Go p e below s k n Q T (mkF m pc Ls (.long v :: st)) := by
  subst hp
  exact H.via fun t q => XS.lstore X.here hx rfl hd rfl hl q
theorem g_aloadN (pc' : Nat) (X : Stand p l e R s m args below meth c T locs cells slots) (hx : p.tables.exec = Jvm.exec) {i : Fin 4} {v : Value} (hd : decode c.code pc = .ok (.aload_n i, 1)) (hp : pc + 1 = pc') (hl : Ls[i.val]? = some (.val v)) (hv : v.isRef = true) (H : Go p e below s k n Q T (mkF m pc' Ls (v :: st))) : Go p e below s k n Q T (mkF m pc Ls st) := by
  subst hp
  exact H.via fun t q => XS.aloadN X.here hx rfl hd hl hv q
theorem g_aload (pc' : Nat) (X : Stand p l e R s m args below meth c T locs cells slots) (hx : p.tables.exec = Jvm.exec) {i : Nat} {v : Value} (hd : decode c.code pc = .ok (.aload i, 2)) (hp : pc + 2 = pc') (hl : Ls[i]? = some (.val v)) (hv : v.isRef = true) (H : Go p e below s k n Q T (mkF m pc' Ls (v :: st))) : Go p e below s k n Q T (mkF m pc Ls st) := by
  subst hp
  exact H.via fun t q => XS.aload X.here hx rfl hd hl hv q
theorem g_astoreN (pc' : Nat) (X : Stand p l e R s m args below meth c T locs cells slots) (hx : p.tables.exec = Jvm.exec) {i : Fin 4} {v : Value} {Ls' : Array Slot} (hd : decode c.code pc = .ok (.astore_n i, 1)) (hp : pc + 1 = pc') (hv : v.isRef = true) (hl : storeLocals Ls i.val v = some Ls') (H : Go p e below s k n Q T (mkF m pc' Ls' st)) : Go p e below s k n Q T (mkF m pc Ls (v :: st)) := by
  subst hp
  exact H.via fun t q => XS.astoreN X.here hx rfl hd rfl hv hl q
theorem g_astore (pc' : Nat) (X : Stand p l e R s m args below meth c T locs cells slots) (hx : p.tables.exec = Jvm.exec) {i : Nat} {v : Value} {Ls' : Array Slot} (hd : decode c.code pc = .ok (.astore i, 2)) (hp : pc + 2 = pc') (hv : v.isRef = true) (hl : storeLocals Ls i v = some Ls') (H : Go p e below s k n Q T (mkF m pc' Ls' st)) : Go p e below s k n Q T (mkF m pc Ls (v :: st)) := by
  subst hp
  exact H.via fun t q => XS.astore X.here hx rfl hd rfl hv hl q
theorem g_iconst (pc' : Nat) (X : Stand p l e R s m args below meth c T locs cells slots) (hx : p.tables.exec = Jvm.exec) {i : Int} {z : Int32} (hd : decode c.code pc = .ok (.iconst i, 1)) (hp : pc + 1 = pc') (hz : Int32.ofInt i = z) (H : Go p e below s k n Q T (mkF m pc' Ls (.int z :: st))) : Go p e below s k n Q T (mkF m pc Ls st) := by
  subst hp hz
  exact H.via fun t q => XS.iconst X.here hx rfl hd q
theorem g_bipush (pc' : Nat) (X : Stand p l e R s m args below meth c T locs cells slots) (hx : p.tables.exec = Jvm.exec) {i : Int} {z : Int32} (hd : decode c.code pc = .ok (.bipush i, 2)) (hp : pc + 2 = pc') (hz : (Int8.ofInt i).toInt32 = z) (H : Go p e below s k n Q T (mkF m pc' Ls (.int z :: st))) : Go p e below s k n Q T (mkF m pc Ls st) := by
  subst hp hz
  exact H.via fun t q => XS.bipush X.here hx rfl hd q
theorem g_sipush (pc' : Nat) (X : Stand p l e R s m args below meth c T locs cells slots) (hx : p.tables.exec = Jvm.exec) {i : Int} {z : Int32} (hd : decode c.code pc = .ok (.sipush i, 3)) (hp : pc + 3 = pc') (hz : (Int16.ofInt i).toInt32 = z) (H : Go p e below s k n Q T (mkF m pc' Ls (.int z :: st))) : Go p e below s k n Q T (mkF m pc Ls st) := by
  subst hp hz
  exact H.via fun t q => XS.sipush X.here hx rfl hd q
theorem g_lconst (pc' : Nat) (X : Stand p l e R s m args below meth c T locs cells slots) (hx : p.tables.exec = Jvm.exec) {i : Fin 2} {z : Int64} (hd : decode c.code pc = .ok (.lconst i, 1)) (hp : pc + 1 = pc') (hz : Int64.ofNat i.val = z) (H : Go p e below s k n Q T (mkF m pc' Ls (.long z :: st))) : Go p e below s k n Q T (mkF m pc Ls st) := by
  subst hp hz
  exact H.via fun t q => XS.lconst X.here hx rfl hd q
theorem g_aconst_null (pc' : Nat) (X : Stand p l e R s m args below meth c T locs cells slots) (hx : p.tables.exec = Jvm.exec) (hd : decode c.code pc = .ok (.aconst_null, 1)) (hp : pc + 1 = pc')  (H : Go p e below s k n Q T (mkF m pc' Ls (.null :: st))) : Go p e below s k n Q T (mkF m pc Ls st) := by
  subst hp
  exact H.via fun t q => XS.aconstNull X.here hx rfl hd q
theorem g_iadd (pc' : Nat) (X : Stand p l e R s m args below meth c T locs cells slots) (hx : p.tables.exec = Jvm.exec) {x y z : Int32} (hd : decode c.code pc = .ok (.iadd, 1)) (hp : pc + 1 = pc') (hz : x + y = z) (H : Go p e below s k n Q T (mkF m pc' Ls (.int z :: st))) : Go p e below s k n Q T (mkF m pc Ls (.int y :: .int x :: st)) := by
  subst hp hz
  exact H.via fun t q => XS.iadd X.here hx rfl hd rfl q
theorem g_isub (pc' : Nat) (X : Stand p l e R s m args below meth c T locs cells slots) (hx : p.tables.exec = Jvm.exec) {x y z : Int32} (hd : decode c.code pc = .ok (.isub, 1)) (hp : pc + 1 = pc') (hz : x - y = z) (H : Go p e below s k n Q T (mkF m pc' Ls (.int z :: st))) : Go p e below s k n Q T (mkF m pc Ls (.int y :: .int x :: st)) := by
  subst hp hz
  exact H.via fun t q => XS.isub X.here hx rfl hd rfl q
theorem g_imul (pc' : Nat) (X : Stand p l e R s m args below meth c T locs cells slots) (hx : p.tables.exec = Jvm.exec) {x y z : Int32} (hd : decode c.code pc = .ok (.imul, 1)) (hp : pc + 1 = pc') (hz : x * y = z) (H : Go p e below s k n Q T (mkF m pc' Ls (.int z :: st))) : Go p e below s k n Q T (mkF m pc Ls (.int y :: .int x :: st)) := by
  subst hp hz
  exact H.via fun t q => XS.imul X.here hx rfl hd rfl q
theorem g_iand (pc' : Nat) (X : Stand p l e R s m args below meth c T locs cells slots) (hx : p.tables.exec = Jvm.exec) {x y z : Int32} (hd : decode c.code pc = .ok (.iand, 1)) (hp : pc + 1 = pc') (hz : x &&& y = z) (H : Go p e below s k n Q T (mkF m pc' Ls (.int z :: st))) : Go p e below s k n Q T (mkF m pc Ls (.int y :: .int x :: st)) := by
  subst hp hz
  exact H.via fun t q => XS.iand X.here hx rfl hd rfl q
theorem g_ior (pc' : Nat) (X : Stand p l e R s m args below meth c T locs cells slots) (hx : p.tables.exec = Jvm.exec) {x y z : Int32} (hd : decode c.code pc = .ok (.ior, 1)) (hp : pc + 1 = pc') (hz : x ||| y = z) (H : Go p e below s k n Q T (mkF m pc' Ls (.int z :: st))) : Go p e below s k n Q T (mkF m pc Ls (.int y :: .int x :: st)) := by
  subst hp hz
  exact H.via fun t q => XS.ior X.here hx rfl hd rfl q
theorem g_ixor (pc' : Nat) (X : Stand p l e R s m args below meth c T locs cells slots) (hx : p.tables.exec = Jvm.exec) {x y z : Int32} (hd : decode c.code pc = .ok (.ixor, 1)) (hp : pc + 1 = pc') (hz : x ^^^ y = z) (H : Go p e below s k n Q T (mkF m pc' Ls (.int z :: st))) : Go p e below s k n Q T (mkF m pc Ls (.int y :: .int x :: st)) := by
  subst hp hz
  exact H.via fun t q => XS.ixor X.here hx rfl hd rfl q
theorem g_ladd (pc' : Nat) (X : Stand p l e R s m args below meth c T locs cells slots) (hx : p.tables.exec = Jvm.exec) {x y z : Int64} (hd : decode c.code pc = .ok (.ladd, 1)) (hp : pc + 1 = pc') (hz : x + y = z) (H : Go p e below s k n Q T (mkF m pc' Ls (.long z :: st))) : Go p e below s k n Q T (mkF m pc Ls (.long y :: .long x :: st)) := by
  subst hp hz
  exact H.via fun t q => XS.ladd X.here hx rfl hd rfl q
theorem g_lsub (pc' : Nat) (X : Stand p l e R s m args below meth c T locs cells slots) (hx : p.tables.exec = Jvm.exec) {x y z : Int64} (hd : decode c.code pc = .ok (.lsub, 1)) (hp : pc + 1 = pc') (hz : x - y = z) (H : Go p e below s k n Q T (mkF m pc' Ls (.long z :: st))) : Go p e below s k n Q T (mkF m pc Ls (.long y :: .long x :: st)) := by
  subst hp hz
  exact H.via fun t q => XS.lsub X.here hx rfl hd rfl q
theorem g_lmul (pc' : Nat) (X : Stand p l e R s m args below meth c T locs cells slots) (hx : p.tables.exec = Jvm.exec) {x y z : Int64} (hd : decode c.code pc = .ok (.lmul, 1)) (hp : pc + 1 = pc') (hz : x * y = z) (H : Go p e below s k n Q T (mkF m pc' Ls (.long z :: st))) : Go p e below s k n Q T (mkF m pc Ls (.long y :: .long x :: st)) := by
  subst hp hz
  exact H.via fun t q => XS.lmul X.here hx rfl hd rfl q
theorem g_land (pc' : Nat) (X : Stand p l e R s m args below meth c T locs cells slots) (hx : p.tables.exec = Jvm.exec) {x y z : Int64} (hd : decode c.code pc = .ok (.land, 1)) (hp : pc + 1 = pc') (hz : x &&& y = z) (H : Go p e below s k n Q T (mkF m pc' Ls (.long z :: st))) : Go p e below s k n Q T (mkF m pc Ls (.long y :: .long x :: st)) := by
  subst hp hz
  exact H.via fun t q => XS.land X.here hx rfl hd rfl q
theorem g_lor (pc' : Nat) (X : Stand p l e R s m args below meth c T locs cells slots) (hx : p.tables.exec = Jvm.exec) {x y z : Int64} (hd : decode c.code pc = .ok (.lor, 1)) (hp : pc + 1 = pc') (hz : x ||| y = z) (H : Go p e below s k n Q T (mkF m pc' Ls (.long z :: st))) : Go p e below s k n Q T (mkF m pc Ls (.long y :: .long x :: st)) := by
  subst hp hz
  exact H.via fun t q => XS.lor X.here hx rfl hd rfl q
theorem g_lxor (pc' : Nat) (X : Stand p l e R s m args below meth c T locs cells slots) (hx : p.tables.exec = Jvm.exec) {x y z : Int64} (hd : decode c.code pc = .ok (.lxor, 1)) (hp : pc + 1 = pc') (hz : x ^^^ y = z) (H : Go p e below s k n Q T (mkF m pc' Ls (.long z :: st))) : Go p e below s k n Q T (mkF m pc Ls (.long y :: .long x :: st)) := by
  subst hp hz
  exact H.via fun t q => XS.lxor X.here hx rfl hd rfl q
theorem g_ishl (pc' : Nat) (X : Stand p l e R s m args below meth c T locs cells slots) (hx : p.tables.exec = Jvm.exec) {x y z : Int32} (hd : decode c.code pc = .ok (.ishl, 1)) (hp : pc + 1 = pc') (hz : x <<< (y &&& 31) = z) (H : Go p e below s k n Q T (mkF m pc' Ls (.int z :: st))) : Go p e below s k n Q T (mkF m pc Ls (.int y :: .int x :: st)) := by
  subst hp hz
  exact H.via fun t q => XS.ishl X.here hx rfl hd rfl q
theorem g_ishr (pc' : Nat) (X : Stand p l e R s m args below meth c T locs cells slots) (hx : p.tables.exec = Jvm.exec) {x y z : Int32} (hd : decode c.code pc = .ok (.ishr, 1)) (hp : pc + 1 = pc') (hz : x >>> (y &&& 31) = z) (H : Go p e below s k n Q T (mkF m pc' Ls (.int z :: st))) : Go p e below s k n Q T (mkF m pc Ls (.int y :: .int x :: st)) := by
  subst hp hz
  exact H.via fun t q => XS.ishr X.here hx rfl hd rfl q
theorem g_iushr (pc' : Nat) (X : Stand p l e R s m args below meth c T locs cells slots) (hx : p.tables.exec = Jvm.exec) {x y z : Int32} (hd : decode c.code pc = .ok (.iushr, 1)) (hp : pc + 1 = pc') (hz : (x.toUInt32 >>> (y &&& 31).toUInt32).toInt32 = z) (H : Go p e below s k n Q T (mkF m pc' Ls (.int z :: st))) : Go p e below s k n Q T (mkF m pc Ls (.int y :: .int x :: st)) := by
  subst hp hz
  exact H.via fun t q => XS.iushr X.here hx rfl hd rfl q
theorem g_lshl (pc' : Nat) (X : Stand p l e R s m args below meth c T locs cells slots) (hx : p.tables.exec = Jvm.exec) {x z : Int64} {y : Int32} (hd : decode c.code pc = .ok (.lshl, 1)) (hp : pc + 1 = pc') (hz : x <<< (y &&& 0x3f).toInt64 = z) (H : Go p e below s k n Q T (mkF m pc' Ls (.long z :: st))) : Go p e below s k n Q T (mkF m pc Ls (.int y :: .long x :: st)) := by
  subst hp hz
  exact H.via fun t q => XS.lshl X.here hx rfl hd rfl q
theorem g_lshr (pc' : Nat) (X : Stand p l e R s m args below meth c T locs cells slots) (hx : p.tables.exec = Jvm.exec) {x z : Int64} {y : Int32} (hd : decode c.code pc = .ok (.lshr, 1)) (hp : pc + 1 = pc') (hz : x >>> (y &&& 0x3f).toInt64 = z) (H : Go p e below s k n Q T (mkF m pc' Ls (.long z :: st))) : Go p e below s k n Q T (mkF m pc Ls (.int y :: .long x :: st)) := by
  subst hp hz
  exact H.via fun t q => XS.lshr X.here hx rfl hd rfl q
theorem g_lushr (pc' : Nat) (X : Stand p l e R s m args below meth c T locs cells slots) (hx : p.tables.exec = Jvm.exec) {x z : Int64} {y : Int32} (hd : decode c.code pc = .ok (.lushr, 1)) (hp : pc + 1 = pc') (hz : (x.toUInt64 >>> (y &&& 0x3f).toInt64.toUInt64).toInt64 = z) (H : Go p e below s k n Q T (mkF m pc' Ls (.long z :: st))) : Go p e below s k n Q T (mkF m pc Ls (.int y :: .long x :: st)) := by
  subst hp hz
  exact H.via fun t q => XS.lushr X.here hx rfl hd rfl q
theorem g_idiv (pc' : Nat) (X : Stand p l e R s m args below meth c T locs cells slots) (hx : p.tables.exec = Jvm.exec) {x y z : Int32} (hd : decode c.code pc = .ok (.idiv, 1)) (hp : pc + 1 = pc') (hy : y ≠ 0) (hz : x / y = z) (H : Go p e below s k n Q T (mkF m pc' Ls (.int z :: st))) : Go p e below s k n Q T (mkF m pc Ls (.int y :: .int x :: st)) := by
  subst hp hz
  exact H.via fun t q => XS.idiv X.here hx rfl hd rfl hy q
theorem g_irem (pc' : Nat) (X : Stand p l e R s m args below meth c T locs cells slots) (hx : p.tables.exec = Jvm.exec) {x y z : Int32} (hd : decode c.code pc = .ok (.irem, 1)) (hp : pc + 1 = pc') (hy : y ≠ 0) (hz : x % y = z) (H : Go p e below s k n Q T (mkF m pc' Ls (.int z :: st))) : Go p e below s k n Q T (mkF m pc Ls (.int y :: .int x :: st)) := by
  subst hp hz
  exact H.via fun t q => iremM X hx rfl hd rfl hy q
theorem g_ldiv (pc' : Nat) (X : Stand p l e R s m args below meth c T locs cells slots) (hx : p.tables.exec = Jvm.exec) {x y z : Int64} (hd : decode c.code pc = .ok (.ldiv, 1)) (hp : pc + 1 = pc') (hy : y ≠ 0) (hz : x / y = z) (H : Go p e below s k n Q T (mkF m pc' Ls (.long z :: st))) : Go p e below s k n Q T (mkF m pc Ls (.long y :: .long x :: st)) := by
  subst hp hz
  exact H.via fun t q => XS.ldiv X.here hx rfl hd rfl hy q
theorem g_lrem (pc' : Nat) (X : Stand p l e R s m args below meth c T locs cells slots) (hx : p.tables.exec = Jvm.exec) {x y z : Int64} (hd : decode c.code pc = .ok (.lrem, 1)) (hp : pc + 1 = pc') (hy : y ≠ 0) (hz : x % y = z) (H : Go p e below s k n Q T (mkF m pc' Ls (.long z :: st))) : Go p e below s k n Q T (mkF m pc Ls (.long y :: .long x :: st)) := by
  subst hp hz
  exact H.via fun t q => XS.lrem X.here hx rfl hd rfl hy (by rw [lrem_mod]; exact q)
theorem g_ineg (pc' : Nat) (X : Stand p l e R s m args below meth c T locs cells slots) (hx : p.tables.exec = Jvm.exec) {x : Int32} {z : Int32} (hd : decode c.code pc = .ok (.ineg, 1)) (hp : pc + 1 = pc') (hz : -x = z) (H : Go p e below s k n Q T (mkF m pc' Ls (.int z :: st))) : Go p e below s k n Q T (mkF m pc Ls (.int x :: st)) := by
  subst hp hz
  exact H.via fun t q => XS.ineg X.here hx rfl hd rfl q
theorem g_lneg (pc' : Nat) (X : Stand p l e R s m args below meth c T locs cells slots) (hx : p.tables.exec = Jvm.exec) {x : Int64} {z : Int64} (hd : decode c.code pc = .ok (.lneg, 1)) (hp : pc + 1 = pc') (hz : -x = z) (H : Go p e below s k n Q T (mkF m pc' Ls (.long z :: st))) : Go p e below s k n Q T (mkF m pc Ls (.long x :: st)) := by
  subst hp hz
  exact H.via fun t q => XS.lneg X.here hx rfl hd rfl q
theorem g_i2l (pc' : Nat) (X : Stand p l e R s m args below meth c T locs cells slots) (hx : p.tables.exec = Jvm.exec) {x : Int32} {z : Int64} (hd : decode c.code pc = .ok (.i2l, 1)) (hp : pc + 1 = pc') (hz : x.toInt64 = z) (H : Go p e below s k n Q T (mkF m pc' Ls (.long z :: st))) : Go p e below s k n Q T (mkF m pc Ls (.int x :: st)) := by
  subst hp hz
  exact H.via fun t q => XS.i2l X.here hx rfl hd rfl q
theorem g_l2i (pc' : Nat) (X : Stand p l e R s m args below meth c T locs cells slots) (hx : p.tables.exec = Jvm.exec) {x : Int64} {z : Int32} (hd : decode c.code pc = .ok (.l2i, 1)) (hp : pc + 1 = pc') (hz : x.toInt32 = z) (H : Go p e below s k n Q T (mkF m pc' Ls (.int z :: st))) : Go p e below s k n Q T (mkF m pc Ls (.long x :: st)) := by
  subst hp hz
  exact H.via fun t q => XS.l2i X.here hx rfl hd rfl q
theorem g_i2b (pc' : Nat) (X : Stand p l e R s m args below meth c T locs cells slots) (hx : p.tables.exec = Jvm.exec) {x : Int32} {z : Int32} (hd : decode c.code pc = .ok (.i2b, 1)) (hp : pc + 1 = pc') (hz : x.toInt8.toInt32 = z) (H : Go p e below s k n Q T (mkF m pc' Ls (.int z :: st))) : Go p e below s k n Q T (mkF m pc Ls (.int x :: st)) := by
  subst hp hz
  exact H.via fun t q => XS.i2b X.here hx rfl hd rfl q
theorem g_i2s (pc' : Nat) (X : Stand p l e R s m args below meth c T locs cells slots) (hx : p.tables.exec = Jvm.exec) {x : Int32} {z : Int32} (hd : decode c.code pc = .ok (.i2s, 1)) (hp : pc + 1 = pc') (hz : x.toInt16.toInt32 = z) (H : Go p e below s k n Q T (mkF m pc' Ls (.int z :: st))) : Go p e below s k n Q T (mkF m pc Ls (.int x :: st)) := by
  subst hp hz
  exact H.via fun t q => XS.i2s X.here hx rfl hd rfl q
theorem g_i2c (pc' : Nat) (X : Stand p l e R s m args below meth c T locs cells slots) (hx : p.tables.exec = Jvm.exec) {x : Int32} {z : Int32} (hd : decode c.code pc = .ok (.i2c, 1)) (hp : pc + 1 = pc') (hz : x.toUInt32.toUInt16.toUInt32.toInt32 = z) (H : Go p e below s k n Q T (mkF m pc' Ls (.int z :: st))) : Go p e below s k n Q T (mkF m pc Ls (.int x :: st)) := by
  subst hp hz
  exact H.via fun t q => XS.i2c X.here hx rfl hd rfl q
theorem g_dup (pc' : Nat) (X : Stand p l e R s m args below meth c T locs cells slots) (hx : p.tables.exec = Jvm.exec) {v : Value} (hd : decode c.code pc = .ok (.dup, 1)) (hp : pc + 1 = pc') (hv : v.category = 1) (H : Go p e below s k n Q T (mkF m pc' Ls (v :: v :: st))) : Go p e below s k n Q T (mkF m pc Ls (v :: st)) := by
  subst hp
  exact H.via fun t q => XS.dup X.here hx rfl hd rfl hv q
theorem g_pop (pc' : Nat) (X : Stand p l e R s m args below meth c T locs cells slots) (hx : p.tables.exec = Jvm.exec) {v : Value} (hd : decode c.code pc = .ok (.pop, 1)) (hp : pc + 1 = pc') (hv : v.category = 1) (H : Go p e below s k n Q T (mkF m pc' Ls st)) : Go p e below s k n Q T (mkF m pc Ls (v :: st)) := by
  subst hp
  exact H.via fun t q => XS.pop X.here hx rfl hd rfl hv q
theorem g_dup_x1 (pc' : Nat) (X : Stand p l e R s m args below meth c T locs cells slots) (hx : p.tables.exec = Jvm.exec) {v w : Value} (hd : decode c.code pc = .ok (.dup_x1, 1)) (hp : pc + 1 = pc') (hv : v.category = 1) (hw : w.category = 1) (H : Go p e below s k n Q T (mkF m pc' Ls (v :: w :: v :: st))) : Go p e below s k n Q T (mkF m pc Ls (v :: w :: st)) := by
  subst hp
  exact H.via fun t q => XS.dupX1 X.here hx rfl hd rfl hv hw q
theorem g_dup2 (pc' : Nat) (X : Stand p l e R s m args below meth c T locs cells slots) (hx : p.tables.exec = Jvm.exec) {v w : Value} (hd : decode c.code pc = .ok (.dup2, 1)) (hp : pc + 1 = pc') (hv : v.category = 1) (hw : w.category = 1) (H : Go p e below s k n Q T (mkF m pc' Ls (v :: w :: v :: w :: st))) : Go p e below s k n Q T (mkF m pc Ls (v :: w :: st)) := by
  subst hp
  exact H.via fun t q => XT.dup2 X.here hx rfl hd rfl hv hw q
theorem g_iinc (pc' : Nat) (X : Stand p l e R s m args below meth c T locs cells slots) (hx : p.tables.exec = Jvm.exec) {i : Nat} {cst : Int} {x z : Int32} {Ls' : Array Slot} (hd : decode c.code pc = .ok (.iinc i cst, 3)) (hp : pc + 3 = pc') (hl : Ls[i]? = some (.val (.int x))) (hz : x + Int32.ofInt cst = z) (hl' : storeLocals Ls i (.int z) = some Ls') (H : Go p e below s k n Q T (mkF m pc' Ls' st)) : Go p e below s k n Q T (mkF m pc Ls st) := by
  subst hp hz
  exact H.via fun t q => XS.iinc X.here hx rfl hd hl hl' q
theorem g_goto (pc' : Nat) (X : Stand p l e R s m args below meth c T locs cells slots) (hx : p.tables.exec = Jvm.exec) {o : Int} (hd : decode c.code pc = .ok (.goto o, 3)) (ho : 0 ≤ (pc : Int) + o) (hp : ((pc : Int) + o).toNat = pc') (H : Go p e below s k n Q T (mkF m pc' Ls st)) : Go p e below s k n Q T (mkF m pc Ls st) :=
  H.via fun t q => XS.goto X.here hx rfl rfl hd ho hp q
theorem g_ifYes (pc' : Nat) (X : Stand p l e R s m args below meth c T locs cells slots) (hx : p.tables.exec = Jvm.exec) {cd : ClassFile.Cond} {x : Int32} {o : Int} (hd : decode c.code pc = .ok (.ifCond cd o, 3)) (hc : ifCond.holds cd x = true) (ho : 0 ≤ (pc : Int) + o) (hp : ((pc : Int) + o).toNat = pc') (H : Go p e below s k n Q T (mkF m pc' Ls st)) : Go p e below s k n Q T (mkF m pc Ls (.int x :: st)) :=
  H.via fun t q => XS.ifYes X.here hx rfl rfl hd rfl hc ho hp q
theorem g_ifNo (pc' : Nat) (X : Stand p l e R s m args below meth c T locs cells slots) (hx : p.tables.exec = Jvm.exec) {cd : ClassFile.Cond} {x : Int32} {o : Int} (hd : decode c.code pc = .ok (.ifCond cd o, 3)) (hc : ifCond.holds cd x = false) (hp : pc + 3 = pc') (H : Go p e below s k n Q T (mkF m pc' Ls st)) : Go p e below s k n Q T (mkF m pc Ls (.int x :: st)) := by
  subst hp
  exact H.via fun t q => XS.ifNo X.here hx rfl hd rfl hc q
theorem g_icmpYes (pc' : Nat) (X : Stand p l e R s m args below meth c T locs cells slots) (hx : p.tables.exec = Jvm.exec) {cd : ClassFile.Cond} {x y : Int32} {o : Int} (hd : decode c.code pc = .ok (.if_icmp cd o, 3)) (hc : if_icmp.holds cd x y = true) (ho : 0 ≤ (pc : Int) + o) (hp : ((pc : Int) + o).toNat = pc') (H : Go p e below s k n Q T (mkF m pc' Ls st)) : Go p e below s k n Q T (mkF m pc Ls (.int y :: .int x :: st)) :=
  H.via fun t q => XS.icmpYes X.here hx rfl rfl hd rfl hc ho hp q
theorem g_icmpNo (pc' : Nat) (X : Stand p l e R s m args below meth c T locs cells slots) (hx : p.tables.exec = Jvm.exec) {cd : ClassFile.Cond} {x y : Int32} {o : Int} (hd : decode c.code pc = .ok (.if_icmp cd o, 3)) (hc : if_icmp.holds cd x y = false) (hp : pc + 3 = pc') (H : Go p e below s k n Q T (mkF m pc' Ls st)) : Go p e below s k n Q T (mkF m pc Ls (.int y :: .int x :: st)) := by
  subst hp
  exact H.via fun t q => XS.icmpNo X.here hx rfl hd rfl hc q
theorem g_lcmpYes (pc' : Nat) (X : Stand p l e R s m args below meth c T locs cells slots) (hx : p.tables.exec = Jvm.exec) {cd : ClassFile.Cond} {x y : Int64} {o : Int} {pc1 : Nat} (hd : decode c.code pc = .ok (.lcmp, 1)) (hp1 : pc + 1 = pc1) (hd' : decode c.code pc1 = .ok (.ifCond cd o, 3)) (hc : ifCond.holds cd (lcmpW x y) = true) (ho : 0 ≤ (pc1 : Int) + o) (hp : ((pc1 : Int) + o).toNat = pc') (H : Go p e below s k n Q T (mkF m pc' Ls st)) : Go p e below s k n Q T (mkF m pc Ls (.long y :: .long x :: st)) := by
  subst hp1
  exact H.via fun t q => XS.lcmp X.here hx rfl hd rfl (XS.ifYes X.here hx rfl rfl hd' rfl hc ho hp q)
theorem g_lcmpNo (pc' : Nat) (X : Stand p l e R s m args below meth c T locs cells slots) (hx : p.tables.exec = Jvm.exec) {cd : ClassFile.Cond} {x y : Int64} {o : Int} {pc1 : Nat} (hd : decode c.code pc = .ok (.lcmp, 1)) (hp1 : pc + 1 = pc1) (hd' : decode c.code pc1 = .ok (.ifCond cd o, 3)) (hc : ifCond.holds cd (lcmpW x y) = false) (hp : pc1 + 3 = pc') (H : Go p e below s k n Q T (mkF m pc' Ls st)) : Go p e below s k n Q T (mkF m pc Ls (.long y :: .long x :: st)) := by
  subst hp1; subst hp
  exact H.via fun t q => XS.lcmp X.here hx rfl hd rfl (XS.ifNo X.here hx rfl hd' rfl hc q)
theorem g_ifnullYes (pc' : Nat) (X : Stand p l e R s m args below meth c T locs cells slots) (hx : p.tables.exec = Jvm.exec) {b : Addr} {o : Int} (hd : decode c.code pc = .ok (.ifnull o, 3)) (ho : 0 ≤ (pc : Int) + o) (hp : ((pc : Int) + o).toNat = pc') (H : Go p e below s k n Q T (mkF m pc' Ls st)) : Go p e below s k n Q T (mkF m pc Ls (.null :: st)) :=
  H.via fun t q => XS.ifnullYes X.here hx rfl rfl hd rfl ho hp q
theorem g_ifnullNo (pc' : Nat) (X : Stand p l e R s m args below meth c T locs cells slots) (hx : p.tables.exec = Jvm.exec) {b : Addr} {o : Int} (hd : decode c.code pc = .ok (.ifnull o, 3)) (hp : pc + 3 = pc') (H : Go p e below s k n Q T (mkF m pc' Ls st)) : Go p e below s k n Q T (mkF m pc Ls (.ref b :: st)) := by
  subst hp
  exact H.via fun t q => XS.ifnullNo X.here hx rfl hd rfl q
theorem g_ifnonnullYes (pc' : Nat) (X : Stand p l e R s m args below meth c T locs cells slots) (hx : p.tables.exec = Jvm.exec) {b : Addr} {o : Int} (hd : decode c.code pc = .ok (.ifnonnull o, 3)) (ho : 0 ≤ (pc : Int) + o) (hp : ((pc : Int) + o).toNat = pc') (H : Go p e below s k n Q T (mkF m pc' Ls st)) : Go p e below s k n Q T (mkF m pc Ls (.ref b :: st)) :=
  H.via fun t q => XS.ifnonnullYes X.here hx rfl rfl hd rfl ho hp q
theorem g_ifnonnullNo (pc' : Nat) (X : Stand p l e R s m args below meth c T locs cells slots) (hx : p.tables.exec = Jvm.exec) {b : Addr} {o : Int} (hd : decode c.code pc = .ok (.ifnonnull o, 3)) (hp : pc + 3 = pc') (H : Go p e below s k n Q T (mkF m pc' Ls st)) : Go p e below s k n Q T (mkF m pc Ls (.null :: st)) := by
  subst hp
  exact H.via fun t q => XS.ifnonnullNo X.here hx rfl hd rfl q
theorem g_ldc (pc' : Nat) (X : Stand p l e R s m args below meth c T locs cells slots) (hx : p.tables.exec = Jvm.exec) (hZ : Z.Warmed39 s.vm) {own : String} {index : Nat} {z : Int32} (hown : s.vm.findClass own = some m.cls) (w : (Cond.constant own index z).before a0 Z = true) (hd : decode c.code pc = .ok (.ldc index, 2)) (hp : pc + 2 = pc') (H : Go p e below s k n Q T (mkF m pc' Ls (.int z :: st))) : Go p e below s k n Q T (mkF m pc Ls st) := by
  subst hp
  exact H.via fun t q => X.ldcInt hx hown (mvT hZ w) (g := mkF m pc Ls st) rfl hd t q
theorem g_ldc2 (pc' : Nat) (X : Stand p l e R s m args below meth c T locs cells slots) (hx : p.tables.exec = Jvm.exec) (hZ : Z.Warmed39 s.vm) {own : String} {index : Nat} {z : Int64} (hown : s.vm.findClass own = some m.cls) (w : (Cond.constantLong own index z).before a0 Z = true) (hd : decode c.code pc = .ok (.ldc2_w index, 3)) (hp : pc + 3 = pc') (H : Go p e below s k n Q T (mkF m pc' Ls (.long z :: st))) : Go p e below s k n Q T (mkF m pc Ls st) := by
  subst hp
  exact H.via fun t q => X.ldc2Long hx hown (mvT hZ w) (g := mkF m pc Ls st) rfl hd t q
theorem g_retI (X : Stand p l e R s m args below meth c T locs cells slots) (hx : p.tables.exec = Jvm.exec) (hret : meth.sig.returnType = some .int) (hlk : meth.locks = false) {z : Int32} (hd : decode c.code pc = .ok (.ireturn, 1)) (hk : cells ≤ k) (hn : slots ≤ n) (hQ : Q (some (.int z)) T.heap locs) : Go p e below s k n Q T (mkF m pc Ls (.int z :: st)) := by
  obtain ⟨fs, hr, hrun, hended, hW, hsame⟩ := X.leave (v := some (.int z)) (fun q => by rw [hret] at q; cases q) hlk
  exact ⟨_, _, retOut X hx hret rfl (Or.inl ⟨rfl, Or.inl rfl, z, rfl⟩) hd hr, hrun, hended, _, _, rfl, hQ, ⟨_, rfl⟩, hW, hsame.mono hk hn⟩
theorem g_retJ (X : Stand p l e R s m args below meth c T locs cells slots) (hx : p.tables.exec = Jvm.exec) (hret : meth.sig.returnType = some .long) (hlk : meth.locks = false) {z : Int64} (hd : decode c.code pc = .ok (.lreturn, 1)) (hk : cells ≤ k) (hn : slots ≤ n) (hQ : Q (some (.long z)) T.heap locs) : Go p e below s k n Q T (mkF m pc Ls (.long z :: st)) := by
  obtain ⟨fs, hr, hrun, hended, hW, hsame⟩ := X.leave (v := some (.long z)) (fun q => by rw [hret] at q; cases q) hlk
  exact ⟨_, _, retOut X hx hret rfl (Or.inr (Or.inl ⟨rfl, rfl, z, rfl⟩)) hd hr, hrun, hended, _, _, rfl, hQ, ⟨_, rfl⟩, hW, hsame.mono hk hn⟩
theorem g_retA {ty : FieldType} (X : Stand p l e R s m args below meth c T locs cells slots) (hx : p.tables.exec = Jvm.exec) (hret : meth.sig.returnType = some ty) (hlk : meth.locks = false) {v : Value} (hty : ty.isReference = true) (hv : v.isRef = true) (hnv : narrow ty v = v) (hd : decode c.code pc = .ok (.areturn, 1)) (hk : cells ≤ k) (hn : slots ≤ n) (hQ : Q (some v) T.heap locs) : Go p e below s k n Q T (mkF m pc Ls (v :: st)) := by
  obtain ⟨fs, hr, hrun, hended, hW, hsame⟩ := X.leave (v := some v) (fun q => by rw [hret] at q; cases q) hlk
  exact ⟨_, _, retOut X hx hret hnv (Or.inr (Or.inr (Or.inr (Or.inr ⟨rfl, hty, hv⟩)))) hd hr, hrun, hended, _, _, rfl, hQ, ⟨_, rfl⟩, hW, hsame.mono hk hn⟩
theorem g_ret0 (X : Stand p l e R s m args below meth c T locs cells slots) (hx : p.tables.exec = Jvm.exec) (hret : meth.sig.returnType = none) (hlk : meth.locks = false) (hd : decode c.code pc = .ok (.return_, 1)) (hk : cells ≤ k) (hn : slots ≤ n) (hQ : Q (none) T.heap locs) : Go p e below s k n Q T (mkF m pc Ls []) := by
  obtain ⟨fs, hr, hrun, hended, hW, hsame⟩ := X.leave (v := none) (fun _ => rfl) hlk
  exact ⟨_, _, X.returnOut hx hret hd hr, hrun, hended, _, _, rfl, hQ, ⟨_, rfl⟩, hW, hsame.mono hk hn⟩
theorem g_retN (X : Stand p l e R s m args below meth c T locs cells slots) (hx : p.tables.exec = Jvm.exec) {t : FieldType} (hret : meth.sig.returnType = some t) (hlk : meth.locks = false) {z z' : Int32} (ht : t = .boolean ∨ t = .byte ∨ t = .char ∨ t = .short) (hz : nar t z = z') (hd : decode c.code pc = .ok (.ireturn, 1)) (hk : cells ≤ k) (hn : slots ≤ n) (hQ : Q (some (.int z')) T.heap locs) : Go p e below s k n Q T (mkF m pc Ls (.int z :: st)) := by
  subst hz
  obtain ⟨fs, hr, hrun, hended, hW, hsame⟩ := X.leave (v := some (.int (nar t z))) (fun q => by rw [hret] at q; cases q) hlk
  exact ⟨_, _, retN X hx hret ht hd hr, hrun, hended, _, _, rfl, hQ, ⟨_, rfl⟩, hW, hsame.mono hk hn⟩
theorem g_getF (pc' : Nat) (X : Stand p l e R s m args below meth c T locs cells slots) (hx : p.tables.exec = Jvm.exec) (hZ : Z.Warmed39 s.vm) {own R0 O nm d : String} {index : Nat} (hown : s.vm.findClass own = some m.cls) (w : (Cond.fieldLink own index R0 nm d).before a0 Z = true) (via : Via Z R0 O nm d) (eT : T.heap = h) {a : Addr} {v : Value} (F : Fld Z h a O nm d v) (hd : decode c.code pc = .ok (.getfield index, 3)) (hp : pc + 3 = pc') (H : ∀ T', Stand p l e R s m args below meth c T' locs cells slots → T'.heap = h → Go p e below s k n Q T' (mkF m pc' Ls (v :: st))) : Go p e below s k n Q T (mkF m pc Ls (.ref a :: st)) := by
  subst hp
  obtain ⟨T', X', e', q⟩ := getF X hx hZ hown (host := "") (Or.inl w) via eT F (g := mkF m pc Ls (.ref a :: st)) rfl rfl hd
  exact (H T' X' e').via q
theorem g_putF (pc' : Nat) (X : Stand p l e R s m args below meth c T locs cells slots) (hx : p.tables.exec = Jvm.exec) (hZ : Z.Warmed39 s.vm) {own R0 O nm d C : String} {index kk : Nat} {ty : FieldType} (hown : s.vm.findClass own = some m.cls) (w : (Cond.fieldLink own index R0 nm d).before a0 Z = true) (via : Via Z R0 O nm d) (eT : T.heap = h) {a : Addr} {v old : Value} (F : Fld Z h a O nm d old) (E : Exa Z h a C) (L : (Cond.lays C O nm d).before a0 Z = true ∨ ((Cond.laysFinal C O nm d).before a0 Z = true ∧ own = O ∧ meth.name = "<init>")) (wi : (Cond.instantiable C kk).before a0 Z = true) (hty : parseFieldDescriptor d = some ty) (hn : narrow ty v = v) (hf : fits ty v = true) (hd : decode c.code pc = .ok (.putfield index, 3)) (hp : pc + 3 = pc') (H : ∀ T' h', Stand p l e R s m args below meth c T' (locs ++ [⟨a, Jvm.RoadKit.slotOf Z O nm d⟩]) cells slots → T'.heap = h' → Wr h h' a (Jvm.RoadKit.slotOf Z O nm d) v → Go p e below s k n Q T' (mkF m pc' Ls st)) : Go p e below s k n Q T (mkF m pc Ls (v :: .ref a :: st)) := by
  subst hp
  obtain ⟨T', h', X', e', W, q⟩ := putF X hx hZ hown (host := "") (Or.inl w) via eT F E L wi hty hn hf (g := mkF m pc Ls (v :: .ref a :: st)) rfl rfl hd
  exact (H T' h' X' e' W).via q
theorem g_newO (pc' : Nat) (X : Stand p l e R s m args below meth c T locs cells slots) (hx : p.tables.exec = Jvm.exec) (hZ : Z.Warmed39 s.vm) {own C : String} {index nn : Nat} (hown : s.vm.findClass own = some m.cls) (w : (Cond.classLink own index C).before a0 Z = true) (wi : (Cond.instantiable C nn).before a0 Z = true) (wz : (Cond.initialized C).before a0 Z = true) (eT : T.heap = h) (hd : decode c.code pc = .ok (.new index, 3)) (hc : cells + 1 ≤ R.cells) (hl : slots + nn ≤ R.slots) (hp : pc + 3 = pc') (H : ∀ T' h' b, Stand p l e R s m args below meth c T' locs (cells + 1) (slots + nn) → T'.heap = h' → Ext h h' → b = h.size → Exa Z h' b C → (∀ {O nm d : String} {ty : FieldType}, Laid Z a0 C O nm d → parseFieldDescriptor d = some ty → Fld Z h' b O nm d (defaultValue ty)) → Go p e below s k n Q T' (mkF m pc' Ls (.ref b :: st))) : Go p e below s k n Q T (mkF m pc Ls st) := by
  subst hp
  obtain ⟨T', h', X', e', E, A, D, -, q⟩ := newO X hx hZ hown w wi wz eT (g := mkF m pc Ls st) rfl hd hc hl
  exact (H T' h' _ X' e' E rfl A D).via q
theorem g_initO (pc' : Nat) (X : Stand p l e R s m args below meth c T locs cells slots) (hx : p.tables.exec = Jvm.exec) (hZ : Z.Warmed39 s.vm) {own : String} {idx : Nat} (hown : s.vm.findClass own = some m.cls) (w1 : (Cond.methodLink own idx Lib.objectInit).before a0 Z = true) (w2 : (Cond.instanceMethod Lib.objectInit).before a0 Z = true) (w3 : (Cond.code Lib.objectInit ⟨#[0xb1]⟩ 1 none).before a0 Z = true) (eT : T.heap = h) (hsize : Ls.size = c.maxLocals) {a : Addr} (hd : decode c.code pc = .ok (.invokespecial idx, 3)) (hf : 1 ≤ R.frames) (W : Nat) (hW : (st.map fun v => v.category).sum ≤ W) (hl : W + 12 ≤ R.locals) (hp : pc + 3 = pc') (H : ∀ T', Stand p l e R s m args below meth c T' locs cells slots → T'.heap = h → Go p e below s k n Q T' (mkF m pc' Ls st)) : Go p e below s k n Q T (mkF m pc Ls (.ref a :: st)) := by
  subst hp
  obtain ⟨T', X', e', q⟩ := initO X hx hZ hown w1 w2 w3 eT (g := mkF m pc Ls (.ref a :: st)) rfl hsize rfl hd hf (W := W) (by show 2 * 0 + _ ≤ _; omega) hl
  exact (H T' X' e').via q
theorem g_callS (pc' : Nat) (X : Stand p l e R s m args below meth c T locs cells slots) (hx : p.tables.exec = Jvm.exec) (hZ : Z.Warmed39 s.vm) {own : String} {index : Nat} {y : MethodName} {bytes : ByteArray} {maxL : Nat} {ret : Option FieldType} {rm : Room} {as' : Array Value} {Qc : Option Value → Heap → List Loc → Prop} (hown : s.vm.findClass own = some m.cls) (w1 : (Cond.methodLink own index y).before a0 Z = true) (w2 : (Cond.static y).before a0 Z = true) (w3 : (Cond.initialized y.cls).before a0 Z = true) (w4 : (Cond.code y bytes maxL ret).before a0 Z = true) (hy : y.cls ≠ "java/lang/invoke/MethodHandle" ∧ y.cls ≠ "java/lang/invoke/VarHandle") (eT : T.heap = h) (hM : MetFree l y (head1 [Cond.code y bytes maxL ret] rm) (fun a U => a = as' ∧ Z.Warmed39 U.vm ∧ U.heap = h) (fun _ _ _ _ _ => True) (fun _ U o U' => ∃ v L, o = .returned v ∧ Qc v U'.heap L ∧ FrameEnd U o U' L rm.cells rm.slots)) (hsize : Ls.size = c.maxLocals) (argsL rest : List Value) (ha : argsL.toArray = as') (hst : st = argsL.reverse ++ rest) (hlen : ∀ sig, parseMethodDescriptor y.desc = some sig → argsL.length = sig.parameters.length) (W : Nat) (hW : (rest.map fun v => v.category).sum ≤ W) (hd : decode c.code pc = .ok (.invokestatic index, 3)) (hfr : rm.frames + 1 ≤ R.frames) (hlo : W + (maxL + 11) + rm.locals ≤ R.locals) (hce : cells + rm.cells ≤ R.cells) (hsl : slots + rm.slots ≤ R.slots) (hp : pc + 3 = pc') (H : ∀ v T' L, Stand p l e R s m args below meth c T' (locs ++ L) (cells + rm.cells) (slots + rm.slots) → Qc v T'.heap L → Go p e below s k n Q T' (mkF m pc' Ls (v.toList ++ rest))) : Go p e below s k n Q T (mkF m pc Ls st) := by
  subst hp hst
  obtain ⟨v, _, ⟨T', L, k', n'⟩, -, X', ⟨Lc, hQ, l1, l2, l3⟩, q⟩ := Jvm.LawKit.callS X hx (y := y) hown (mvT hZ w1) (mvT hZ w2) (mvT hZ w3) (mvT hZ w4) hy (backOf (W := W) hM hZ w4 w3 hfr hlo) (g := mkF m pc Ls (argsL.reverse ++ rest)) rfl hsize (argsL := argsL) (rest := rest) hlen rfl (by show 2 * 0 + _ ≤ _; omega) hd (fun _ _ => ⟨ha, eT, hce, hsl⟩)
  dsimp only [Pt.U, Pt.locs, Pt.cells, Pt.slots] at X' l1 l2 l3 q hQ
  subst l1 l2 l3
  exact (H v T' Lc X' hQ).via q
theorem g_callI (pc' : Nat) (X : Stand p l e R s m args below meth c T locs cells slots) (hx : p.tables.exec = Jvm.exec) (hZ : Z.Warmed39 s.vm) {own : String} {index : Nat} {y : MethodName} {bytes : ByteArray} {maxL : Nat} {rm : Room} {as' : Array Value} {Qc : Option Value → Heap → List Loc → Prop} (hy1 : y.name = "<init>") (hown : s.vm.findClass own = some m.cls) (w1 : (Cond.methodLink own index y).before a0 Z = true) (w2 : (Cond.instanceMethod y).before a0 Z = true) (w3 : (Cond.initialized y.cls).before a0 Z = true) (w4 : (Cond.code y bytes maxL none).before a0 Z = true) (hy : y.cls ≠ "java/lang/invoke/MethodHandle" ∧ y.cls ≠ "java/lang/invoke/VarHandle") (eT : T.heap = h) (hM : MetFree l y (head1 [Cond.code y bytes maxL none] rm) (fun a U => a = as' ∧ Z.Warmed39 U.vm ∧ U.heap = h) (fun _ _ _ _ _ => True) (fun _ U o U' => ∃ v L, o = .returned v ∧ Qc v U'.heap L ∧ FrameEnd U o U' L rm.cells rm.slots)) (hsize : Ls.size = c.maxLocals) (a : Addr) (argsL rest : List Value) (ha : (.ref a :: argsL).toArray = as') (hst : st = argsL.reverse ++ .ref a :: rest) (hlen : ∀ sig, parseMethodDescriptor y.desc = some sig → argsL.length = sig.parameters.length) (W : Nat) (hW : (rest.map fun v => v.category).sum ≤ W) (hd : decode c.code pc = .ok (.invokespecial index, 3)) (hfr : rm.frames + 1 ≤ R.frames) (hlo : W + (maxL + 11) + rm.locals ≤ R.locals) (hce : cells + rm.cells ≤ R.cells) (hsl : slots + rm.slots ≤ R.slots) (hp : pc + 3 = pc') (H : ∀ v T' L, Stand p l e R s m args below meth c T' (locs ++ L) (cells + rm.cells) (slots + rm.slots) → Qc v T'.heap L → Go p e below s k n Q T' (mkF m pc' Ls (v.toList ++ rest))) : Go p e below s k n Q T (mkF m pc Ls st) := by
  subst hp hst
  obtain ⟨v, _, ⟨T', L, k', n'⟩, -, X', ⟨Lc, hQ, l1, l2, l3⟩, q⟩ := X.specialBack hx (y := y) hy1 hown (mvT hZ w1) (mvT hZ w2) (mvT hZ w4) hy (backOf (W := W) hM hZ w4 w3 hfr hlo) (g := mkF m pc Ls (argsL.reverse ++ .ref a :: rest)) rfl hsize (Steps.refl _) (a := a) (argsL := argsL) (rest := rest) hlen rfl (by show 2 * 0 + _ ≤ _; omega) hd (fun _ _ => ⟨ha, eT, hce, hsl⟩)
  dsimp only [Pt.U, Pt.locs, Pt.cells, Pt.slots] at X' l1 l2 l3 q hQ
  subst l1 l2 l3
  exact (H v T' Lc X' hQ).via fun t r => q.trans r
theorem g_callV (pc' : Nat) (X : Stand p l e R s m args below meth c T locs cells slots) (hx : p.tables.exec = Jvm.exec) (hZ : Z.Warmed39 s.vm) {own : String} {index : Nat} {y : MethodName} {bytes : ByteArray} {maxL : Nat} {ret : Option FieldType} {rm : Room} {as' : Array Value} {Qc : Option Value → Heap → List Loc → Prop} (hown : s.vm.findClass own = some m.cls) (w1 : (Cond.methodLink own index y).before a0 Z = true) (w2 : (Cond.declares y).before a0 Z = true) (w5 : (Cond.selects y.cls y y).before a0 Z = true) (w6 : (Cond.instanceMethod y).before a0 Z = true) (w3 : (Cond.initialized y.cls).before a0 Z = true) (w4 : (Cond.code y bytes maxL ret).before a0 Z = true) (hy : y.cls ≠ "java/lang/invoke/MethodHandle" ∧ y.cls ≠ "java/lang/invoke/VarHandle") (eT : T.heap = h) {a : Addr} (E : Exa Z h a y.cls) (hM : MetFree l y (head1 [Cond.code y bytes maxL ret] rm) (fun a U => a = as' ∧ Z.Warmed39 U.vm ∧ U.heap = h) (fun _ _ _ _ _ => True) (fun _ U o U' => ∃ v L, o = .returned v ∧ Qc v U'.heap L ∧ FrameEnd U o U' L rm.cells rm.slots)) (hsize : Ls.size = c.maxLocals) (argsL rest : List Value) (ha : (.ref a :: argsL).toArray = as') (hst : st = argsL.reverse ++ .ref a :: rest) (hlen : ∀ sig, parseMethodDescriptor y.desc = some sig → argsL.length = sig.parameters.length) (W : Nat) (hW : (rest.map fun v => v.category).sum ≤ W) (hd : decode c.code pc = .ok (.invokevirtual index, 3)) (hfr : rm.frames + 1 ≤ R.frames) (hlo : W + (maxL + 11) + rm.locals ≤ R.locals) (hce : cells + rm.cells ≤ R.cells) (hsl : slots + rm.slots ≤ R.slots) (hp : pc + 3 = pc') (H : ∀ v T' L, Stand p l e R s m args below meth c T' (locs ++ L) (cells + rm.cells) (slots + rm.slots) → Qc v T'.heap L → Go p e below s k n Q T' (mkF m pc' Ls (v.toList ++ rest))) : Go p e below s k n Q T (mkF m pc Ls st) := by
  subst hp hst
  obtain ⟨cq, kq, qa, qb, qc⟩ := isOf hZ eT E
  obtain ⟨v, _, ⟨T', L, k', n'⟩, -, X', ⟨Lc, hQ, l1, l2, l3⟩, q⟩ := X.virtualBack hx (y := y) (z := y) hown (mvT hZ w1) (mvT hZ w2) (notFace_of_selects (args := #[]) (mvT hZ w5)) (mvT hZ w5) (mvT hZ w6) hy (backOf (W := W) hM hZ w4 w3 hfr hlo) qa qc (g := mkF m pc Ls (argsL.reverse ++ .ref a :: rest)) rfl hsize (Steps.refl _) (argsL := argsL) (rest := rest) hlen rfl (by show 2 * 0 + _ ≤ _; omega) hd (fun _ _ => ⟨ha, eT, hce, hsl⟩)
  dsimp only [Pt.U, Pt.locs, Pt.cells, Pt.slots] at X' l1 l2 l3 q hQ
  subst l1 l2 l3
  exact (H v T' Lc X' hQ).via fun t r => q.trans r
/-- an array of ints (bytes, chars, shorts, booleans) at a, whole -/
def AI (Z : State) (h : Heap) (a : Addr) (ty : FieldType) (bs : List Int32) : Prop := ∃ c : Cell, Arr Z h a c ty ∧ c.slots = (bs.map Value.int).toArray ∧ bs.length < 2 ^ 31
/-- an array of longs at a, whole -/
def AJ (Z : State) (h : Heap) (a : Addr) (bs : List Int64) : Prop := ∃ c : Cell, Arr Z h a c .long ∧ c.slots = (bs.map Value.long).toArray ∧ bs.length < 2 ^ 31
theorem AI.lt {a : Addr} {ty : FieldType} {bs : List Int32} (A : AI Z h a ty bs) : a < h.size := by obtain ⟨c, A, -⟩ := A; exact A.lt
theorem AI.ext {a : Addr} {ty : FieldType} {bs : List Int32} (A : AI Z h a ty bs) (E : Ext h h') : AI Z h' a ty bs := by obtain ⟨c, A, r⟩ := A; exact ⟨c, A.ext E, r⟩
theorem AI.other {a b : Addr} {ty : FieldType} {bs : List Int32} {sl : Nat} {v : Value} (A : AI Z h b ty bs) (W : Wr h h' a sl v) (q : b ≠ a) : AI Z h' b ty bs := by obtain ⟨c, A, r⟩ := A; exact ⟨c, A.other W q, r⟩
theorem AI.keep {a : Addr} {ty : FieldType} {bs : List Int32} {ws : List Addr} (A : AI Z h a ty bs) (K : Keep h h' ws) (q : a ∉ ws) : AI Z h' a ty bs := by obtain ⟨c, A, r⟩ := A; exact ⟨c, ⟨K.2.1 a c A.1 q, A.2⟩, r⟩
theorem AJ.lt {a : Addr} {bs : List Int64} (A : AJ Z h a bs) : a < h.size := by obtain ⟨c, A, -⟩ := A; exact A.lt
theorem AJ.ext {a : Addr} {bs : List Int64} (A : AJ Z h a bs) (E : Ext h h') : AJ Z h' a bs := by obtain ⟨c, A, r⟩ := A; exact ⟨c, A.ext E, r⟩
theorem AJ.other {a b : Addr} {bs : List Int64} {sl : Nat} {v : Value} (A : AJ Z h b bs) (W : Wr h h' a sl v) (q : b ≠ a) : AJ Z h' b bs := by obtain ⟨c, A, r⟩ := A; exact ⟨c, A.other W q, r⟩
theorem AJ.keep {a : Addr} {bs : List Int64} {ws : List Addr} (A : AJ Z h a bs) (K : Keep h h' ws) (q : a ∉ ws) : AJ Z h' a bs := by obtain ⟨c, A, r⟩ := A; exact ⟨c, ⟨K.2.1 a c A.1 q, A.2⟩, r⟩
theorem own_inI {a : Addr} {c : Cell} {bs : List Int32} {j : Int32} {i : Nat} (S : c.slots = (bs.map Value.int).toArray) (h0 : ¬ j < 0) (hj : j.toNatClampNeg = i) (hi : i < bs.length) : ¬ (j < 0 ∨ c.slots.size ≤ j.toNatClampNeg) := by
  rw [S]; simp [h0, hj]; omega
theorem own_inJ {a : Addr} {c : Cell} {bs : List Int64} {j : Int32} {i : Nat} (S : c.slots = (bs.map Value.long).toArray) (h0 : ¬ j < 0) (hj : j.toNatClampNeg = i) (hi : i < bs.length) : ¬ (j < 0 ∨ c.slots.size ≤ j.toNatClampNeg) := by
  rw [S]; simp [h0, hj]; omega
theorem own_setI {c : Cell} {bs : List Int32} {i : Nat} {x : Int32} (S : c.slots = (bs.map Value.int).toArray) : (c.setSlot i (.int x)).slots = ((bs.set i x).map Value.int).toArray := by
  simp [Cell.setSlot, S, List.map_set]
theorem own_setJ {c : Cell} {bs : List Int64} {i : Nat} {x : Int64} (S : c.slots = (bs.map Value.long).toArray) : (c.setSlot i (.long x)).slots = ((bs.set i x).map Value.long).toArray := by
  simp [Cell.setSlot, S, List.map_set]
theorem g_bastore (pc' : Nat) (X : Stand p l e R s m args below meth c T locs cells slots) (hx : p.tables.exec = Jvm.exec) (hZ : Z.Warmed39 s.vm) (eT : T.heap = h) {a : Addr} {bs : List Int32} (A : AI Z h a .byte bs) {j x : Int32} (i : Nat) (h0 : ¬ j < 0) (hj : j.toNatClampNeg = i) (hi : i < bs.length) {z : Int32} (hz : x.toInt8.toInt32 = z) (hd : decode c.code pc = .ok (.bastore, 1)) (hp : pc + 1 = pc') (H : ∀ T' h', Stand p l e R s m args below meth c T' (locs ++ [⟨a, i⟩]) cells slots → T'.heap = h' → Wr h h' a i (.int z) → AI Z h' a .byte (bs.set i z) → Go p e below s k n Q T' (mkF m pc' Ls st)) : Go p e below s k n Q T (mkF m pc Ls (.int x :: .int j :: .ref a :: st)) := by
  subst hp hz hj
  obtain ⟨cl, A, S, hl⟩ := A
  obtain ⟨T', h', X', e', W, q⟩ := stB X hx hZ eT A (own_inI (a := a) S h0 rfl hi) (g := mkF m pc Ls (.int x :: .int j :: .ref a :: st)) rfl rfl hd
  exact (H T' h' X' e' W ⟨_, A.same W, own_setI S, by simpa using hl⟩).via q
theorem g_iastore (pc' : Nat) (X : Stand p l e R s m args below meth c T locs cells slots) (hx : p.tables.exec = Jvm.exec) (hZ : Z.Warmed39 s.vm) (eT : T.heap = h) {a : Addr} {bs : List Int32} (A : AI Z h a .int bs) {j x : Int32} (i : Nat) (h0 : ¬ j < 0) (hj : j.toNatClampNeg = i) (hi : i < bs.length) {z : Int32} (hz : x = z) (hd : decode c.code pc = .ok (.iastore, 1)) (hp : pc + 1 = pc') (H : ∀ T' h', Stand p l e R s m args below meth c T' (locs ++ [⟨a, i⟩]) cells slots → T'.heap = h' → Wr h h' a i (.int z) → AI Z h' a .int (bs.set i z) → Go p e below s k n Q T' (mkF m pc' Ls st)) : Go p e below s k n Q T (mkF m pc Ls (.int x :: .int j :: .ref a :: st)) := by
  subst hp hz hj
  obtain ⟨cl, A, S, hl⟩ := A
  obtain ⟨T', h', X', e', W, q⟩ := stI X hx hZ eT A (own_inI (a := a) S h0 rfl hi) (g := mkF m pc Ls (.int x :: .int j :: .ref a :: st)) rfl rfl hd
  exact (H T' h' X' e' W ⟨_, A.same W, own_setI S, by simpa using hl⟩).via q
theorem g_castore (pc' : Nat) (X : Stand p l e R s m args below meth c T locs cells slots) (hx : p.tables.exec = Jvm.exec) (hZ : Z.Warmed39 s.vm) (eT : T.heap = h) {a : Addr} {bs : List Int32} (A : AI Z h a .char bs) {j x : Int32} (i : Nat) (h0 : ¬ j < 0) (hj : j.toNatClampNeg = i) (hi : i < bs.length) {z : Int32} (hz : x.toUInt32.toUInt16.toUInt32.toInt32 = z) (hd : decode c.code pc = .ok (.castore, 1)) (hp : pc + 1 = pc') (H : ∀ T' h', Stand p l e R s m args below meth c T' (locs ++ [⟨a, i⟩]) cells slots → T'.heap = h' → Wr h h' a i (.int z) → AI Z h' a .char (bs.set i z) → Go p e below s k n Q T' (mkF m pc' Ls st)) : Go p e below s k n Q T (mkF m pc Ls (.int x :: .int j :: .ref a :: st)) := by
  subst hp hz hj
  obtain ⟨cl, A, S, hl⟩ := A
  obtain ⟨T', h', X', e', W, q⟩ := stC X hx hZ eT A (own_inI (a := a) S h0 rfl hi) (g := mkF m pc Ls (.int x :: .int j :: .ref a :: st)) rfl rfl hd
  exact (H T' h' X' e' W ⟨_, A.same W, own_setI S, by simpa using hl⟩).via q
theorem g_sastore (pc' : Nat) (X : Stand p l e R s m args below meth c T locs cells slots) (hx : p.tables.exec = Jvm.exec) (hZ : Z.Warmed39 s.vm) (eT : T.heap = h) {a : Addr} {bs : List Int32} (A : AI Z h a .short bs) {j x : Int32} (i : Nat) (h0 : ¬ j < 0) (hj : j.toNatClampNeg = i) (hi : i < bs.length) {z : Int32} (hz : x.toInt16.toInt32 = z) (hd : decode c.code pc = .ok (.sastore, 1)) (hp : pc + 1 = pc') (H : ∀ T' h', Stand p l e R s m args below meth c T' (locs ++ [⟨a, i⟩]) cells slots → T'.heap = h' → Wr h h' a i (.int z) → AI Z h' a .short (bs.set i z) → Go p e below s k n Q T' (mkF m pc' Ls st)) : Go p e below s k n Q T (mkF m pc Ls (.int x :: .int j :: .ref a :: st)) := by
  subst hp hz hj
  obtain ⟨cl, A, S, hl⟩ := A
  obtain ⟨T', h', X', e', W, q⟩ := stS X hx hZ eT A (own_inI (a := a) S h0 rfl hi) (g := mkF m pc Ls (.int x :: .int j :: .ref a :: st)) rfl rfl hd
  exact (H T' h' X' e' W ⟨_, A.same W, own_setI S, by simpa using hl⟩).via q
theorem g_lastore (pc' : Nat) (X : Stand p l e R s m args below meth c T locs cells slots) (hx : p.tables.exec = Jvm.exec) (hZ : Z.Warmed39 s.vm) (eT : T.heap = h) {a : Addr} {bs : List Int64} (A : AJ Z h a bs) {j : Int32} {x : Int64} (i : Nat) (h0 : ¬ j < 0) (hj : j.toNatClampNeg = i) (hi : i < bs.length) (hd : decode c.code pc = .ok (.lastore, 1)) (hp : pc + 1 = pc') (H : ∀ T' h', Stand p l e R s m args below meth c T' (locs ++ [⟨a, i⟩]) cells slots → T'.heap = h' → Wr h h' a i (.long x) → AJ Z h' a (bs.set i x) → Go p e below s k n Q T' (mkF m pc' Ls st)) : Go p e below s k n Q T (mkF m pc Ls (.long x :: .int j :: .ref a :: st)) := by
  subst hp hj
  obtain ⟨cl, A, S, hl⟩ := A
  obtain ⟨T', h', X', e', W, q⟩ := stJ X hx hZ eT A (own_inJ (a := a) S h0 rfl hi) (g := mkF m pc Ls (.long x :: .int j :: .ref a :: st)) rfl rfl hd
  exact (H T' h' X' e' W ⟨_, A.same W, own_setJ S, by simpa using hl⟩).via q
theorem g_baload (pc' : Nat) (X : Stand p l e R s m args below meth c T locs cells slots) (hx : p.tables.exec = Jvm.exec) (hZ : Z.Warmed39 s.vm) (eT : T.heap = h) {a : Addr} {bs : List Int32} (A : AI Z h a .byte bs) {j z : Int32} (i : Nat) (h0 : ¬ j < 0) (hj : j.toNatClampNeg = i) (hv : bs[i]? = some z) (hd : decode c.code pc = .ok (.baload, 1)) (hp : pc + 1 = pc') (H : Go p e below s k n Q T (mkF m pc' Ls (.int z :: st))) : Go p e below s k n Q T (mkF m pc Ls (.int j :: .ref a :: st)) := by
  subst hp hj
  obtain ⟨cl, A, S, hl⟩ := A
  exact H.via fun t q => X.baloadBytes hx (by rw [eT]; exact A.1) (State.isArrayOf_alike hZ.alike A.2.1) A.2.2 (own_inI (a := a) S h0 rfl (List.getElem?_eq_some_iff.mp hv).1) (v := .int z) (by rw [S]; simp [hv]) (g := mkF m pc Ls (.int j :: .ref a :: st)) rfl rfl hd t q
theorem g_iaload (pc' : Nat) (X : Stand p l e R s m args below meth c T locs cells slots) (hx : p.tables.exec = Jvm.exec) (hZ : Z.Warmed39 s.vm) (eT : T.heap = h) {a : Addr} {bs : List Int32} (A : AI Z h a .int bs) {j z : Int32} (i : Nat) (h0 : ¬ j < 0) (hj : j.toNatClampNeg = i) (hv : bs[i]? = some z) (hd : decode c.code pc = .ok (.iaload, 1)) (hp : pc + 1 = pc') (H : Go p e below s k n Q T (mkF m pc' Ls (.int z :: st))) : Go p e below s k n Q T (mkF m pc Ls (.int j :: .ref a :: st)) := by
  subst hp hj
  obtain ⟨cl, A, S, hl⟩ := A
  exact H.via fun t q => X.iaload hx (by rw [eT]; exact A.1) (State.isArrayOf_alike hZ.alike A.2.1) A.2.2 (own_inI (a := a) S h0 rfl (List.getElem?_eq_some_iff.mp hv).1) (v := .int z) (by rw [S]; simp [hv]) (g := mkF m pc Ls (.int j :: .ref a :: st)) rfl rfl hd t q
theorem g_caload (pc' : Nat) (X : Stand p l e R s m args below meth c T locs cells slots) (hx : p.tables.exec = Jvm.exec) (hZ : Z.Warmed39 s.vm) (eT : T.heap = h) {a : Addr} {bs : List Int32} (A : AI Z h a .char bs) {j z : Int32} (i : Nat) (h0 : ¬ j < 0) (hj : j.toNatClampNeg = i) (hv : bs[i]? = some z) (hd : decode c.code pc = .ok (.caload, 1)) (hp : pc + 1 = pc') (H : Go p e below s k n Q T (mkF m pc' Ls (.int z :: st))) : Go p e below s k n Q T (mkF m pc Ls (.int j :: .ref a :: st)) := by
  subst hp hj
  obtain ⟨cl, A, S, hl⟩ := A
  exact H.via fun t q => X.caload hx (by rw [eT]; exact A.1) (State.isArrayOf_alike hZ.alike A.2.1) A.2.2 (own_inI (a := a) S h0 rfl (List.getElem?_eq_some_iff.mp hv).1) (v := .int z) (by rw [S]; simp [hv]) (g := mkF m pc Ls (.int j :: .ref a :: st)) rfl rfl hd t q
theorem g_saload (pc' : Nat) (X : Stand p l e R s m args below meth c T locs cells slots) (hx : p.tables.exec = Jvm.exec) (hZ : Z.Warmed39 s.vm) (eT : T.heap = h) {a : Addr} {bs : List Int32} (A : AI Z h a .short bs) {j z : Int32} (i : Nat) (h0 : ¬ j < 0) (hj : j.toNatClampNeg = i) (hv : bs[i]? = some z) (hd : decode c.code pc = .ok (.saload, 1)) (hp : pc + 1 = pc') (H : Go p e below s k n Q T (mkF m pc' Ls (.int z :: st))) : Go p e below s k n Q T (mkF m pc Ls (.int j :: .ref a :: st)) := by
  subst hp hj
  obtain ⟨cl, A, S, hl⟩ := A
  exact H.via fun t q => X.saload hx (by rw [eT]; exact A.1) (State.isArrayOf_alike hZ.alike A.2.1) A.2.2 (own_inI (a := a) S h0 rfl (List.getElem?_eq_some_iff.mp hv).1) (v := .int z) (by rw [S]; simp [hv]) (g := mkF m pc Ls (.int j :: .ref a :: st)) rfl rfl hd t q
theorem g_laload (pc' : Nat) (X : Stand p l e R s m args below meth c T locs cells slots) (hx : p.tables.exec = Jvm.exec) (hZ : Z.Warmed39 s.vm) (eT : T.heap = h) {a : Addr} {bs : List Int64} (A : AJ Z h a bs) {j : Int32} {z : Int64} (i : Nat) (h0 : ¬ j < 0) (hj : j.toNatClampNeg = i) (hv : bs[i]? = some z) (hd : decode c.code pc = .ok (.laload, 1)) (hp : pc + 1 = pc') (H : Go p e below s k n Q T (mkF m pc' Ls (.long z :: st))) : Go p e below s k n Q T (mkF m pc Ls (.int j :: .ref a :: st)) := by
  subst hp hj
  obtain ⟨cl, A, S, hl⟩ := A
  exact H.via fun t q => X.laload hx (by rw [eT]; exact A.1) (State.isArrayOf_alike hZ.alike A.2.1) A.2.2 (own_inJ (a := a) S h0 rfl (List.getElem?_eq_some_iff.mp hv).1) (v := .long z) (by rw [S]; simp [hv]) (g := mkF m pc Ls (.int j :: .ref a :: st)) rfl rfl hd t q
theorem g_arraylengthI (pc' : Nat) (X : Stand p l e R s m args below meth c T locs cells slots) (hx : p.tables.exec = Jvm.exec) (hZ : Z.Warmed39 s.vm) (eT : T.heap = h) {a : Addr} {ty : FieldType} {bs : List Int32} (A : AI Z h a ty bs) {z : Int32} (hz : Int32.ofNat bs.length = z) (hd : decode c.code pc = .ok (.arraylength, 1)) (hp : pc + 1 = pc') (H : Go p e below s k n Q T (mkF m pc' Ls (.int z :: st))) : Go p e below s k n Q T (mkF m pc Ls (.ref a :: st)) := by
  subst hp hz
  obtain ⟨cl, A, S, hl⟩ := A
  have q0 : cl.slots.size.toInt32 = Int32.ofNat bs.length := by rw [S]; simp
  exact H.via fun t q => X.arraylength hx (by rw [eT]; exact A.1) (State.isArrayOf_alike hZ.alike A.2.1) (g := mkF m pc Ls (.ref a :: st)) rfl rfl hd t (by rw [q0]; exact q)
theorem g_arraylengthJ (pc' : Nat) (X : Stand p l e R s m args below meth c T locs cells slots) (hx : p.tables.exec = Jvm.exec) (hZ : Z.Warmed39 s.vm) (eT : T.heap = h) {a : Addr} {bs : List Int64} (A : AJ Z h a bs) {z : Int32} (hz : Int32.ofNat bs.length = z) (hd : decode c.code pc = .ok (.arraylength, 1)) (hp : pc + 1 = pc') (H : Go p e below s k n Q T (mkF m pc' Ls (.int z :: st))) : Go p e below s k n Q T (mkF m pc Ls (.ref a :: st)) := by
  subst hp hz
  obtain ⟨cl, A, S, hl⟩ := A
  have q0 : cl.slots.size.toInt32 = Int32.ofNat bs.length := by rw [S]; simp
  exact H.via fun t q => X.arraylength hx (by rw [eT]; exact A.1) (State.isArrayOf_alike hZ.alike A.2.1) (g := mkF m pc Ls (.ref a :: st)) rfl rfl hd t (by rw [q0]; exact q)
theorem g_new_byte (pc' : Nat) (X : Stand p l e R s m args below meth c T locs cells slots) (hx : p.tables.exec = Jvm.exec) (hZ : Z.Warmed39 s.vm) (w : (Cond.arrayClass .byte).before a0 Z = true) (eT : T.heap = h) {nn : Int32} (len cap : Nat) (hn0 : ¬ nn < 0) (hlen : nn.toNatClampNeg = len) (hcap : len ≤ cap) (hb : cap * 8 ≤ 536870912) (hc : cells + 1 ≤ R.cells) (hl : slots + cap ≤ R.slots) (hd : decode c.code pc = .ok (.newarray .byte, 2)) (hp : pc + 2 = pc') (H : ∀ T' h' b, Stand p l e R s m args below meth c T' locs (cells + 1) (slots + cap) → T'.heap = h' → Ext h h' → b = h.size → AI Z h' b .byte (List.replicate len (0 : Int32)) → Go p e below s k n Q T' (mkF m pc' Ls (.ref b :: st))) : Go p e below s k n Q T (mkF m pc Ls (.int nn :: st)) := by
  subst hp hlen
  obtain ⟨T', h', cA, X', e', E, A, q⟩ := newP X hx hZ (aty := .byte) w eT (g := mkF m pc Ls (.int nn :: st)) rfl hd rfl hn0 hcap hb hc hl
  exact (H T' h' _ X' e' E rfl ⟨_, A, by simp [newA, defaultValue, newarray.typeOf], by simpa using (back32 hn0).2⟩).via q
theorem g_new_int (pc' : Nat) (X : Stand p l e R s m args below meth c T locs cells slots) (hx : p.tables.exec = Jvm.exec) (hZ : Z.Warmed39 s.vm) (w : (Cond.arrayClass .int).before a0 Z = true) (eT : T.heap = h) {nn : Int32} (len cap : Nat) (hn0 : ¬ nn < 0) (hlen : nn.toNatClampNeg = len) (hcap : len ≤ cap) (hb : cap * 8 ≤ 536870912) (hc : cells + 1 ≤ R.cells) (hl : slots + cap ≤ R.slots) (hd : decode c.code pc = .ok (.newarray .int, 2)) (hp : pc + 2 = pc') (H : ∀ T' h' b, Stand p l e R s m args below meth c T' locs (cells + 1) (slots + cap) → T'.heap = h' → Ext h h' → b = h.size → AI Z h' b .int (List.replicate len (0 : Int32)) → Go p e below s k n Q T' (mkF m pc' Ls (.ref b :: st))) : Go p e below s k n Q T (mkF m pc Ls (.int nn :: st)) := by
  subst hp hlen
  obtain ⟨T', h', cA, X', e', E, A, q⟩ := newP X hx hZ (aty := .int) w eT (g := mkF m pc Ls (.int nn :: st)) rfl hd rfl hn0 hcap hb hc hl
  exact (H T' h' _ X' e' E rfl ⟨_, A, by simp [newA, defaultValue, newarray.typeOf], by simpa using (back32 hn0).2⟩).via q
theorem g_new_long (pc' : Nat) (X : Stand p l e R s m args below meth c T locs cells slots) (hx : p.tables.exec = Jvm.exec) (hZ : Z.Warmed39 s.vm) (w : (Cond.arrayClass .long).before a0 Z = true) (eT : T.heap = h) {nn : Int32} (len cap : Nat) (hn0 : ¬ nn < 0) (hlen : nn.toNatClampNeg = len) (hcap : len ≤ cap) (hb : cap * 8 ≤ 536870912) (hc : cells + 1 ≤ R.cells) (hl : slots + cap ≤ R.slots) (hd : decode c.code pc = .ok (.newarray .long, 2)) (hp : pc + 2 = pc') (H : ∀ T' h' b, Stand p l e R s m args below meth c T' locs (cells + 1) (slots + cap) → T'.heap = h' → Ext h h' → b = h.size → AJ Z h' b (List.replicate len (0 : Int64)) → Go p e below s k n Q T' (mkF m pc' Ls (.ref b :: st))) : Go p e below s k n Q T (mkF m pc Ls (.int nn :: st)) := by
  subst hp hlen
  obtain ⟨T', h', cA, X', e', E, A, q⟩ := newP X hx hZ (aty := .long) w eT (g := mkF m pc Ls (.int nn :: st)) rfl hd rfl hn0 hcap hb hc hl
  exact (H T' h' _ X' e' E rfl ⟨_, A, by simp [newA, defaultValue, newarray.typeOf], by simpa using (back32 hn0).2⟩).via q
end OwnKit
theorem own_lrem (x y : Int64) (d : Int) (hy : y.toInt = d) : (0 ≤ x.toInt → (x % y).toInt = x.toInt % d) ∧ (x.toInt < 0 → (x % y).toInt = -((-x.toInt) % d)) := by
  rw [Int64.toInt_mod, hy]; exact tr _ _
theorem own_lremV (x y : Int64) : 0 ≤ x.toInt → 0 < y.toInt → 0 ≤ (x % y).toInt ∧ (x % y).toInt < y.toInt ∧ (x % y).toInt ≤ x.toInt := by
  intro h1 h2
  rw [Int64.toInt_mod, Int.tmod_eq_emod_of_nonneg h1]
  have a := Int.emod_nonneg x.toInt (by omega : y.toInt ≠ 0)
  have b := Int.emod_lt_of_pos x.toInt h2
  refine ⟨a, b, ?_⟩
  by_cases c : x.toInt < y.toInt
  · rw [Int.emod_eq_of_lt h1 c]; exact Int.le_refl _
  · omega
theorem own_prod {a b A B : Int} (h1 : 0 ≤ a) (h2 : a ≤ A) (h3 : 0 ≤ b) (h4 : b ≤ B) : 0 ≤ a * b ∧ a * b ≤ A * B :=
  ⟨Int.mul_nonneg h1 h3, Int.mul_le_mul h2 h4 h3 (Int.le_trans h1 h2)⟩
theorem own_ushrB (x : Int64) (q : Int32) (k : Nat) (hk : q.toBitVec.toNat % 64 = k) : ((x.toUInt64 >>> (q &&& 0x3f).toInt64.toUInt64).toInt64).toBitVec = x.toBitVec >>> k := by
  have h5 := (sm64 q k hk).2
  show x.toBitVec >>> ((q &&& 0x3f).toInt64.toBitVec % 64) = _
  apply BitVec.eq_of_toNat_eq
  rw [BitVec.ushiftRight_eq', BitVec.toNat_ushiftRight, BitVec.toNat_ushiftRight, BitVec.toNat_umod, (sm64 q k hk).1, BitVec.toNat_ofNat]
  congr 1
  show k % 2 ^ 64 % 64 = k
  omega
theorem own_shlB (x : Int64) (q : Int32) (k : Nat) (hk : q.toBitVec.toNat % 64 = k) : (x <<< (q &&& 0x3f).toInt64).toBitVec = x.toBitVec <<< k := by
  show x.toBitVec <<< ((q &&& 0x3f).toInt64.toBitVec.smod 64) = _
  rw [BitVec.shiftLeft_eq', (sm64 q k hk).1, smod64 k (sm64 q k hk).2]
theorem own_parN (p : Int32) (h : 0 ≤ p.toInt) : p.toBitVec.toNat = p.toInt.toNat := by
  have a := p.toBitVec.isLt
  have b : p.toInt = p.toBitVec.toInt := rfl
  rw [BitVec.toInt_eq_toNat_cond] at b
  split at b <;> omega
theorem own_get {bs : List Int32} {i : Nat} (h : i < bs.length) : bs[i]? = some (bs.getD i 0) := by
  rw [List.getD_eq_getElem?_getD, List.getElem?_eq_getElem h]; rfl
theorem own_nat0 {i : Int32} (h : 0 ≤ i.toInt) : ¬ i < 0 := by
  rw [Int32.lt_iff_toInt_lt]; simp only [Int32.reduceToInt]; omega

theorem pn_0 : plainName "com/example/rank4/rank4/VarintWritePinLaw" = true := by first | (simp [plainName, overriddenIn]; done) | decide +kernel
theorem d1_0 : decode method_2_code 0 = .ok (.lload_n 0, 1) := by decide +kernel
theorem d1_1 : decode method_2_code 1 = .ok (.lconst 0, 1) := by decide +kernel
theorem d1_2 : decode method_2_code 2 = .ok (.lcmp, 1) := by decide +kernel
theorem d1_3 : decode method_2_code 3 = .ok (.ifCond .ge 6, 3) := by decide +kernel
theorem d1_6 : decode method_2_code 6 = .ok (.bipush 10, 2) := by decide +kernel
theorem d1_8 : decode method_2_code 8 = .ok (.ireturn, 1) := by decide +kernel
theorem d1_9 : decode method_2_code 9 = .ok (.lload_n 0, 1) := by decide +kernel
theorem d1_10 : decode method_2_code 10 = .ok (.ldc2_w 7, 3) := by decide +kernel
theorem d1_13 : decode method_2_code 13 = .ok (.lcmp, 1) := by decide +kernel
theorem d1_14 : decode method_2_code 14 = .ok (.ifCond .ge 5, 3) := by decide +kernel
theorem d1_17 : decode method_2_code 17 = .ok (.iconst 1, 1) := by decide +kernel
theorem d1_18 : decode method_2_code 18 = .ok (.ireturn, 1) := by decide +kernel
theorem d1_19 : decode method_2_code 19 = .ok (.lload_n 0, 1) := by decide +kernel
theorem d1_20 : decode method_2_code 20 = .ok (.ldc2_w 9, 3) := by decide +kernel
theorem d1_23 : decode method_2_code 23 = .ok (.lcmp, 1) := by decide +kernel
theorem d1_24 : decode method_2_code 24 = .ok (.ifCond .ge 5, 3) := by decide +kernel
theorem d1_27 : decode method_2_code 27 = .ok (.iconst 2, 1) := by decide +kernel
theorem d1_28 : decode method_2_code 28 = .ok (.ireturn, 1) := by decide +kernel
theorem d1_29 : decode method_2_code 29 = .ok (.lload_n 0, 1) := by decide +kernel
theorem d1_30 : decode method_2_code 30 = .ok (.ldc2_w 11, 3) := by decide +kernel
theorem d1_33 : decode method_2_code 33 = .ok (.lcmp, 1) := by decide +kernel
theorem d1_34 : decode method_2_code 34 = .ok (.ifCond .ge 5, 3) := by decide +kernel
theorem d1_37 : decode method_2_code 37 = .ok (.iconst 3, 1) := by decide +kernel
theorem d1_38 : decode method_2_code 38 = .ok (.ireturn, 1) := by decide +kernel
theorem d1_39 : decode method_2_code 39 = .ok (.lload_n 0, 1) := by decide +kernel
theorem d1_40 : decode method_2_code 40 = .ok (.ldc2_w 13, 3) := by decide +kernel
theorem d1_43 : decode method_2_code 43 = .ok (.lcmp, 1) := by decide +kernel
theorem d1_44 : decode method_2_code 44 = .ok (.ifCond .ge 5, 3) := by decide +kernel
theorem d1_47 : decode method_2_code 47 = .ok (.iconst 4, 1) := by decide +kernel
theorem d1_48 : decode method_2_code 48 = .ok (.ireturn, 1) := by decide +kernel
theorem d1_49 : decode method_2_code 49 = .ok (.lload_n 0, 1) := by decide +kernel
theorem d1_50 : decode method_2_code 50 = .ok (.ldc2_w 15, 3) := by decide +kernel
theorem d1_53 : decode method_2_code 53 = .ok (.lcmp, 1) := by decide +kernel
theorem d1_54 : decode method_2_code 54 = .ok (.ifCond .ge 5, 3) := by decide +kernel
theorem d1_57 : decode method_2_code 57 = .ok (.iconst 5, 1) := by decide +kernel
theorem d1_58 : decode method_2_code 58 = .ok (.ireturn, 1) := by decide +kernel
theorem d1_59 : decode method_2_code 59 = .ok (.lload_n 0, 1) := by decide +kernel
theorem d1_60 : decode method_2_code 60 = .ok (.ldc2_w 17, 3) := by decide +kernel
theorem d1_63 : decode method_2_code 63 = .ok (.lcmp, 1) := by decide +kernel
theorem d1_64 : decode method_2_code 64 = .ok (.ifCond .ge 6, 3) := by decide +kernel
theorem d1_67 : decode method_2_code 67 = .ok (.bipush 6, 2) := by decide +kernel
theorem d1_69 : decode method_2_code 69 = .ok (.ireturn, 1) := by decide +kernel
theorem d1_70 : decode method_2_code 70 = .ok (.lload_n 0, 1) := by decide +kernel
theorem d1_71 : decode method_2_code 71 = .ok (.ldc2_w 19, 3) := by decide +kernel
theorem d1_74 : decode method_2_code 74 = .ok (.lcmp, 1) := by decide +kernel
theorem d1_75 : decode method_2_code 75 = .ok (.ifCond .ge 6, 3) := by decide +kernel
theorem d1_78 : decode method_2_code 78 = .ok (.bipush 7, 2) := by decide +kernel
theorem d1_80 : decode method_2_code 80 = .ok (.ireturn, 1) := by decide +kernel
theorem d1_81 : decode method_2_code 81 = .ok (.lload_n 0, 1) := by decide +kernel
theorem d1_82 : decode method_2_code 82 = .ok (.ldc2_w 21, 3) := by decide +kernel
theorem d1_85 : decode method_2_code 85 = .ok (.lcmp, 1) := by decide +kernel
theorem d1_86 : decode method_2_code 86 = .ok (.ifCond .ge 6, 3) := by decide +kernel
theorem d1_89 : decode method_2_code 89 = .ok (.bipush 8, 2) := by decide +kernel
theorem d1_91 : decode method_2_code 91 = .ok (.ireturn, 1) := by decide +kernel
theorem d1_92 : decode method_2_code 92 = .ok (.bipush 9, 2) := by decide +kernel
theorem d1_94 : decode method_2_code 94 = .ok (.ireturn, 1) := by decide +kernel
def Rel1 (q1 : Int64) (r : Int32) : Prop := (q1 < (0 : Int64) ∧ r = (10 : Int32)) ∨ (¬ (q1 < (0 : Int64)) ∧ q1 < (128 : Int64) ∧ r = (1 : Int32)) ∨ (¬ (q1 < (0 : Int64)) ∧ ¬ (q1 < (128 : Int64)) ∧ q1 < (16384 : Int64) ∧ r = (2 : Int32)) ∨ (¬ (q1 < (0 : Int64)) ∧ ¬ (q1 < (128 : Int64)) ∧ ¬ (q1 < (16384 : Int64)) ∧ q1 < (2097152 : Int64) ∧ r = (3 : Int32)) ∨ (¬ (q1 < (0 : Int64)) ∧ ¬ (q1 < (128 : Int64)) ∧ ¬ (q1 < (16384 : Int64)) ∧ ¬ (q1 < (2097152 : Int64)) ∧ q1 < (268435456 : Int64) ∧ r = (4 : Int32)) ∨ (¬ (q1 < (0 : Int64)) ∧ ¬ (q1 < (128 : Int64)) ∧ ¬ (q1 < (16384 : Int64)) ∧ ¬ (q1 < (2097152 : Int64)) ∧ ¬ (q1 < (268435456 : Int64)) ∧ q1 < (34359738368 : Int64) ∧ r = (5 : Int32)) ∨ (¬ (q1 < (0 : Int64)) ∧ ¬ (q1 < (128 : Int64)) ∧ ¬ (q1 < (16384 : Int64)) ∧ ¬ (q1 < (2097152 : Int64)) ∧ ¬ (q1 < (268435456 : Int64)) ∧ ¬ (q1 < (34359738368 : Int64)) ∧ q1 < (4398046511104 : Int64) ∧ r = (6 : Int32)) ∨ (¬ (q1 < (0 : Int64)) ∧ ¬ (q1 < (128 : Int64)) ∧ ¬ (q1 < (16384 : Int64)) ∧ ¬ (q1 < (2097152 : Int64)) ∧ ¬ (q1 < (268435456 : Int64)) ∧ ¬ (q1 < (34359738368 : Int64)) ∧ ¬ (q1 < (4398046511104 : Int64)) ∧ q1 < (562949953421312 : Int64) ∧ r = (7 : Int32)) ∨ (¬ (q1 < (0 : Int64)) ∧ ¬ (q1 < (128 : Int64)) ∧ ¬ (q1 < (16384 : Int64)) ∧ ¬ (q1 < (2097152 : Int64)) ∧ ¬ (q1 < (268435456 : Int64)) ∧ ¬ (q1 < (34359738368 : Int64)) ∧ ¬ (q1 < (4398046511104 : Int64)) ∧ ¬ (q1 < (562949953421312 : Int64)) ∧ q1 < (72057594037927936 : Int64) ∧ r = (8 : Int32)) ∨ (¬ (q1 < (0 : Int64)) ∧ ¬ (q1 < (128 : Int64)) ∧ ¬ (q1 < (16384 : Int64)) ∧ ¬ (q1 < (2097152 : Int64)) ∧ ¬ (q1 < (268435456 : Int64)) ∧ ¬ (q1 < (34359738368 : Int64)) ∧ ¬ (q1 < (4398046511104 : Int64)) ∧ ¬ (q1 < (562949953421312 : Int64)) ∧ ¬ (q1 < (72057594037927936 : Int64)) ∧ r = (9 : Int32))
def Q1 (Z : State) (q1 : Int64) (h0 : Heap) (n0 : Nat) (v : Option Value) (h : Heap) (L : List Loc) : Prop := ∃ r : Int32, v = some (.int r) ∧ Rel1 q1 r ∧ Fr n0 L ∧ h = h0
theorem ef_rm1 (m : MethodId) (q1 : Int64) : entryFrame m #[(.long q1)] 2 = mkF m 0 #[.val (.long q1), .second] [] := by first | (simp [entryFrame, mkF, argsToLocals, Value.category]; done) | rfl
set_option maxRecDepth 65536 in
set_option maxHeartbeats 40000000 in
theorem rm1 (l : Launch) (Z : State) (a0 : Array Value) (hw : ∀ d ∈ tables_1, d.before a0 Z = true) (ws : List Jvm.Cond) (q1 : Int64) (h0 : Heap) (n0 : Nat) (Z0 : n0 ≤ h0.size)  :
    MetFree l (⟨"com/example/rank4/rank4/VarintWritePinLaw", "lenOf", "(J)I"⟩ : MethodName) (head1 (Jvm.Cond.code (⟨"com/example/rank4/rank4/VarintWritePinLaw", "lenOf", "(J)I"⟩ : MethodName) method_2_code 2 (some .int) :: ws) ({ frames := 0, cells := 0, slots := 0, locals := 0 } : Room)) (fun a U => a = #[(.long q1)] ∧ Z.Warmed39 U.vm ∧ U.heap = h0) (fun _ _ _ _ _ => True) (fun _ U o U' => ∃ v L, o = .returned v ∧ (Q1 Z q1 h0 n0) v U'.heap L ∧ FrameEnd U o U' L ({ frames := 0, cells := 0, slots := 0, locals := 0 } : Room).cells ({ frames := 0, cells := 0, slots := 0, locals := 0 } : Room).slots) := by
  refine MetFree.of_bodySF (plainFor_of_name pn_0) hisR ?_
  intro p e s m args below meth c s₁ Bd hml0 hP hK
  obtain ⟨rfl, hZ, hh⟩ := hP
  have hx := Bd.exec
  have hby := Bd.bytes
  have hml : c.maxLocals = 2 := hml0
  have hown : s.vm.findClass "com/example/rank4/rank4/VarintWritePinLaw" = some m.cls := findClass_of_methodNamed Bd.named
  have hnm := (name_of_methodNamed Bd.named Bd.method).1
  have hlk : meth.locks = false := BodyLoose.notSynchronized Bd
  have X0 : Stand p l e ({ frames := 0, cells := 0, slots := 0, locals := 0 } : Room) s m #[(.long q1)] below meth c s₁ [] 0 0 := Stand.of_body Bd
  have e0 : s₁.heap = h0 := by rw [← hh, Bd.state]; rfl
  have N0 := Fr.nil n0
  show Go p e below s ({ frames := 0, cells := 0, slots := 0, locals := 0 } : Room).cells ({ frames := 0, cells := 0, slots := 0, locals := 0 } : Room).slots (Q1 Z q1 h0 n0) s₁ (entryFrame m #[(.long q1)] 2)
  rw [ef_rm1 m q1]
  refine g_lloadN 1 X0 hx (hb hby d1_0) rfl (v := q1) rfl ?_
  refine g_lconst 2 X0 hx (hb hby d1_1) rfl (z := (0 : Int64)) rfl ?_
  by_cases hc2_0 : q1 < (0 : Int64)
  ·
    refine g_lcmpNo 6 X0 hx (hb hby d1_2) rfl (hb hby d1_3) (tltL hc2_0).2.1 rfl ?_
    refine g_bipush 8 X0 hx (hb hby d1_6) rfl (z := (10 : Int32)) rfl ?_
    exact g_retI X0 hx Bd.returns hlk (hb hby d1_8) (by decide) (by decide) ⟨(10 : Int32), rfl, (Or.inl ⟨hc2_0, rfl⟩), N0, e0⟩
  ·
    refine g_lcmpYes 9 X0 hx (hb hby d1_2) rfl (hb hby d1_3) (fltL hc2_0).2.1 (by decide) (by decide) ?_
    refine g_lloadN 10 X0 hx (hb hby d1_9) rfl (v := q1) rfl ?_
    refine g_ldc2 13 X0 hx hZ hown (hw _ (List.mem_of_getElem? (i := 6) rfl)) (hb hby d1_10) rfl ?_
    by_cases hc13_1 : q1 < (128 : Int64)
    ·
      refine g_lcmpNo 17 X0 hx (hb hby d1_13) rfl (hb hby d1_14) (tltL hc13_1).2.1 rfl ?_
      refine g_iconst 18 X0 hx (hb hby d1_17) rfl (z := (1 : Int32)) rfl ?_
      exact g_retI X0 hx Bd.returns hlk (hb hby d1_18) (by decide) (by decide) ⟨(1 : Int32), rfl, (Or.inr (Or.inl ⟨hc2_0, hc13_1, rfl⟩)), N0, e0⟩
    ·
      refine g_lcmpYes 19 X0 hx (hb hby d1_13) rfl (hb hby d1_14) (fltL hc13_1).2.1 (by decide) (by decide) ?_
      refine g_lloadN 20 X0 hx (hb hby d1_19) rfl (v := q1) rfl ?_
      refine g_ldc2 23 X0 hx hZ hown (hw _ (List.mem_of_getElem? (i := 16) rfl)) (hb hby d1_20) rfl ?_
      by_cases hc23_2 : q1 < (16384 : Int64)
      ·
        refine g_lcmpNo 27 X0 hx (hb hby d1_23) rfl (hb hby d1_24) (tltL hc23_2).2.1 rfl ?_
        refine g_iconst 28 X0 hx (hb hby d1_27) rfl (z := (2 : Int32)) rfl ?_
        exact g_retI X0 hx Bd.returns hlk (hb hby d1_28) (by decide) (by decide) ⟨(2 : Int32), rfl, (Or.inr (Or.inr (Or.inl ⟨hc2_0, hc13_1, hc23_2, rfl⟩))), N0, e0⟩
      ·
        refine g_lcmpYes 29 X0 hx (hb hby d1_23) rfl (hb hby d1_24) (fltL hc23_2).2.1 (by decide) (by decide) ?_
        refine g_lloadN 30 X0 hx (hb hby d1_29) rfl (v := q1) rfl ?_
        refine g_ldc2 33 X0 hx hZ hown (hw _ (List.mem_of_getElem? (i := 17) rfl)) (hb hby d1_30) rfl ?_
        by_cases hc33_3 : q1 < (2097152 : Int64)
        ·
          refine g_lcmpNo 37 X0 hx (hb hby d1_33) rfl (hb hby d1_34) (tltL hc33_3).2.1 rfl ?_
          refine g_iconst 38 X0 hx (hb hby d1_37) rfl (z := (3 : Int32)) rfl ?_
          exact g_retI X0 hx Bd.returns hlk (hb hby d1_38) (by decide) (by decide) ⟨(3 : Int32), rfl, (Or.inr (Or.inr (Or.inr (Or.inl ⟨hc2_0, hc13_1, hc23_2, hc33_3, rfl⟩)))), N0, e0⟩
        ·
          refine g_lcmpYes 39 X0 hx (hb hby d1_33) rfl (hb hby d1_34) (fltL hc33_3).2.1 (by decide) (by decide) ?_
          refine g_lloadN 40 X0 hx (hb hby d1_39) rfl (v := q1) rfl ?_
          refine g_ldc2 43 X0 hx hZ hown (hw _ (List.mem_of_getElem? (i := 18) rfl)) (hb hby d1_40) rfl ?_
          by_cases hc43_4 : q1 < (268435456 : Int64)
          ·
            refine g_lcmpNo 47 X0 hx (hb hby d1_43) rfl (hb hby d1_44) (tltL hc43_4).2.1 rfl ?_
            refine g_iconst 48 X0 hx (hb hby d1_47) rfl (z := (4 : Int32)) rfl ?_
            exact g_retI X0 hx Bd.returns hlk (hb hby d1_48) (by decide) (by decide) ⟨(4 : Int32), rfl, (Or.inr (Or.inr (Or.inr (Or.inr (Or.inl ⟨hc2_0, hc13_1, hc23_2, hc33_3, hc43_4, rfl⟩))))), N0, e0⟩
          ·
            refine g_lcmpYes 49 X0 hx (hb hby d1_43) rfl (hb hby d1_44) (fltL hc43_4).2.1 (by decide) (by decide) ?_
            refine g_lloadN 50 X0 hx (hb hby d1_49) rfl (v := q1) rfl ?_
            refine g_ldc2 53 X0 hx hZ hown (hw _ (List.mem_of_getElem? (i := 19) rfl)) (hb hby d1_50) rfl ?_
            by_cases hc53_5 : q1 < (34359738368 : Int64)
            ·
              refine g_lcmpNo 57 X0 hx (hb hby d1_53) rfl (hb hby d1_54) (tltL hc53_5).2.1 rfl ?_
              refine g_iconst 58 X0 hx (hb hby d1_57) rfl (z := (5 : Int32)) rfl ?_
              exact g_retI X0 hx Bd.returns hlk (hb hby d1_58) (by decide) (by decide) ⟨(5 : Int32), rfl, (Or.inr (Or.inr (Or.inr (Or.inr (Or.inr (Or.inl ⟨hc2_0, hc13_1, hc23_2, hc33_3, hc43_4, hc53_5, rfl⟩)))))), N0, e0⟩
            ·
              refine g_lcmpYes 59 X0 hx (hb hby d1_53) rfl (hb hby d1_54) (fltL hc53_5).2.1 (by decide) (by decide) ?_
              refine g_lloadN 60 X0 hx (hb hby d1_59) rfl (v := q1) rfl ?_
              refine g_ldc2 63 X0 hx hZ hown (hw _ (List.mem_of_getElem? (i := 20) rfl)) (hb hby d1_60) rfl ?_
              by_cases hc63_6 : q1 < (4398046511104 : Int64)
              ·
                refine g_lcmpNo 67 X0 hx (hb hby d1_63) rfl (hb hby d1_64) (tltL hc63_6).2.1 rfl ?_
                refine g_bipush 69 X0 hx (hb hby d1_67) rfl (z := (6 : Int32)) rfl ?_
                exact g_retI X0 hx Bd.returns hlk (hb hby d1_69) (by decide) (by decide) ⟨(6 : Int32), rfl, (Or.inr (Or.inr (Or.inr (Or.inr (Or.inr (Or.inr (Or.inl ⟨hc2_0, hc13_1, hc23_2, hc33_3, hc43_4, hc53_5, hc63_6, rfl⟩))))))), N0, e0⟩
              ·
                refine g_lcmpYes 70 X0 hx (hb hby d1_63) rfl (hb hby d1_64) (fltL hc63_6).2.1 (by decide) (by decide) ?_
                refine g_lloadN 71 X0 hx (hb hby d1_70) rfl (v := q1) rfl ?_
                refine g_ldc2 74 X0 hx hZ hown (hw _ (List.mem_of_getElem? (i := 22) rfl)) (hb hby d1_71) rfl ?_
                by_cases hc74_7 : q1 < (562949953421312 : Int64)
                ·
                  refine g_lcmpNo 78 X0 hx (hb hby d1_74) rfl (hb hby d1_75) (tltL hc74_7).2.1 rfl ?_
                  refine g_bipush 80 X0 hx (hb hby d1_78) rfl (z := (7 : Int32)) rfl ?_
                  exact g_retI X0 hx Bd.returns hlk (hb hby d1_80) (by decide) (by decide) ⟨(7 : Int32), rfl, (Or.inr (Or.inr (Or.inr (Or.inr (Or.inr (Or.inr (Or.inr (Or.inl ⟨hc2_0, hc13_1, hc23_2, hc33_3, hc43_4, hc53_5, hc63_6, hc74_7, rfl⟩)))))))), N0, e0⟩
                ·
                  refine g_lcmpYes 81 X0 hx (hb hby d1_74) rfl (hb hby d1_75) (fltL hc74_7).2.1 (by decide) (by decide) ?_
                  refine g_lloadN 82 X0 hx (hb hby d1_81) rfl (v := q1) rfl ?_
                  refine g_ldc2 85 X0 hx hZ hown (hw _ (List.mem_of_getElem? (i := 23) rfl)) (hb hby d1_82) rfl ?_
                  by_cases hc85_8 : q1 < (72057594037927936 : Int64)
                  ·
                    refine g_lcmpNo 89 X0 hx (hb hby d1_85) rfl (hb hby d1_86) (tltL hc85_8).2.1 rfl ?_
                    refine g_bipush 91 X0 hx (hb hby d1_89) rfl (z := (8 : Int32)) rfl ?_
                    exact g_retI X0 hx Bd.returns hlk (hb hby d1_91) (by decide) (by decide) ⟨(8 : Int32), rfl, (Or.inr (Or.inr (Or.inr (Or.inr (Or.inr (Or.inr (Or.inr (Or.inr (Or.inl ⟨hc2_0, hc13_1, hc23_2, hc33_3, hc43_4, hc53_5, hc63_6, hc74_7, hc85_8, rfl⟩))))))))), N0, e0⟩
                  ·
                    refine g_lcmpYes 92 X0 hx (hb hby d1_85) rfl (hb hby d1_86) (fltL hc85_8).2.1 (by decide) (by decide) ?_
                    refine g_bipush 94 X0 hx (hb hby d1_92) rfl (z := (9 : Int32)) rfl ?_
                    exact g_retI X0 hx Bd.returns hlk (hb hby d1_94) (by decide) (by decide) ⟨(9 : Int32), rfl, (Or.inr (Or.inr (Or.inr (Or.inr (Or.inr (Or.inr (Or.inr (Or.inr (Or.inr ⟨hc2_0, hc13_1, hc23_2, hc33_3, hc43_4, hc53_5, hc63_6, hc74_7, hc85_8, rfl⟩))))))))), N0, e0⟩
theorem d3_0 : decode method_3_code 0 = .ok (.iload_n 1, 1) := by decide +kernel
theorem d3_1 : decode method_3_code 1 = .ok (.iload_n 2, 1) := by decide +kernel
theorem d3_2 : decode method_3_code 2 = .ok (.if_icmp .lt 10, 3) := by decide +kernel
theorem d3_5 : decode method_3_code 5 = .ok (.iload_n 1, 1) := by decide +kernel
theorem d3_6 : decode method_3_code 6 = .ok (.iload_n 2, 1) := by decide +kernel
theorem d3_7 : decode method_3_code 7 = .ok (.iload_n 3, 1) := by decide +kernel
theorem d3_8 : decode method_3_code 8 = .ok (.iadd, 1) := by decide +kernel
theorem d3_9 : decode method_3_code 9 = .ok (.if_icmp .lt 17, 3) := by decide +kernel
theorem d3_12 : decode method_3_code 12 = .ok (.aload_n 0, 1) := by decide +kernel
theorem d3_13 : decode method_3_code 13 = .ok (.iload_n 1, 1) := by decide +kernel
theorem d3_14 : decode method_3_code 14 = .ok (.baload, 1) := by decide +kernel
theorem d3_15 : decode method_3_code 15 = .ok (.iload 6, 2) := by decide +kernel
theorem d3_17 : decode method_3_code 17 = .ok (.if_icmp .ne 7, 3) := by decide +kernel
theorem d3_20 : decode method_3_code 20 = .ok (.iconst 1, 1) := by decide +kernel
theorem d3_21 : decode method_3_code 21 = .ok (.goto 4, 3) := by decide +kernel
theorem d3_24 : decode method_3_code 24 = .ok (.iconst 0, 1) := by decide +kernel
theorem d3_25 : decode method_3_code 25 = .ok (.ireturn, 1) := by decide +kernel
theorem d3_26 : decode method_3_code 26 = .ok (.iload_n 1, 1) := by decide +kernel
theorem d3_27 : decode method_3_code 27 = .ok (.iload_n 2, 1) := by decide +kernel
theorem d3_28 : decode method_3_code 28 = .ok (.isub, 1) := by decide +kernel
theorem d3_29 : decode method_3_code 29 = .ok (.istore 7, 2) := by decide +kernel
theorem d3_31 : decode method_3_code 31 = .ok (.lload 4, 2) := by decide +kernel
theorem d3_33 : decode method_3_code 33 = .ok (.bipush 7, 2) := by decide +kernel
theorem d3_35 : decode method_3_code 35 = .ok (.iload 7, 2) := by decide +kernel
theorem d3_37 : decode method_3_code 37 = .ok (.imul, 1) := by decide +kernel
theorem d3_38 : decode method_3_code 38 = .ok (.lushr, 1) := by decide +kernel
theorem d3_39 : decode method_3_code 39 = .ok (.ldc2_w 23, 3) := by decide +kernel
theorem d3_42 : decode method_3_code 42 = .ok (.land, 1) := by decide +kernel
theorem d3_43 : decode method_3_code 43 = .ok (.l2i, 1) := by decide +kernel
theorem d3_44 : decode method_3_code 44 = .ok (.istore 8, 2) := by decide +kernel
theorem d3_46 : decode method_3_code 46 = .ok (.iload 7, 2) := by decide +kernel
theorem d3_48 : decode method_3_code 48 = .ok (.iload_n 3, 1) := by decide +kernel
theorem d3_49 : decode method_3_code 49 = .ok (.iconst 1, 1) := by decide +kernel
theorem d3_50 : decode method_3_code 50 = .ok (.isub, 1) := by decide +kernel
theorem d3_51 : decode method_3_code 51 = .ok (.if_icmp .ge 11, 3) := by decide +kernel
theorem d3_54 : decode method_3_code 54 = .ok (.iload 8, 2) := by decide +kernel
theorem d3_56 : decode method_3_code 56 = .ok (.sipush 128, 3) := by decide +kernel
theorem d3_59 : decode method_3_code 59 = .ok (.ior, 1) := by decide +kernel
theorem d3_60 : decode method_3_code 60 = .ok (.istore 8, 2) := by decide +kernel
theorem d3_62 : decode method_3_code 62 = .ok (.aload_n 0, 1) := by decide +kernel
theorem d3_63 : decode method_3_code 63 = .ok (.iload_n 1, 1) := by decide +kernel
theorem d3_64 : decode method_3_code 64 = .ok (.baload, 1) := by decide +kernel
theorem d3_65 : decode method_3_code 65 = .ok (.iload 8, 2) := by decide +kernel
theorem d3_67 : decode method_3_code 67 = .ok (.i2b, 1) := by decide +kernel
theorem d3_68 : decode method_3_code 68 = .ok (.if_icmp .ne 7, 3) := by decide +kernel
theorem d3_71 : decode method_3_code 71 = .ok (.iconst 1, 1) := by decide +kernel
theorem d3_72 : decode method_3_code 72 = .ok (.goto 4, 3) := by decide +kernel
theorem d3_75 : decode method_3_code 75 = .ok (.iconst 0, 1) := by decide +kernel
theorem d3_76 : decode method_3_code 76 = .ok (.ireturn, 1) := by decide +kernel
def Rel3 (p2 : Int32) (p3 : Int32) (p4 : Int32) (q5 : Int64) (p6 : Int32) (bs1 : List Int32) (r : Int32) : Prop := (p2 < p3 ∧ (bs1.getD p2.toInt.toNat 0) = p6 ∧ r = (1 : Int32)) ∨ (p2 < p3 ∧ ¬ ((bs1.getD p2.toInt.toNat 0) = p6) ∧ r = (0 : Int32)) ∨ (¬ (p2 < p3) ∧ p2 < (p3 + p4) ∧ (p2 - p3) < (p4 - (1 : Int32)) ∧ (bs1.getD p2.toInt.toNat 0) = ((((((q5.toUInt64 >>> (((7 : Int32) * (p2 - p3)) &&& 0x3f).toInt64.toUInt64).toInt64) &&& (127 : Int64)).toInt32) ||| (128 : Int32)).toInt8.toInt32) ∧ r = (1 : Int32)) ∨ (¬ (p2 < p3) ∧ p2 < (p3 + p4) ∧ (p2 - p3) < (p4 - (1 : Int32)) ∧ ¬ ((bs1.getD p2.toInt.toNat 0) = ((((((q5.toUInt64 >>> (((7 : Int32) * (p2 - p3)) &&& 0x3f).toInt64.toUInt64).toInt64) &&& (127 : Int64)).toInt32) ||| (128 : Int32)).toInt8.toInt32)) ∧ r = (0 : Int32)) ∨ (¬ (p2 < p3) ∧ p2 < (p3 + p4) ∧ ¬ ((p2 - p3) < (p4 - (1 : Int32))) ∧ (bs1.getD p2.toInt.toNat 0) = (((((q5.toUInt64 >>> (((7 : Int32) * (p2 - p3)) &&& 0x3f).toInt64.toUInt64).toInt64) &&& (127 : Int64)).toInt32).toInt8.toInt32) ∧ r = (1 : Int32)) ∨ (¬ (p2 < p3) ∧ p2 < (p3 + p4) ∧ ¬ ((p2 - p3) < (p4 - (1 : Int32))) ∧ ¬ ((bs1.getD p2.toInt.toNat 0) = (((((q5.toUInt64 >>> (((7 : Int32) * (p2 - p3)) &&& 0x3f).toInt64.toUInt64).toInt64) &&& (127 : Int64)).toInt32).toInt8.toInt32)) ∧ r = (0 : Int32)) ∨ (¬ (p2 < p3) ∧ ¬ (p2 < (p3 + p4)) ∧ (bs1.getD p2.toInt.toNat 0) = p6 ∧ r = (1 : Int32)) ∨ (¬ (p2 < p3) ∧ ¬ (p2 < (p3 + p4)) ∧ ¬ ((bs1.getD p2.toInt.toNat 0) = p6) ∧ r = (0 : Int32))
def Q3 (Z : State) (a1 : Addr) (p2 : Int32) (p3 : Int32) (p4 : Int32) (q5 : Int64) (p6 : Int32) (bs1 : List Int32) (h0 : Heap) (n0 : Nat) (v : Option Value) (h : Heap) (L : List Loc) : Prop := ∃ r : Int32, v = some (.int r) ∧ Rel3 p2 p3 p4 q5 p6 bs1 r ∧ Fr n0 L ∧ h = h0
theorem ef_rm3 (m : MethodId) (a1 : Addr) (p2 : Int32) (p3 : Int32) (p4 : Int32) (q5 : Int64) (p6 : Int32) : entryFrame m #[(.ref a1), (.int p2), (.int p3), (.int p4), (.long q5), (.int p6)] 9 = mkF m 0 #[.val (.ref a1), .val (.int p2), .val (.int p3), .val (.int p4), .val (.long q5), .second, .val (.int p6), .unset, .unset] [] := by first | (simp [entryFrame, mkF, argsToLocals, Value.category]; done) | rfl
set_option maxRecDepth 65536 in
set_option maxHeartbeats 40000000 in
theorem rm3 (l : Launch) (Z : State) (a0 : Array Value) (hw : ∀ d ∈ tables_1, d.before a0 Z = true) (ws : List Jvm.Cond) (a1 : Addr) (p2 : Int32) (p3 : Int32) (p4 : Int32) (q5 : Int64) (p6 : Int32) (bs1 : List Int32) (h0 : Heap) (n0 : Nat) (Z0 : n0 ≤ h0.size) (A_a1 : AI Z h0 a1 .byte bs1) (hp : 0 ≤ p2.toInt ∧ p2.toInt < 14) (hl : bs1.length = 14) :
    MetFree l (⟨"com/example/rank4/rank4/VarintWritePinLaw", "ok", "([BIIIJB)Z"⟩ : MethodName) (head1 (Jvm.Cond.code (⟨"com/example/rank4/rank4/VarintWritePinLaw", "ok", "([BIIIJB)Z"⟩ : MethodName) method_3_code 9 (some .boolean) :: ws) ({ frames := 0, cells := 0, slots := 0, locals := 0 } : Room)) (fun a U => a = #[(.ref a1), (.int p2), (.int p3), (.int p4), (.long q5), (.int p6)] ∧ Z.Warmed39 U.vm ∧ U.heap = h0) (fun _ _ _ _ _ => True) (fun _ U o U' => ∃ v L, o = .returned v ∧ (Q3 Z a1 p2 p3 p4 q5 p6 bs1 h0 n0) v U'.heap L ∧ FrameEnd U o U' L ({ frames := 0, cells := 0, slots := 0, locals := 0 } : Room).cells ({ frames := 0, cells := 0, slots := 0, locals := 0 } : Room).slots) := by
  refine MetFree.of_bodySF (plainFor_of_name pn_0) hisR ?_
  intro p e s m args below meth c s₁ Bd hml0 hP hK
  obtain ⟨rfl, hZ, hh⟩ := hP
  have hx := Bd.exec
  have hby := Bd.bytes
  have hml : c.maxLocals = 9 := hml0
  have hown : s.vm.findClass "com/example/rank4/rank4/VarintWritePinLaw" = some m.cls := findClass_of_methodNamed Bd.named
  have hnm := (name_of_methodNamed Bd.named Bd.method).1
  have hlk : meth.locks = false := BodyLoose.notSynchronized Bd
  have X0 : Stand p l e ({ frames := 0, cells := 0, slots := 0, locals := 0 } : Room) s m #[(.ref a1), (.int p2), (.int p3), (.int p4), (.long q5), (.int p6)] below meth c s₁ [] 0 0 := Stand.of_body Bd
  have e0 : s₁.heap = h0 := by rw [← hh, Bd.state]; rfl
  have N0 := Fr.nil n0
  show Go p e below s ({ frames := 0, cells := 0, slots := 0, locals := 0 } : Room).cells ({ frames := 0, cells := 0, slots := 0, locals := 0 } : Room).slots (Q3 Z a1 p2 p3 p4 q5 p6 bs1 h0 n0) s₁ (entryFrame m #[(.ref a1), (.int p2), (.int p3), (.int p4), (.long q5), (.int p6)] 9)
  rw [ef_rm3 m a1 p2 p3 p4 q5 p6]
  refine g_iloadN 1 X0 hx (hb hby d3_0) rfl (v := p2) rfl ?_
  refine g_iloadN 2 X0 hx (hb hby d3_1) rfl (v := p3) rfl ?_
  by_cases hc2_0 : p2 < p3
  ·
    refine g_icmpYes 12 X0 hx (hb hby d3_2)  (tlt hc2_0).1 (by decide) (by decide) ?_
    refine g_aloadN 13 X0 hx (hb hby d3_12) rfl (v := (.ref a1)) rfl rfl ?_
    refine g_iloadN 14 X0 hx (hb hby d3_13) rfl (v := p2) rfl ?_
    refine g_baload 15 X0 hx hZ e0 A_a1 (p2.toInt.toNat) (own_nat0 hp.1) rfl (z := (bs1.getD p2.toInt.toNat 0)) (own_get (by omega)) (hb hby d3_14) rfl ?_
    refine g_iload 17 X0 hx (hb hby d3_15) rfl (v := p6) rfl ?_
    by_cases hc17_1 : (bs1.getD p2.toInt.toNat 0) = p6
    ·
      refine g_icmpNo 20 X0 hx (hb hby d3_17)  (teq hc17_1).2 rfl ?_
      refine g_iconst 21 X0 hx (hb hby d3_20) rfl (z := (1 : Int32)) rfl ?_
      refine g_goto 25 X0 hx (hb hby d3_21) (by decide) (by decide) ?_
      exact g_retN X0 hx (t := .boolean) Bd.returns hlk (by simp) rfl (hb hby d3_25) (by decide) (by decide) ⟨(1 : Int32), rfl, (Or.inl ⟨hc2_0, hc17_1, rfl⟩), N0, e0⟩
    ·
      refine g_icmpYes 24 X0 hx (hb hby d3_17)  (feq hc17_1).2 (by decide) (by decide) ?_
      refine g_iconst 25 X0 hx (hb hby d3_24) rfl (z := (0 : Int32)) rfl ?_
      exact g_retN X0 hx (t := .boolean) Bd.returns hlk (by simp) rfl (hb hby d3_25) (by decide) (by decide) ⟨(0 : Int32), rfl, (Or.inr (Or.inl ⟨hc2_0, hc17_1, rfl⟩)), N0, e0⟩
  ·
    refine g_icmpNo 5 X0 hx (hb hby d3_2)  (flt hc2_0).1 rfl ?_
    refine g_iloadN 6 X0 hx (hb hby d3_5) rfl (v := p2) rfl ?_
    refine g_iloadN 7 X0 hx (hb hby d3_6) rfl (v := p3) rfl ?_
    refine g_iloadN 8 X0 hx (hb hby d3_7) rfl (v := p4) rfl ?_
    refine g_iadd 9 X0 hx (hb hby d3_8) rfl (z := (p3 + p4)) rfl ?_
    by_cases hc9_2 : p2 < (p3 + p4)
    ·
      refine g_icmpYes 26 X0 hx (hb hby d3_9)  (tlt hc9_2).1 (by decide) (by decide) ?_
      refine g_iloadN 27 X0 hx (hb hby d3_26) rfl (v := p2) rfl ?_
      refine g_iloadN 28 X0 hx (hb hby d3_27) rfl (v := p3) rfl ?_
      refine g_isub 29 X0 hx (hb hby d3_28) rfl (z := (p2 - p3)) rfl ?_
      refine g_istore 31 X0 hx (hb hby d3_29) rfl (Ls' := #[.val (.ref a1), .val (.int p2), .val (.int p3), .val (.int p4), .val (.long q5), .second, .val (.int p6), .val (.int (p2 - p3)), .unset]) rfl ?_
      refine g_lload 33 X0 hx (hb hby d3_31) rfl (v := q5) rfl ?_
      refine g_bipush 35 X0 hx (hb hby d3_33) rfl (z := (7 : Int32)) rfl ?_
      refine g_iload 37 X0 hx (hb hby d3_35) rfl (v := (p2 - p3)) rfl ?_
      refine g_imul 38 X0 hx (hb hby d3_37) rfl (z := ((7 : Int32) * (p2 - p3))) rfl ?_
      refine g_lushr 39 X0 hx (hb hby d3_38) rfl (z := ((q5.toUInt64 >>> (((7 : Int32) * (p2 - p3)) &&& 0x3f).toInt64.toUInt64).toInt64)) rfl ?_
      refine g_ldc2 42 X0 hx hZ hown (hw _ (List.mem_of_getElem? (i := 15) rfl)) (hb hby d3_39) rfl ?_
      refine g_land 43 X0 hx (hb hby d3_42) rfl (z := (((q5.toUInt64 >>> (((7 : Int32) * (p2 - p3)) &&& 0x3f).toInt64.toUInt64).toInt64) &&& (127 : Int64))) rfl ?_
      refine g_l2i 44 X0 hx (hb hby d3_43) rfl (z := ((((q5.toUInt64 >>> (((7 : Int32) * (p2 - p3)) &&& 0x3f).toInt64.toUInt64).toInt64) &&& (127 : Int64)).toInt32)) rfl ?_
      refine g_istore 46 X0 hx (hb hby d3_44) rfl (Ls' := #[.val (.ref a1), .val (.int p2), .val (.int p3), .val (.int p4), .val (.long q5), .second, .val (.int p6), .val (.int (p2 - p3)), .val (.int ((((q5.toUInt64 >>> (((7 : Int32) * (p2 - p3)) &&& 0x3f).toInt64.toUInt64).toInt64) &&& (127 : Int64)).toInt32))]) rfl ?_
      refine g_iload 48 X0 hx (hb hby d3_46) rfl (v := (p2 - p3)) rfl ?_
      refine g_iloadN 49 X0 hx (hb hby d3_48) rfl (v := p4) rfl ?_
      refine g_iconst 50 X0 hx (hb hby d3_49) rfl (z := (1 : Int32)) rfl ?_
      refine g_isub 51 X0 hx (hb hby d3_50) rfl (z := (p4 - (1 : Int32))) rfl ?_
      by_cases hc51_3 : (p2 - p3) < (p4 - (1 : Int32))
      ·
        refine g_icmpNo 54 X0 hx (hb hby d3_51)  (tlt hc51_3).2.1 rfl ?_
        refine g_iload 56 X0 hx (hb hby d3_54) rfl (v := ((((q5.toUInt64 >>> (((7 : Int32) * (p2 - p3)) &&& 0x3f).toInt64.toUInt64).toInt64) &&& (127 : Int64)).toInt32)) rfl ?_
        refine g_sipush 59 X0 hx (hb hby d3_56) rfl (z := (128 : Int32)) rfl ?_
        refine g_ior 60 X0 hx (hb hby d3_59) rfl (z := (((((q5.toUInt64 >>> (((7 : Int32) * (p2 - p3)) &&& 0x3f).toInt64.toUInt64).toInt64) &&& (127 : Int64)).toInt32) ||| (128 : Int32))) rfl ?_
        refine g_istore 62 X0 hx (hb hby d3_60) rfl (Ls' := #[.val (.ref a1), .val (.int p2), .val (.int p3), .val (.int p4), .val (.long q5), .second, .val (.int p6), .val (.int (p2 - p3)), .val (.int (((((q5.toUInt64 >>> (((7 : Int32) * (p2 - p3)) &&& 0x3f).toInt64.toUInt64).toInt64) &&& (127 : Int64)).toInt32) ||| (128 : Int32)))]) rfl ?_
        refine g_aloadN 63 X0 hx (hb hby d3_62) rfl (v := (.ref a1)) rfl rfl ?_
        refine g_iloadN 64 X0 hx (hb hby d3_63) rfl (v := p2) rfl ?_
        refine g_baload 65 X0 hx hZ e0 A_a1 (p2.toInt.toNat) (own_nat0 hp.1) rfl (z := (bs1.getD p2.toInt.toNat 0)) (own_get (by omega)) (hb hby d3_64) rfl ?_
        refine g_iload 67 X0 hx (hb hby d3_65) rfl (v := (((((q5.toUInt64 >>> (((7 : Int32) * (p2 - p3)) &&& 0x3f).toInt64.toUInt64).toInt64) &&& (127 : Int64)).toInt32) ||| (128 : Int32))) rfl ?_
        refine g_i2b 68 X0 hx (hb hby d3_67) rfl (z := ((((((q5.toUInt64 >>> (((7 : Int32) * (p2 - p3)) &&& 0x3f).toInt64.toUInt64).toInt64) &&& (127 : Int64)).toInt32) ||| (128 : Int32)).toInt8.toInt32)) rfl ?_
        by_cases hc68_4 : (bs1.getD p2.toInt.toNat 0) = ((((((q5.toUInt64 >>> (((7 : Int32) * (p2 - p3)) &&& 0x3f).toInt64.toUInt64).toInt64) &&& (127 : Int64)).toInt32) ||| (128 : Int32)).toInt8.toInt32)
        ·
          refine g_icmpNo 71 X0 hx (hb hby d3_68)  (teq hc68_4).2 rfl ?_
          refine g_iconst 72 X0 hx (hb hby d3_71) rfl (z := (1 : Int32)) rfl ?_
          refine g_goto 76 X0 hx (hb hby d3_72) (by decide) (by decide) ?_
          exact g_retN X0 hx (t := .boolean) Bd.returns hlk (by simp) rfl (hb hby d3_76) (by decide) (by decide) ⟨(1 : Int32), rfl, (Or.inr (Or.inr (Or.inl ⟨hc2_0, hc9_2, hc51_3, hc68_4, rfl⟩))), N0, e0⟩
        ·
          refine g_icmpYes 75 X0 hx (hb hby d3_68)  (feq hc68_4).2 (by decide) (by decide) ?_
          refine g_iconst 76 X0 hx (hb hby d3_75) rfl (z := (0 : Int32)) rfl ?_
          exact g_retN X0 hx (t := .boolean) Bd.returns hlk (by simp) rfl (hb hby d3_76) (by decide) (by decide) ⟨(0 : Int32), rfl, (Or.inr (Or.inr (Or.inr (Or.inl ⟨hc2_0, hc9_2, hc51_3, hc68_4, rfl⟩)))), N0, e0⟩
      ·
        refine g_icmpYes 62 X0 hx (hb hby d3_51)  (flt hc51_3).2.1 (by decide) (by decide) ?_
        refine g_aloadN 63 X0 hx (hb hby d3_62) rfl (v := (.ref a1)) rfl rfl ?_
        refine g_iloadN 64 X0 hx (hb hby d3_63) rfl (v := p2) rfl ?_
        refine g_baload 65 X0 hx hZ e0 A_a1 (p2.toInt.toNat) (own_nat0 hp.1) rfl (z := (bs1.getD p2.toInt.toNat 0)) (own_get (by omega)) (hb hby d3_64) rfl ?_
        refine g_iload 67 X0 hx (hb hby d3_65) rfl (v := ((((q5.toUInt64 >>> (((7 : Int32) * (p2 - p3)) &&& 0x3f).toInt64.toUInt64).toInt64) &&& (127 : Int64)).toInt32)) rfl ?_
        refine g_i2b 68 X0 hx (hb hby d3_67) rfl (z := (((((q5.toUInt64 >>> (((7 : Int32) * (p2 - p3)) &&& 0x3f).toInt64.toUInt64).toInt64) &&& (127 : Int64)).toInt32).toInt8.toInt32)) rfl ?_
        by_cases hc68_5 : (bs1.getD p2.toInt.toNat 0) = (((((q5.toUInt64 >>> (((7 : Int32) * (p2 - p3)) &&& 0x3f).toInt64.toUInt64).toInt64) &&& (127 : Int64)).toInt32).toInt8.toInt32)
        ·
          refine g_icmpNo 71 X0 hx (hb hby d3_68)  (teq hc68_5).2 rfl ?_
          refine g_iconst 72 X0 hx (hb hby d3_71) rfl (z := (1 : Int32)) rfl ?_
          refine g_goto 76 X0 hx (hb hby d3_72) (by decide) (by decide) ?_
          exact g_retN X0 hx (t := .boolean) Bd.returns hlk (by simp) rfl (hb hby d3_76) (by decide) (by decide) ⟨(1 : Int32), rfl, (Or.inr (Or.inr (Or.inr (Or.inr (Or.inl ⟨hc2_0, hc9_2, hc51_3, hc68_5, rfl⟩))))), N0, e0⟩
        ·
          refine g_icmpYes 75 X0 hx (hb hby d3_68)  (feq hc68_5).2 (by decide) (by decide) ?_
          refine g_iconst 76 X0 hx (hb hby d3_75) rfl (z := (0 : Int32)) rfl ?_
          exact g_retN X0 hx (t := .boolean) Bd.returns hlk (by simp) rfl (hb hby d3_76) (by decide) (by decide) ⟨(0 : Int32), rfl, (Or.inr (Or.inr (Or.inr (Or.inr (Or.inr (Or.inl ⟨hc2_0, hc9_2, hc51_3, hc68_5, rfl⟩)))))), N0, e0⟩
    ·
      refine g_icmpNo 12 X0 hx (hb hby d3_9)  (flt hc9_2).1 rfl ?_
      refine g_aloadN 13 X0 hx (hb hby d3_12) rfl (v := (.ref a1)) rfl rfl ?_
      refine g_iloadN 14 X0 hx (hb hby d3_13) rfl (v := p2) rfl ?_
      refine g_baload 15 X0 hx hZ e0 A_a1 (p2.toInt.toNat) (own_nat0 hp.1) rfl (z := (bs1.getD p2.toInt.toNat 0)) (own_get (by omega)) (hb hby d3_14) rfl ?_
      refine g_iload 17 X0 hx (hb hby d3_15) rfl (v := p6) rfl ?_
      by_cases hc17_6 : (bs1.getD p2.toInt.toNat 0) = p6
      ·
        refine g_icmpNo 20 X0 hx (hb hby d3_17)  (teq hc17_6).2 rfl ?_
        refine g_iconst 21 X0 hx (hb hby d3_20) rfl (z := (1 : Int32)) rfl ?_
        refine g_goto 25 X0 hx (hb hby d3_21) (by decide) (by decide) ?_
        exact g_retN X0 hx (t := .boolean) Bd.returns hlk (by simp) rfl (hb hby d3_25) (by decide) (by decide) ⟨(1 : Int32), rfl, (Or.inr (Or.inr (Or.inr (Or.inr (Or.inr (Or.inr (Or.inl ⟨hc2_0, hc9_2, hc17_6, rfl⟩))))))), N0, e0⟩
      ·
        refine g_icmpYes 24 X0 hx (hb hby d3_17)  (feq hc17_6).2 (by decide) (by decide) ?_
        refine g_iconst 25 X0 hx (hb hby d3_24) rfl (z := (0 : Int32)) rfl ?_
        exact g_retN X0 hx (t := .boolean) Bd.returns hlk (by simp) rfl (hb hby d3_25) (by decide) (by decide) ⟨(0 : Int32), rfl, (Or.inr (Or.inr (Or.inr (Or.inr (Or.inr (Or.inr (Or.inr ⟨hc2_0, hc9_2, hc17_6, rfl⟩))))))), N0, e0⟩
theorem own_idem (x : Int32) : (x.toInt8.toInt32).toInt8.toInt32 = x.toInt8.toInt32 := by
  have a := c_i2b x
  have b := c_i2b x.toInt8.toInt32
  apply Int32.toInt_inj.mp
  omega
theorem own_oN {g : Nat} (h : g < 1000) : (Int32.ofNat g).toInt = g := Int32.toInt_ofNat_small (by omega)
def own_rest (n : Int64) : Nat → Int64
  | 0 => n
  | i + 1 => ((own_rest n i).toUInt64 >>> ((7 : Int32) &&& 0x3f).toInt64.toUInt64).toInt64
def own_cb (n : Int64) (i : Nat) : Int32 := (((own_rest n i ||| (128 : Int64)).toInt32).toInt8.toInt32).toInt8.toInt32
def own_lb (n : Int64) (i : Nat) : Int32 := (((own_rest n i).toInt32).toInt8.toInt32).toInt8.toInt32
def own_wl (n : Int64) (a : Nat) (bs : List Int32) : Nat → List Int32
  | 0 => bs
  | i + 1 => (own_wl n a bs i).set (a + i) (own_cb n i)
theorem own_wlen (n : Int64) (a : Nat) (bs : List Int32) (i : Nat) : (own_wl n a bs i).length = bs.length := by
  induction i with
  | zero => rfl
  | succ i ih => rw [own_wl, List.length_set, ih]
theorem own_setD (bs : List Int32) (q p : Nat) (x : Int32) (h : q < bs.length) : (bs.set q x).getD p 0 = if p = q then x else bs.getD p 0 := by
  rw [List.getD_eq_getElem?_getD, List.getD_eq_getElem?_getD, List.getElem?_set]
  by_cases e : q = p
  · subst e; simp [h]
  · have : ¬ p = q := fun z => e z.symm
    simp [e, this]
theorem own_wlD (n : Int64) (a : Nat) (bs : List Int32) (i p : Nat) (h : a + i ≤ bs.length) : (own_wl n a bs i).getD p 0 = if a ≤ p ∧ p < a + i then own_cb n (p - a) else bs.getD p 0 := by
  induction i with
  | zero =>
    rw [own_wl, if_neg (by omega)]
  | succ i ih =>
    rw [own_wl, own_setD _ _ _ _ (by rw [own_wlen]; omega), ih (by omega)]
    by_cases e : p = a + i
    · subst e; rw [if_pos rfl, if_pos (by omega)]; congr 1; omega
    · rw [if_neg e]
      by_cases c : a ≤ p ∧ p < a + i
      · rw [if_pos c, if_pos (by omega)]
      · rw [if_neg c, if_neg (by omega)]
theorem own_restB (n : Int64) (i : Nat) : (own_rest n i).toBitVec = n.toBitVec >>> (7 * i) := by
  induction i with
  | zero => simp [own_rest]
  | succ i ih =>
    rw [own_rest, own_ushrB _ (7 : Int32) 7 (by decide), ih, ← BitVec.shiftRight_add]
    congr 1
theorem own_restN (n : Int64) (i : Nat) : (own_rest n i).toBitVec.toNat = n.toBitVec.toNat / 2 ^ (7 * i) := by
  rw [own_restB, BitVec.toNat_ushiftRight, Nat.shiftRight_eq_div_pow]
theorem own_m128 : ∀ t : Fin 64, (-128 : Int64).toBitVec.getLsbD t = decide (7 ≤ t.val) := by decide
theorem own_z (R : Int64) : (R &&& (-128 : Int64)) = (0 : Int64) ↔ R.toBitVec.toNat < 128 := by
  rw [← Int64.toBitVec_inj, Int64.toBitVec_and]
  constructor
  · intro h
    show _ < 2 ^ 7
    apply Nat.lt_pow_two_of_testBit
    intro t ht
    by_cases c : t < 64
    · have q := congrArg (fun y => y.getLsbD t) h
      simp only [BitVec.getLsbD_and] at q
      rw [own_m128 ⟨t, c⟩] at q
      simp [ht] at q
      exact q
    · exact Nat.testBit_lt_two_pow (Nat.lt_of_lt_of_le R.toBitVec.isLt (Nat.pow_le_pow_right (by decide) (by omega)))
  · intro h
    apply BitVec.eq_of_getLsbD_eq
    intro t ht
    rw [BitVec.getLsbD_and, own_m128 ⟨t, ht⟩]
    by_cases c : 7 ≤ t
    · have : R.toBitVec.getLsbD t = false := Nat.testBit_lt_two_pow (Nat.lt_of_lt_of_le h (Nat.pow_le_pow_right (show 0 < 2 by decide) c))
      rw [this]
      simp
    · simp [c]
theorem own_r9 (n : Int64) : (own_rest n 9 &&& (-128 : Int64)) = (0 : Int64) := by
  rw [own_z, own_restN]
  have := n.toBitVec.isLt
  show n.toBitVec.toNat / 2 ^ 63 < 128
  omega
/-- what write leaves -/
def WR (n : Int64) (a : Int32) (bs F : List Int32) (i : Nat) (r : Int32) : Prop := i ≤ 9 ∧ (own_rest n i &&& (-128 : Int64)) = (0 : Int64) ∧ (∀ j, j < i → ¬ (own_rest n j &&& (-128 : Int64)) = (0 : Int64)) ∧ r = (a + Int32.ofNat i) + (1 : Int32) ∧ F = (own_wl n a.toInt.toNat bs i).set (a.toInt.toNat + i) (own_lb n i)
theorem own_signed (n : Int64) : n.toInt = if n.toBitVec.toNat < 9223372036854775808 then (n.toBitVec.toNat : Int) else (n.toBitVec.toNat : Int) - 18446744073709551616 := by
  rw [show n.toInt = n.toBitVec.toInt from rfl, BitVec.toInt_eq_toNat_cond]
  have := n.toBitVec.isLt
  split <;> split <;> omega
theorem own_len (n : Int64) (i : Nat) (l : Int32) (h9 : i ≤ 9) (h1 : (own_rest n i &&& (-128 : Int64)) = (0 : Int64)) (h2 : ∀ j, j < i → ¬ (own_rest n j &&& (-128 : Int64)) = (0 : Int64)) (hl : Rel1 n l) : l = Int32.ofNat (i + 1) := by
  rw [own_z, own_restN] at h1
  have h3 : i = 0 ∨ 128 ≤ n.toBitVec.toNat / 2 ^ (7 * (i - 1)) := by
    rcases Nat.eq_zero_or_pos i with z | z
    · exact Or.inl z
    · right
      have q := h2 (i - 1) (by omega)
      rw [own_z, own_restN] at q
      omega
  have sg := own_signed n
  have lt := n.toBitVec.isLt
  unfold Rel1 at hl
  simp only [Int64.lt_iff_toInt_lt, Int64.reduceToInt] at hl
  rw [sg] at hl
  generalize n.toBitVec.toNat = N at *
  clear sg h2
  obtain rfl | rfl | rfl | rfl | rfl | rfl | rfl | rfl | rfl | rfl : i = 0 ∨ i = 1 ∨ i = 2 ∨ i = 3 ∨ i = 4 ∨ i = 5 ∨ i = 6 ∨ i = 7 ∨ i = 8 ∨ i = 9 := by omega
  all_goals simp only [Nat.reduceMul, Nat.reducePow, Nat.reduceSub, Nat.reduceAdd] at h1 h3 ⊢
  all_goals (rcases hl with ⟨a, b⟩ | ⟨a, c, b⟩ | ⟨a, c, d, b⟩ | ⟨a, c, d, e, b⟩ | ⟨a, c, d, e, f, b⟩ | ⟨a, c, d, e, f, g, b⟩ | ⟨a, c, d, e, f, g, h, b⟩ | ⟨a, c, d, e, f, g, h, k, b⟩ | ⟨a, c, d, e, f, g, h, k, m, b⟩ | ⟨a, c, d, e, f, g, h, k, m, b⟩) <;> first | (rw [b]; rfl) | (exfalso; clear b; split at * <;> omega)
theorem own_ret (n : Int64) (a : Int32) (bs F : List Int32) (i : Nat) (r l z : Int32) (hw : WR n a bs F i r) (hl : Rel1 n l) (hz : a + l = z) : r = z := by
  obtain ⟨h9, h1, h2, h3, -⟩ := hw
  rw [← hz, own_len n i l h9 h1 h2 hl, h3, Int32.ofNat_add, Int32.add_assoc]; rfl
theorem own_or256 : ∀ y : Fin 256, (y.val ||| 128) = y.val % 128 + 128 := by decide +kernel
theorem own_orN (x : Nat) : (x ||| 128) % 256 = x % 128 + 128 := by
  have q := Nat.or_mod_two_pow (a := x) (b := 128) (n := 8)
  have r : (x % 256 ||| 128) = x % 256 % 128 + 128 := own_or256 ⟨x % 256, Nat.mod_lt _ (by decide)⟩
  simp only [show (2 : Nat) ^ 8 = 256 from rfl] at q
  rw [q]
  show (x % 256 ||| 128 % 256) = _
  rw [show 128 % 256 = 128 from rfl, r]
  omega
theorem own_parL (p : Int64) : p.toInt % 18446744073709551616 = p.toBitVec.toNat := by
  rw [show p.toInt = p.toBitVec.toInt from rfl, BitVec.toInt_eq_toNat_bmod]
  have := p.toBitVec.isLt
  have h := bm64 (p.toBitVec.toNat : Int)
  omega
theorem own_or128L (R : Int64) : (R ||| (128 : Int64)).toInt % 256 = R.toInt % 128 + 128 := by
  have a := own_parL (R ||| (128 : Int64))
  have b := own_parL R
  have e : (R ||| (128 : Int64)).toBitVec.toNat = R.toBitVec.toNat ||| 128 := by
    rw [Int64.toBitVec_or, BitVec.toNat_or]; rfl
  rw [e] at a
  have o := own_orN R.toBitVec.toNat
  generalize (R.toBitVec.toNat ||| 128) = W at *
  omega
theorem own_parI (p : Int32) : p.toInt % 4294967296 = p.toBitVec.toNat := by
  rw [show p.toInt = p.toBitVec.toInt from rfl, BitVec.toInt_eq_toNat_bmod]
  have := p.toBitVec.isLt
  have h := bm32 (p.toBitVec.toNat : Int)
  omega
theorem own_or128I (R : Int32) : (R ||| (128 : Int32)).toInt % 256 = R.toInt % 128 + 128 := by
  have a := own_parI (R ||| (128 : Int32))
  have b := own_parI R
  have e : (R ||| (128 : Int32)).toBitVec.toNat = R.toBitVec.toNat ||| 128 := by
    rw [Int32.toBitVec_or, BitVec.toNat_or]; rfl
  rw [e] at a
  have o := own_orN R.toBitVec.toNat
  generalize (R.toBitVec.toNat ||| 128) = W at *
  omega
theorem own_b8 (x y : Int32) (h : (x.toInt - y.toInt) % 256 = 0) : x.toInt8.toInt32 = y.toInt8.toInt32 := by
  have a := c_i2b x
  have b := c_i2b y
  apply Int32.toInt_inj.mp
  omega
theorem own_sh7 : ∀ j : Fin 10, ((7 : Int32) * Int32.ofNat j).toBitVec.toNat % 64 = 7 * j := by decide
theorem own_shift (n : Int64) (j : Nat) (hj : j < 10) : (n.toUInt64 >>> (((7 : Int32) * Int32.ofNat j) &&& 0x3f).toInt64.toUInt64).toInt64 = own_rest n j := by
  apply Int64.toBitVec_inj.mp
  rw [own_ushrB n _ (7 * j) (own_sh7 ⟨j, hj⟩), own_restB]
theorem own_cbE (n : Int64) (j : Nat) : own_cb n j = (((own_rest n j &&& (127 : Int64)).toInt32) ||| (128 : Int32)).toInt8.toInt32 := by
  unfold own_cb
  rw [own_idem]
  apply own_b8
  have a := own_or128L (own_rest n j)
  have b := c_l2i (own_rest n j ||| (128 : Int64))
  have c := own_or128I (own_rest n j &&& (127 : Int64)).toInt32
  have d := c_l2i (own_rest n j &&& (127 : Int64))
  have e := c_maskL (own_rest n j) (127 : Int64) 7 (by decide) (by decide)
  generalize (own_rest n j ||| (128 : Int64)) = A at *
  generalize ((own_rest n j &&& (127 : Int64)).toInt32 ||| (128 : Int32)) = B at *
  generalize (own_rest n j &&& (127 : Int64)) = G at *
  have q1 : A.toInt32.toInt % 256 = A.toInt % 256 := by omega
  have q2 : G.toInt32.toInt % 128 = G.toInt % 128 := by omega
  omega
theorem own_lbE (n : Int64) (j : Nat) (h : (own_rest n j &&& (-128 : Int64)) = (0 : Int64)) : own_lb n j = ((own_rest n j &&& (127 : Int64)).toInt32).toInt8.toInt32 := by
  unfold own_lb
  rw [own_idem]
  apply own_b8
  rw [own_z] at h
  have b := own_parL (own_rest n j)
  have r := rng64 (own_rest n j)
  have e := c_maskL (own_rest n j) (127 : Int64) 7 (by decide) (by decide)
  have q : (own_rest n j &&& (127 : Int64)) = own_rest n j := by
    apply Int64.toInt_inj.mp
    omega
  rw [q]
  omega
theorem own_okay (n : Int64) (a : Int32) (bs F : List Int32) (i : Nat) (r l p fill ro : Int32) (ha : 0 ≤ a.toInt ∧ a.toInt ≤ 4) (hp : 0 ≤ p.toInt ∧ p.toInt < 14) (hb : bs.length = 14) (hf : ∀ q, q < 14 → bs.getD q 0 = fill) (hw : WR n a bs F i r) (hl : Rel1 n l) (ho : Rel3 p a l n fill F ro) : ¬ ro = 0 := by
  obtain ⟨h9, h1, h2, h3, h4⟩ := hw
  have el := own_len n i l h9 h1 h2 hl
  have hF : F.getD p.toInt.toNat 0 = if p.toInt.toNat = a.toInt.toNat + i then own_lb n i else if a.toInt.toNat ≤ p.toInt.toNat ∧ p.toInt.toNat < a.toInt.toNat + i then own_cb n (p.toInt.toNat - a.toInt.toNat) else bs.getD p.toInt.toNat 0 := by
    rw [h4, own_setD _ _ _ _ (by rw [own_wlen]; omega), own_wlD _ _ _ _ _ (by omega)]
  have l1 : l.toInt = i + 1 := by rw [el, own_oN (by omega)]; omega
  have s1 : (a + l).toInt = a.toInt + l.toInt := by
    have x := c_iadd a l
    have y := rng32 (a + l)
    omega
  have s2 : (p - a).toInt = p.toInt - a.toInt := by
    have x := c_isub p a
    have y := rng32 (p - a)
    omega
  have s3 : (l - (1 : Int32)).toInt = l.toInt - 1 := by
    have x := c_isub l (1 : Int32)
    have y := rng32 (l - (1 : Int32))
    simp only [Int32.reduceToInt] at x
    omega
  unfold Rel3 at ho
  rw [hF] at ho
  simp only [Int32.lt_iff_toInt_lt, s1, s2, s3] at ho
  have one : ∀ {x : Int32}, x = 1 → ¬ x = 0 := fun h e => absurd (h.symm.trans e) (by decide)
  rcases ho with ⟨x, y, z⟩ | ⟨x, y, z⟩ | ⟨x, u, v, y, z⟩ | ⟨x, u, v, y, z⟩ | ⟨x, u, v, y, z⟩ | ⟨x, u, v, y, z⟩ | ⟨x, u, y, z⟩ | ⟨x, u, y, z⟩
  · exact one z
  · rw [if_neg (by omega), if_neg (by omega)] at y
    exact absurd (hf _ (by omega)) y
  · exact one z
  · exfalso
    have ej : p - a = Int32.ofNat (p.toInt.toNat - a.toInt.toNat) := by
      apply Int32.toInt_inj.mp
      rw [s2, own_oN (by omega)]; omega
    rw [if_neg (by omega), if_pos (by omega), ej, own_shift n _ (by omega)] at y
    exact y (own_cbE n _)
  · exact one z
  · exfalso
    have ej : p - a = Int32.ofNat i := by
      apply Int32.toInt_inj.mp
      rw [s2, own_oN (by omega)]; omega
    rw [if_pos (by omega), ej, own_shift n _ (by omega)] at y
    exact y (own_lbE n _ h1)
  · exact one z
  · rw [if_neg (by omega), if_neg (by omega)] at y
    exact absurd (hf _ (by omega)) y
theorem own_pos (a : Int32) (g : Nat) (ha : 0 ≤ a.toInt ∧ a.toInt ≤ 4) (hg : g ≤ 9) : (a + Int32.ofNat g).toInt = a.toInt + g := by
  have x := c_iadd a (Int32.ofNat g)
  have y := rng32 (a + Int32.ofNat g)
  rw [own_oN (by omega)] at x
  omega

theorem d2_0 : decode prog_43_method_2_code 0 = .ok (.iload_n 3, 1) := by decide +kernel
theorem d2_1 : decode prog_43_method_2_code 1 = .ok (.istore 4, 2) := by decide +kernel
theorem d2_3 : decode prog_43_method_2_code 3 = .ok (.lload_n 0, 1) := by decide +kernel
theorem d2_4 : decode prog_43_method_2_code 4 = .ok (.lstore 5, 2) := by decide +kernel
theorem d2_6 : decode prog_43_method_2_code 6 = .ok (.lload 5, 2) := by decide +kernel
theorem d2_8 : decode prog_43_method_2_code 8 = .ok (.ldc2_w 7, 3) := by decide +kernel
theorem d2_11 : decode prog_43_method_2_code 11 = .ok (.land, 1) := by decide +kernel
theorem d2_12 : decode prog_43_method_2_code 12 = .ok (.lconst 0, 1) := by decide +kernel
theorem d2_13 : decode prog_43_method_2_code 13 = .ok (.lcmp, 1) := by decide +kernel
theorem d2_14 : decode prog_43_method_2_code 14 = .ok (.ifCond .eq 28, 3) := by decide +kernel
theorem d2_17 : decode prog_43_method_2_code 17 = .ok (.aload_n 2, 1) := by decide +kernel
theorem d2_18 : decode prog_43_method_2_code 18 = .ok (.iload 4, 2) := by decide +kernel
theorem d2_20 : decode prog_43_method_2_code 20 = .ok (.iinc 4 1, 3) := by decide +kernel
theorem d2_23 : decode prog_43_method_2_code 23 = .ok (.lload 5, 2) := by decide +kernel
theorem d2_25 : decode prog_43_method_2_code 25 = .ok (.ldc2_w 9, 3) := by decide +kernel
theorem d2_28 : decode prog_43_method_2_code 28 = .ok (.lor, 1) := by decide +kernel
theorem d2_29 : decode prog_43_method_2_code 29 = .ok (.l2i, 1) := by decide +kernel
theorem d2_30 : decode prog_43_method_2_code 30 = .ok (.i2b, 1) := by decide +kernel
theorem d2_31 : decode prog_43_method_2_code 31 = .ok (.bastore, 1) := by decide +kernel
theorem d2_32 : decode prog_43_method_2_code 32 = .ok (.lload 5, 2) := by decide +kernel
theorem d2_34 : decode prog_43_method_2_code 34 = .ok (.bipush 7, 2) := by decide +kernel
theorem d2_36 : decode prog_43_method_2_code 36 = .ok (.lushr, 1) := by decide +kernel
theorem d2_37 : decode prog_43_method_2_code 37 = .ok (.lstore 5, 2) := by decide +kernel
theorem d2_39 : decode prog_43_method_2_code 39 = .ok (.goto (-33), 3) := by decide +kernel
theorem d2_42 : decode prog_43_method_2_code 42 = .ok (.aload_n 2, 1) := by decide +kernel
theorem d2_43 : decode prog_43_method_2_code 43 = .ok (.iload 4, 2) := by decide +kernel
theorem d2_45 : decode prog_43_method_2_code 45 = .ok (.iinc 4 1, 3) := by decide +kernel
theorem d2_48 : decode prog_43_method_2_code 48 = .ok (.lload 5, 2) := by decide +kernel
theorem d2_50 : decode prog_43_method_2_code 50 = .ok (.l2i, 1) := by decide +kernel
theorem d2_51 : decode prog_43_method_2_code 51 = .ok (.i2b, 1) := by decide +kernel
theorem d2_52 : decode prog_43_method_2_code 52 = .ok (.bastore, 1) := by decide +kernel
theorem d2_53 : decode prog_43_method_2_code 53 = .ok (.iload 4, 2) := by decide +kernel
theorem d2_55 : decode prog_43_method_2_code 55 = .ok (.ireturn, 1) := by decide +kernel
def Q2 (Z : State) (q1 : Int64) (a2 : Addr) (p3 : Int32) (bs2 : List Int32) (h0 : Heap) (n0 : Nat) (v : Option Value) (h : Heap) (L : List Loc) : Prop := ∃ (r : Int32) (F : List Int32) (i : Nat), v = some (.int r) ∧ Fr n0 L ∧ Keep h0 h [a2] ∧ AI Z h a2 .byte F ∧ WR q1 p3 bs2 F i r
theorem pn_1 : plainName "com/example/rank4/rank4/Varint" = true := by first | (simp [plainName, overriddenIn]; done) | decide +kernel
theorem ef_rm2 (m : MethodId) (q1 : Int64) (a2 : Addr) (p3 : Int32) : entryFrame m #[(.long q1), (.ref a2), (.int p3)] 7 = mkF m 0 #[.val (.long q1), .second, .val (.ref a2), .val (.int p3), .unset, .unset, .unset] [] := by first | (simp [entryFrame, mkF, argsToLocals, Value.category]; done) | rfl
set_option maxRecDepth 65536 in
set_option maxHeartbeats 40000000 in
theorem rm2 (l : Launch) (Z : State) (a0 : Array Value) (hw : ∀ d ∈ tables_1, d.before a0 Z = true) (ws : List Jvm.Cond) (q1 : Int64) (a2 : Addr) (p3 : Int32) (bs2 : List Int32) (h0 : Heap) (n0 : Nat) (Z0 : n0 ≤ h0.size) (A_a2 : AI Z h0 a2 .byte bs2) (g_a2 : n0 ≤ a2) (hp : 0 ≤ p3.toInt ∧ p3.toInt ≤ 4) (hbl : bs2.length = 14) :
    MetFree l (⟨"com/example/rank4/rank4/Varint", "write", "(J[BI)I"⟩ : MethodName) (head1 (Jvm.Cond.code (⟨"com/example/rank4/rank4/Varint", "write", "(J[BI)I"⟩ : MethodName) prog_43_method_2_code 7 (some .int) :: ws) ({ frames := 0, cells := 0, slots := 0, locals := 0 } : Room)) (fun a U => a = #[(.long q1), (.ref a2), (.int p3)] ∧ Z.Warmed39 U.vm ∧ U.heap = h0) (fun _ _ _ _ _ => True) (fun _ U o U' => ∃ v L, o = .returned v ∧ (Q2 Z q1 a2 p3 bs2 h0 n0) v U'.heap L ∧ FrameEnd U o U' L ({ frames := 0, cells := 0, slots := 0, locals := 0 } : Room).cells ({ frames := 0, cells := 0, slots := 0, locals := 0 } : Room).slots) := by
  refine MetFree.of_bodySF (plainFor_of_name pn_1) hisR ?_
  intro p e s m args below meth c s₁ Bd hml0 hP hK
  obtain ⟨rfl, hZ, hh⟩ := hP
  have hx := Bd.exec
  have hby := Bd.bytes
  have hml : c.maxLocals = 7 := hml0
  have hown : s.vm.findClass "com/example/rank4/rank4/Varint" = some m.cls := findClass_of_methodNamed Bd.named
  have hnm := (name_of_methodNamed Bd.named Bd.method).1
  have hlk : meth.locks = false := BodyLoose.notSynchronized Bd
  have X0 : Stand p l e ({ frames := 0, cells := 0, slots := 0, locals := 0 } : Room) s m #[(.long q1), (.ref a2), (.int p3)] below meth c s₁ [] 0 0 := Stand.of_body Bd
  have e0 : s₁.heap = h0 := by rw [← hh, Bd.state]; rfl
  have N0 := Fr.nil n0
  have K0 := Keep.refl h0 [a2]
  show Go p e below s ({ frames := 0, cells := 0, slots := 0, locals := 0 } : Room).cells ({ frames := 0, cells := 0, slots := 0, locals := 0 } : Room).slots (Q2 Z q1 a2 p3 bs2 h0 n0) s₁ (entryFrame m #[(.long q1), (.ref a2), (.int p3)] 7)
  rw [ef_rm2 m q1 a2 p3]
  refine g_iloadN 1 X0 hx (hb hby d2_0) rfl (v := p3) rfl ?_
  refine g_istore 3 X0 hx (hb hby d2_1) rfl (Ls' := #[.val (.long q1), .second, .val (.ref a2), .val (.int p3), .val (.int p3), .unset, .unset]) rfl ?_
  refine g_lloadN 4 X0 hx (hb hby d2_3) rfl (v := q1) rfl ?_
  refine g_lstore 6 X0 hx (hb hby d2_4) rfl (Ls' := #[.val (.long q1), .second, .val (.ref a2), .val (.int p3), .val (.int p3), .val (.long q1), .second]) rfl ?_
  have LOOP6 : ∀ (fuel : Nat) (lp : Int32) (lr : Int64) (gi : Nat) (Tl : State) (hl : Heap) (lo : List Loc), 10 - gi < fuel → (lp = p3 + Int32.ofNat gi) → (lr = own_rest q1 gi) → (gi ≤ 9) → (∀ j, j < gi → ¬ (own_rest q1 j &&& (-128 : Int64)) = (0 : Int64)) → (Stand p l e ({ frames := 0, cells := 0, slots := 0, locals := 0 } : Room) s m #[(.long q1), (.ref a2), (.int p3)] below meth c Tl lo 0 0) → (Tl.heap = hl) → (Fr n0 lo) → (n0 ≤ hl.size) → (Keep h0 hl [a2]) → (AI Z hl a2 .byte (own_wl q1 p3.toInt.toNat bs2 gi)) → Go p e below s ({ frames := 0, cells := 0, slots := 0, locals := 0 } : Room).cells ({ frames := 0, cells := 0, slots := 0, locals := 0 } : Room).slots (Q2 Z q1 a2 p3 bs2 h0 n0) Tl (mkF m 6 #[.val (.long q1), .second, .val (.ref a2), .val (.int p3), .val (.int lp), .val (.long lr), .second] []) := by
    intro fuel
    induction fuel with
    | zero => intro lp lr gi Tl hl lo hm; exact absurd hm (Nat.not_lt_zero _)
    | succ fuel ih =>
      intro lp lr gi Tl hl lo hm hlp hlr hgi hall Xl el Nl Zl Kl fl_0
      refine g_lload 8 Xl hx (hb hby d2_6) rfl (v := lr) rfl ?_
      refine g_ldc2 11 Xl hx hZ hown (hw _ (List.mem_of_getElem? (i := 11) rfl)) (hb hby d2_8) rfl ?_
      refine g_land 12 Xl hx (hb hby d2_11) rfl (z := (lr &&& (-128 : Int64))) rfl ?_
      refine g_lconst 13 Xl hx (hb hby d2_12) rfl (z := (0 : Int64)) rfl ?_
      by_cases hc13_0 : (lr &&& (-128 : Int64)) = (0 : Int64)
      ·
        refine g_lcmpYes 42 Xl hx (hb hby d2_13) rfl (hb hby d2_14) (teqL hc13_0).1 (by decide) (by decide) ?_
        refine g_aloadN 43 Xl hx (hb hby d2_42) rfl (v := (.ref a2)) rfl rfl ?_
        refine g_iload 45 Xl hx (hb hby d2_43) rfl (v := lp) rfl ?_
        refine g_iinc 48 Xl hx (hb hby d2_45) rfl (x := lp) rfl (z := (lp + (1 : Int32))) rfl (Ls' := #[.val (.long q1), .second, .val (.ref a2), .val (.int p3), .val (.int (lp + (1 : Int32))), .val (.long lr), .second]) rfl ?_
        refine g_lload 50 Xl hx (hb hby d2_48) rfl (v := lr) rfl ?_
        refine g_l2i 51 Xl hx (hb hby d2_50) rfl (z := (lr.toInt32)) rfl ?_
        refine g_i2b 52 Xl hx (hb hby d2_51) rfl (z := ((lr.toInt32).toInt8.toInt32)) rfl ?_
        refine g_bastore 53 Xl hx hZ el fl_0 (p3.toInt.toNat + gi) (own_nat0 (by rw [hlp, own_pos p3 gi hp hgi]; omega)) (by simp only [Int32.toNatClampNeg]; rw [hlp, own_pos p3 gi hp hgi]; omega) (by rw [own_wlen, hbl]; omega) (z := ((lr.toInt32).toInt8.toInt32).toInt8.toInt32) rfl (hb hby d2_52) rfl ?_
        intro T2 h2 X2 e2 W2 A2
        have Zs3 : n0 ≤ h2.size := (Nat.le_trans Zl (Keep.of_wr W2).1)
        have K4 : Keep h0 h2 [a2] := Kl.wr W2 (Or.inl (List.mem_of_getElem? (i := 0) rfl))
        have N5 := Fr.snoc X2 Nl g_a2
        refine g_iload 55 X2 hx (hb hby d2_53) rfl (v := (lp + (1 : Int32))) rfl ?_
        exact g_retI X2 hx Bd.returns hlk (hb hby d2_55) (by decide) (by decide) (by
        show Q2 Z q1 a2 p3 bs2 h0 n0 _ T2.heap _
        rw [e2]
        exact ⟨_, _, gi, rfl, N5, K4, A2, hgi, by rw [← hlr]; exact hc13_0, hall, by rw [hlp], by rw [hlr]; rfl⟩)
      ·
        refine g_lcmpNo 17 Xl hx (hb hby d2_13) rfl (hb hby d2_14) (feqL hc13_0).1 rfl ?_
        refine g_aloadN 18 Xl hx (hb hby d2_17) rfl (v := (.ref a2)) rfl rfl ?_
        refine g_iload 20 Xl hx (hb hby d2_18) rfl (v := lp) rfl ?_
        refine g_iinc 23 Xl hx (hb hby d2_20) rfl (x := lp) rfl (z := (lp + (1 : Int32))) rfl (Ls' := #[.val (.long q1), .second, .val (.ref a2), .val (.int p3), .val (.int (lp + (1 : Int32))), .val (.long lr), .second]) rfl ?_
        refine g_lload 25 Xl hx (hb hby d2_23) rfl (v := lr) rfl ?_
        refine g_ldc2 28 Xl hx hZ hown (hw _ (List.mem_of_getElem? (i := 21) rfl)) (hb hby d2_25) rfl ?_
        refine g_lor 29 Xl hx (hb hby d2_28) rfl (z := (lr ||| (128 : Int64))) rfl ?_
        refine g_l2i 30 Xl hx (hb hby d2_29) rfl (z := ((lr ||| (128 : Int64)).toInt32)) rfl ?_
        refine g_i2b 31 Xl hx (hb hby d2_30) rfl (z := (((lr ||| (128 : Int64)).toInt32).toInt8.toInt32)) rfl ?_
        refine g_bastore 32 Xl hx hZ el fl_0 (p3.toInt.toNat + gi) (own_nat0 (by rw [hlp, own_pos p3 gi hp hgi]; omega)) (by simp only [Int32.toNatClampNeg]; rw [hlp, own_pos p3 gi hp hgi]; omega) (by rw [own_wlen, hbl]; omega) (z := (((lr ||| (128 : Int64)).toInt32).toInt8.toInt32).toInt8.toInt32) rfl (hb hby d2_31) rfl ?_
        intro T6 h6 X6 e6 W6 A6
        have Zs7 : n0 ≤ h6.size := (Nat.le_trans Zl (Keep.of_wr W6).1)
        have K8 : Keep h0 h6 [a2] := Kl.wr W6 (Or.inl (List.mem_of_getElem? (i := 0) rfl))
        have N9 := Fr.snoc X6 Nl g_a2
        refine g_lload 34 X6 hx (hb hby d2_32) rfl (v := lr) rfl ?_
        refine g_bipush 36 X6 hx (hb hby d2_34) rfl (z := (7 : Int32)) rfl ?_
        refine g_lushr 37 X6 hx (hb hby d2_36) rfl (z := ((lr.toUInt64 >>> ((7 : Int32) &&& 0x3f).toInt64.toUInt64).toInt64)) rfl ?_
        refine g_lstore 39 X6 hx (hb hby d2_37) rfl (Ls' := #[.val (.long q1), .second, .val (.ref a2), .val (.int p3), .val (.int (lp + (1 : Int32))), .val (.long ((lr.toUInt64 >>> ((7 : Int32) &&& 0x3f).toInt64.toUInt64).toInt64)), .second]) rfl ?_
        refine g_goto 6 X6 hx (hb hby d2_39) (by decide) (by decide) ?_
        have hcr : ¬ (own_rest q1 gi &&& (-128 : Int64)) = (0 : Int64) := by rw [← hlr]; exact hc13_0
        have hg9 : gi < 9 := by rcases Nat.lt_or_ge gi 9 with a | a; exact a; exact absurd (by rw [show gi = 9 by omega]; exact own_r9 q1) hcr
        exact ih (lp + (1 : Int32)) ((lr.toUInt64 >>> ((7 : Int32) &&& 0x3f).toInt64.toUInt64).toInt64) (gi + 1) T6 h6 _ (by omega) (by rw [hlp, Int32.ofNat_add, Int32.add_assoc]; rfl) (by rw [hlr]; rfl) (by omega) (fun j hj => by rcases Nat.lt_or_ge j gi with a | a; exact hall j a; rw [show j = gi by omega]; exact hcr) X6 e6 N9 Zs7 K8 (by rw [hlr] at A6; exact A6)
  exact LOOP6 _ p3 q1 0 s₁ h0 _ (Nat.lt_succ_self _) (by rw [show Int32.ofNat 0 = 0 from rfl, Int32.add_zero]) rfl (by decide) (fun j hj => absurd hj (Nat.not_lt_zero j)) X0 e0 N0 Z0 K0 A_a2
theorem pd_0 : parseMethodDescriptor "(J)I" = some ⟨[.long], some .int⟩ := by decide +kernel
theorem pd_1 : parseMethodDescriptor "(J[BI)I" = some ⟨[.long, (.array .byte), .int], some .int⟩ := by decide +kernel
theorem pd_2 : parseMethodDescriptor "([BIIIJB)Z" = some ⟨[(.array .byte), .int, .int, .int, .long, .byte], some .boolean⟩ := by decide +kernel
theorem sub0_0 (p3 : Int32) (z3 : Int32) (z4 : Int32) (hz3 : p3 &&& (2147483647 : Int32) = z3) (hz4 : z3 % (5 : Int32) = z4) : 0 ≤ z4.toInt ∧ z4.toInt ≤ 4 := by
  have o0 := rng32 p3
  have o1 := rng32 (p3 &&& (2147483647 : Int32))
  have o2 := c_mask p3 (2147483647 : Int32) 31 (by decide) (by decide)
  have o3 := rng32 z3
  have o4 := rng32 (z3 % (5 : Int32))
  have o5 := c_irem z3 (5 : Int32) 5 (by decide)
  have o6 := rng32 z4
  simp only [Int32.lt_iff_toInt_lt, Int64.lt_iff_toInt_lt, Int32.le_iff_toInt_le, Int64.le_iff_toInt_le, ← Int32.toInt_inj, ← Int64.toInt_inj, Int32.reduceToInt, Int64.reduceToInt, Int32.toInt_toInt64, ne_eq] at * <;> omega
def Q0 (Z : State) (q1 : Int64) (p2 : Int32) (p3 : Int32) (p4 : Int32) (h0 : Heap) (n0 : Nat) (v : Option Value) (h : Heap) (L : List Loc) : Prop := v = some (.int (1 : Int32)) ∧ Fr n0 L
theorem ef_rm0 (m : MethodId) (q1 : Int64) (p2 : Int32) (p3 : Int32) (p4 : Int32) : entryFrame m #[(.long q1), (.int p2), (.int p3), (.int p4)] maxLocals = mkF m 0 #[.val (.long q1), .second, .val (.int p2), .val (.int p3), .val (.int p4), .unset, .unset, .unset, .unset, .unset, .unset, .unset] [] := by first | (simp [entryFrame, mkF, argsToLocals, Value.category, maxLocals]; done) | rfl
set_option maxRecDepth 65536 in
set_option maxHeartbeats 40000000 in
theorem rm0 (l : Launch) (Z : State) (a0 : Array Value) (hw : ∀ d ∈ tables_1, d.before a0 Z = true) (ws : List Jvm.Cond) (q1 : Int64) (p2 : Int32) (p3 : Int32) (p4 : Int32) (h0 : Heap) (n0 : Nat) (Z0 : n0 ≤ h0.size)  :
    MetFree l x (head1 (Jvm.Cond.code x code maxLocals ret :: ws) room_1) (fun a U => a = #[(.long q1), (.int p2), (.int p3), (.int p4)] ∧ Z.Warmed39 U.vm ∧ U.heap = h0) (fun _ _ _ _ _ => True) (fun _ U o U' => ∃ v L, o = .returned v ∧ (Q0 Z q1 p2 p3 p4 h0 n0) v U'.heap L ∧ FrameEnd U o U' L 16 128) := by
  refine MetFree.of_bodySF (plainFor_of_name pn_0) hisR ?_
  intro p e s m args below meth c s₁ Bd hml0 hP hK
  obtain ⟨rfl, hZ, hh⟩ := hP
  have hx := Bd.exec
  have hby := Bd.bytes
  have hml : c.maxLocals = 12 := hml0
  have hown : s.vm.findClass "com/example/rank4/rank4/VarintWritePinLaw" = some m.cls := findClass_of_methodNamed Bd.named
  have hnm := (name_of_methodNamed Bd.named Bd.method).1
  have hlk : meth.locks = false := BodyLoose.notSynchronized Bd
  have X0 : Stand p l e room_1 s m #[(.long q1), (.int p2), (.int p3), (.int p4)] below meth c s₁ [] 0 0 := Stand.of_body Bd
  have e0 : s₁.heap = h0 := by rw [← hh, Bd.state]; rfl
  have N0 := Fr.nil n0
  show Go p e below s 16 128 (Q0 Z q1 p2 p3 p4 h0 n0) s₁ (entryFrame m #[(.long q1), (.int p2), (.int p3), (.int p4)] maxLocals)
  rw [ef_rm0 m q1 p2 p3 p4]
  refine g_lloadN 1 X0 hx (hb hby at_0) rfl (v := q1) rfl ?_
  refine g_iloadN 2 X0 hx (hb hby at_1) rfl (v := p2) rfl ?_
  refine g_bipush 4 X0 hx (hb hby at_2) rfl (z := (63 : Int32)) rfl ?_
  obtain ⟨z1, hz1⟩ : ∃ z : Int32, p2 &&& (63 : Int32) = z := ⟨_, rfl⟩
  refine g_iand 5 X0 hx (hb hby at_4) rfl (z := z1) hz1 ?_
  obtain ⟨z2, hz2⟩ : ∃ z : Int64, (q1.toUInt64 >>> (z1 &&& 0x3f).toInt64.toUInt64).toInt64 = z := ⟨_, rfl⟩
  refine g_lushr 6 X0 hx (hb hby at_5) rfl (z := z2) hz2 ?_
  refine g_lstore 8 X0 hx (hb hby at_6) rfl (Ls' := #[.val (.long q1), .second, .val (.int p2), .val (.int p3), .val (.int p4), .val (.long z2), .second, .unset, .unset, .unset, .unset, .unset]) rfl ?_
  refine g_iloadN 9 X0 hx (hb hby at_8) rfl (v := p3) rfl ?_
  refine g_ldc 11 X0 hx hZ hown (hw _ (List.mem_of_getElem? (i := 0) rfl)) (hb hby at_9) rfl ?_
  obtain ⟨z3, hz3⟩ : ∃ z : Int32, p3 &&& (2147483647 : Int32) = z := ⟨_, rfl⟩
  refine g_iand 12 X0 hx (hb hby at_11) rfl (z := z3) hz3 ?_
  refine g_iconst 13 X0 hx (hb hby at_12) rfl (z := (5 : Int32)) rfl ?_
  obtain ⟨z4, hz4⟩ : ∃ z : Int32, z3 % (5 : Int32) = z := ⟨_, rfl⟩
  refine g_irem 14 X0 hx (hb hby at_13) rfl (by decide) (z := z4) hz4 ?_
  refine g_istore 16 X0 hx (hb hby at_14) rfl (Ls' := #[.val (.long q1), .second, .val (.int p2), .val (.int p3), .val (.int p4), .val (.long z2), .second, .val (.int z4), .unset, .unset, .unset, .unset]) rfl ?_
  have hA : 0 ≤ z4.toInt ∧ z4.toInt ≤ 4 := (sub0_0 p3 z3 z4 hz3 hz4)
  refine g_iload 18 X0 hx (hb hby at_16) rfl (v := p4) rfl ?_
  obtain ⟨z5, hz5⟩ : ∃ z : Int32, p4.toInt8.toInt32 = z := ⟨_, rfl⟩
  refine g_i2b 19 X0 hx (hb hby at_18) rfl (z := z5) hz5 ?_
  refine g_istore 21 X0 hx (hb hby at_19) rfl (Ls' := #[.val (.long q1), .second, .val (.int p2), .val (.int p3), .val (.int p4), .val (.long z2), .second, .val (.int z4), .val (.int z5), .unset, .unset, .unset]) rfl ?_
  refine g_bipush 23 X0 hx (hb hby at_21) rfl (z := (14 : Int32)) rfl ?_
  refine g_new_byte 25 X0 hx hZ (hw _ (List.mem_of_getElem? (i := 1) rfl)) e0 14 14 (by decide) rfl (by decide) (by decide) (by decide) (by decide) (hb hby at_23) rfl ?_
  intro T6 h6 b6 X6 e6 E6 g6 A6
  have Zs7 : n0 ≤ h6.size := (Nat.le_trans Z0 E6.1)
  have g_b6 : n0 ≤ b6 := Nat.le_trans Z0 (Nat.le_of_eq g6.symm)
  have A6' : AI Z h6 b6 .byte [(0 : Int32), (0 : Int32), (0 : Int32), (0 : Int32), (0 : Int32), (0 : Int32), (0 : Int32), (0 : Int32), (0 : Int32), (0 : Int32), (0 : Int32), (0 : Int32), (0 : Int32), (0 : Int32)] := A6
  refine g_dup 26 X6 hx (hb hby at_25) rfl rfl ?_
  refine g_iconst 27 X6 hx (hb hby at_26) rfl (z := (0 : Int32)) rfl ?_
  refine g_iload 29 X6 hx (hb hby at_27) rfl (v := z5) rfl ?_
  refine g_bastore 30 X6 hx hZ e6 A6' 0 (by decide) rfl (Nat.le_of_ble_eq_true rfl) (z := z5.toInt8.toInt32) rfl (hb hby at_29) rfl ?_
  intro T8 h8 X8 e8 W8 A8
  have Zs9 : n0 ≤ h8.size := (Nat.le_trans Zs7 (Keep.of_wr W8).1)
  have A8' : AI Z h8 b6 .byte [z5.toInt8.toInt32, (0 : Int32), (0 : Int32), (0 : Int32), (0 : Int32), (0 : Int32), (0 : Int32), (0 : Int32), (0 : Int32), (0 : Int32), (0 : Int32), (0 : Int32), (0 : Int32), (0 : Int32)] := A8
  have N10 := Fr.snoc X8 N0 g_b6
  refine g_dup 31 X8 hx (hb hby at_30) rfl rfl ?_
  refine g_iconst 32 X8 hx (hb hby at_31) rfl (z := (1 : Int32)) rfl ?_
  refine g_iload 34 X8 hx (hb hby at_32) rfl (v := z5) rfl ?_
  refine g_bastore 35 X8 hx hZ e8 A8' 1 (by decide) rfl (Nat.le_of_ble_eq_true rfl) (z := z5.toInt8.toInt32) rfl (hb hby at_34) rfl ?_
  intro T11 h11 X11 e11 W11 A11
  have Zs12 : n0 ≤ h11.size := (Nat.le_trans Zs9 (Keep.of_wr W11).1)
  have A11' : AI Z h11 b6 .byte [z5.toInt8.toInt32, z5.toInt8.toInt32, (0 : Int32), (0 : Int32), (0 : Int32), (0 : Int32), (0 : Int32), (0 : Int32), (0 : Int32), (0 : Int32), (0 : Int32), (0 : Int32), (0 : Int32), (0 : Int32)] := A11
  have N13 := Fr.snoc X11 N10 g_b6
  refine g_dup 36 X11 hx (hb hby at_35) rfl rfl ?_
  refine g_iconst 37 X11 hx (hb hby at_36) rfl (z := (2 : Int32)) rfl ?_
  refine g_iload 39 X11 hx (hb hby at_37) rfl (v := z5) rfl ?_
  refine g_bastore 40 X11 hx hZ e11 A11' 2 (by decide) rfl (Nat.le_of_ble_eq_true rfl) (z := z5.toInt8.toInt32) rfl (hb hby at_39) rfl ?_
  intro T14 h14 X14 e14 W14 A14
  have Zs15 : n0 ≤ h14.size := (Nat.le_trans Zs12 (Keep.of_wr W14).1)
  have A14' : AI Z h14 b6 .byte [z5.toInt8.toInt32, z5.toInt8.toInt32, z5.toInt8.toInt32, (0 : Int32), (0 : Int32), (0 : Int32), (0 : Int32), (0 : Int32), (0 : Int32), (0 : Int32), (0 : Int32), (0 : Int32), (0 : Int32), (0 : Int32)] := A14
  have N16 := Fr.snoc X14 N13 g_b6
  refine g_dup 41 X14 hx (hb hby at_40) rfl rfl ?_
  refine g_iconst 42 X14 hx (hb hby at_41) rfl (z := (3 : Int32)) rfl ?_
  refine g_iload 44 X14 hx (hb hby at_42) rfl (v := z5) rfl ?_
  refine g_bastore 45 X14 hx hZ e14 A14' 3 (by decide) rfl (Nat.le_of_ble_eq_true rfl) (z := z5.toInt8.toInt32) rfl (hb hby at_44) rfl ?_
  intro T17 h17 X17 e17 W17 A17
  have Zs18 : n0 ≤ h17.size := (Nat.le_trans Zs15 (Keep.of_wr W17).1)
  have A17' : AI Z h17 b6 .byte [z5.toInt8.toInt32, z5.toInt8.toInt32, z5.toInt8.toInt32, z5.toInt8.toInt32, (0 : Int32), (0 : Int32), (0 : Int32), (0 : Int32), (0 : Int32), (0 : Int32), (0 : Int32), (0 : Int32), (0 : Int32), (0 : Int32)] := A17
  have N19 := Fr.snoc X17 N16 g_b6
  refine g_dup 46 X17 hx (hb hby at_45) rfl rfl ?_
  refine g_iconst 47 X17 hx (hb hby at_46) rfl (z := (4 : Int32)) rfl ?_
  refine g_iload 49 X17 hx (hb hby at_47) rfl (v := z5) rfl ?_
  refine g_bastore 50 X17 hx hZ e17 A17' 4 (by decide) rfl (Nat.le_of_ble_eq_true rfl) (z := z5.toInt8.toInt32) rfl (hb hby at_49) rfl ?_
  intro T20 h20 X20 e20 W20 A20
  have Zs21 : n0 ≤ h20.size := (Nat.le_trans Zs18 (Keep.of_wr W20).1)
  have A20' : AI Z h20 b6 .byte [z5.toInt8.toInt32, z5.toInt8.toInt32, z5.toInt8.toInt32, z5.toInt8.toInt32, z5.toInt8.toInt32, (0 : Int32), (0 : Int32), (0 : Int32), (0 : Int32), (0 : Int32), (0 : Int32), (0 : Int32), (0 : Int32), (0 : Int32)] := A20
  have N22 := Fr.snoc X20 N19 g_b6
  refine g_dup 51 X20 hx (hb hby at_50) rfl rfl ?_
  refine g_iconst 52 X20 hx (hb hby at_51) rfl (z := (5 : Int32)) rfl ?_
  refine g_iload 54 X20 hx (hb hby at_52) rfl (v := z5) rfl ?_
  refine g_bastore 55 X20 hx hZ e20 A20' 5 (by decide) rfl (Nat.le_of_ble_eq_true rfl) (z := z5.toInt8.toInt32) rfl (hb hby at_54) rfl ?_
  intro T23 h23 X23 e23 W23 A23
  have Zs24 : n0 ≤ h23.size := (Nat.le_trans Zs21 (Keep.of_wr W23).1)
  have A23' : AI Z h23 b6 .byte [z5.toInt8.toInt32, z5.toInt8.toInt32, z5.toInt8.toInt32, z5.toInt8.toInt32, z5.toInt8.toInt32, z5.toInt8.toInt32, (0 : Int32), (0 : Int32), (0 : Int32), (0 : Int32), (0 : Int32), (0 : Int32), (0 : Int32), (0 : Int32)] := A23
  have N25 := Fr.snoc X23 N22 g_b6
  refine g_dup 56 X23 hx (hb hby at_55) rfl rfl ?_
  refine g_bipush 58 X23 hx (hb hby at_56) rfl (z := (6 : Int32)) rfl ?_
  refine g_iload 60 X23 hx (hb hby at_58) rfl (v := z5) rfl ?_
  refine g_bastore 61 X23 hx hZ e23 A23' 6 (by decide) rfl (Nat.le_of_ble_eq_true rfl) (z := z5.toInt8.toInt32) rfl (hb hby at_60) rfl ?_
  intro T26 h26 X26 e26 W26 A26
  have Zs27 : n0 ≤ h26.size := (Nat.le_trans Zs24 (Keep.of_wr W26).1)
  have A26' : AI Z h26 b6 .byte [z5.toInt8.toInt32, z5.toInt8.toInt32, z5.toInt8.toInt32, z5.toInt8.toInt32, z5.toInt8.toInt32, z5.toInt8.toInt32, z5.toInt8.toInt32, (0 : Int32), (0 : Int32), (0 : Int32), (0 : Int32), (0 : Int32), (0 : Int32), (0 : Int32)] := A26
  have N28 := Fr.snoc X26 N25 g_b6
  refine g_dup 62 X26 hx (hb hby at_61) rfl rfl ?_
  refine g_bipush 64 X26 hx (hb hby at_62) rfl (z := (7 : Int32)) rfl ?_
  refine g_iload 66 X26 hx (hb hby at_64) rfl (v := z5) rfl ?_
  refine g_bastore 67 X26 hx hZ e26 A26' 7 (by decide) rfl (Nat.le_of_ble_eq_true rfl) (z := z5.toInt8.toInt32) rfl (hb hby at_66) rfl ?_
  intro T29 h29 X29 e29 W29 A29
  have Zs30 : n0 ≤ h29.size := (Nat.le_trans Zs27 (Keep.of_wr W29).1)
  have A29' : AI Z h29 b6 .byte [z5.toInt8.toInt32, z5.toInt8.toInt32, z5.toInt8.toInt32, z5.toInt8.toInt32, z5.toInt8.toInt32, z5.toInt8.toInt32, z5.toInt8.toInt32, z5.toInt8.toInt32, (0 : Int32), (0 : Int32), (0 : Int32), (0 : Int32), (0 : Int32), (0 : Int32)] := A29
  have N31 := Fr.snoc X29 N28 g_b6
  refine g_dup 68 X29 hx (hb hby at_67) rfl rfl ?_
  refine g_bipush 70 X29 hx (hb hby at_68) rfl (z := (8 : Int32)) rfl ?_
  refine g_iload 72 X29 hx (hb hby at_70) rfl (v := z5) rfl ?_
  refine g_bastore 73 X29 hx hZ e29 A29' 8 (by decide) rfl (Nat.le_of_ble_eq_true rfl) (z := z5.toInt8.toInt32) rfl (hb hby at_72) rfl ?_
  intro T32 h32 X32 e32 W32 A32
  have Zs33 : n0 ≤ h32.size := (Nat.le_trans Zs30 (Keep.of_wr W32).1)
  have A32' : AI Z h32 b6 .byte [z5.toInt8.toInt32, z5.toInt8.toInt32, z5.toInt8.toInt32, z5.toInt8.toInt32, z5.toInt8.toInt32, z5.toInt8.toInt32, z5.toInt8.toInt32, z5.toInt8.toInt32, z5.toInt8.toInt32, (0 : Int32), (0 : Int32), (0 : Int32), (0 : Int32), (0 : Int32)] := A32
  have N34 := Fr.snoc X32 N31 g_b6
  refine g_dup 74 X32 hx (hb hby at_73) rfl rfl ?_
  refine g_bipush 76 X32 hx (hb hby at_74) rfl (z := (9 : Int32)) rfl ?_
  refine g_iload 78 X32 hx (hb hby at_76) rfl (v := z5) rfl ?_
  refine g_bastore 79 X32 hx hZ e32 A32' 9 (by decide) rfl (Nat.le_of_ble_eq_true rfl) (z := z5.toInt8.toInt32) rfl (hb hby at_78) rfl ?_
  intro T35 h35 X35 e35 W35 A35
  have Zs36 : n0 ≤ h35.size := (Nat.le_trans Zs33 (Keep.of_wr W35).1)
  have A35' : AI Z h35 b6 .byte [z5.toInt8.toInt32, z5.toInt8.toInt32, z5.toInt8.toInt32, z5.toInt8.toInt32, z5.toInt8.toInt32, z5.toInt8.toInt32, z5.toInt8.toInt32, z5.toInt8.toInt32, z5.toInt8.toInt32, z5.toInt8.toInt32, (0 : Int32), (0 : Int32), (0 : Int32), (0 : Int32)] := A35
  have N37 := Fr.snoc X35 N34 g_b6
  refine g_dup 80 X35 hx (hb hby at_79) rfl rfl ?_
  refine g_bipush 82 X35 hx (hb hby at_80) rfl (z := (10 : Int32)) rfl ?_
  refine g_iload 84 X35 hx (hb hby at_82) rfl (v := z5) rfl ?_
  refine g_bastore 85 X35 hx hZ e35 A35' 10 (by decide) rfl (Nat.le_of_ble_eq_true rfl) (z := z5.toInt8.toInt32) rfl (hb hby at_84) rfl ?_
  intro T38 h38 X38 e38 W38 A38
  have Zs39 : n0 ≤ h38.size := (Nat.le_trans Zs36 (Keep.of_wr W38).1)
  have A38' : AI Z h38 b6 .byte [z5.toInt8.toInt32, z5.toInt8.toInt32, z5.toInt8.toInt32, z5.toInt8.toInt32, z5.toInt8.toInt32, z5.toInt8.toInt32, z5.toInt8.toInt32, z5.toInt8.toInt32, z5.toInt8.toInt32, z5.toInt8.toInt32, z5.toInt8.toInt32, (0 : Int32), (0 : Int32), (0 : Int32)] := A38
  have N40 := Fr.snoc X38 N37 g_b6
  refine g_dup 86 X38 hx (hb hby at_85) rfl rfl ?_
  refine g_bipush 88 X38 hx (hb hby at_86) rfl (z := (11 : Int32)) rfl ?_
  refine g_iload 90 X38 hx (hb hby at_88) rfl (v := z5) rfl ?_
  refine g_bastore 91 X38 hx hZ e38 A38' 11 (by decide) rfl (Nat.le_of_ble_eq_true rfl) (z := z5.toInt8.toInt32) rfl (hb hby at_90) rfl ?_
  intro T41 h41 X41 e41 W41 A41
  have Zs42 : n0 ≤ h41.size := (Nat.le_trans Zs39 (Keep.of_wr W41).1)
  have A41' : AI Z h41 b6 .byte [z5.toInt8.toInt32, z5.toInt8.toInt32, z5.toInt8.toInt32, z5.toInt8.toInt32, z5.toInt8.toInt32, z5.toInt8.toInt32, z5.toInt8.toInt32, z5.toInt8.toInt32, z5.toInt8.toInt32, z5.toInt8.toInt32, z5.toInt8.toInt32, z5.toInt8.toInt32, (0 : Int32), (0 : Int32)] := A41
  have N43 := Fr.snoc X41 N40 g_b6
  refine g_dup 92 X41 hx (hb hby at_91) rfl rfl ?_
  refine g_bipush 94 X41 hx (hb hby at_92) rfl (z := (12 : Int32)) rfl ?_
  refine g_iload 96 X41 hx (hb hby at_94) rfl (v := z5) rfl ?_
  refine g_bastore 97 X41 hx hZ e41 A41' 12 (by decide) rfl (Nat.le_of_ble_eq_true rfl) (z := z5.toInt8.toInt32) rfl (hb hby at_96) rfl ?_
  intro T44 h44 X44 e44 W44 A44
  have Zs45 : n0 ≤ h44.size := (Nat.le_trans Zs42 (Keep.of_wr W44).1)
  have A44' : AI Z h44 b6 .byte [z5.toInt8.toInt32, z5.toInt8.toInt32, z5.toInt8.toInt32, z5.toInt8.toInt32, z5.toInt8.toInt32, z5.toInt8.toInt32, z5.toInt8.toInt32, z5.toInt8.toInt32, z5.toInt8.toInt32, z5.toInt8.toInt32, z5.toInt8.toInt32, z5.toInt8.toInt32, z5.toInt8.toInt32, (0 : Int32)] := A44
  have N46 := Fr.snoc X44 N43 g_b6
  refine g_dup 98 X44 hx (hb hby at_97) rfl rfl ?_
  refine g_bipush 100 X44 hx (hb hby at_98) rfl (z := (13 : Int32)) rfl ?_
  refine g_iload 102 X44 hx (hb hby at_100) rfl (v := z5) rfl ?_
  refine g_bastore 103 X44 hx hZ e44 A44' 13 (by decide) rfl (Nat.le_of_ble_eq_true rfl) (z := z5.toInt8.toInt32) rfl (hb hby at_102) rfl ?_
  intro T47 h47 X47 e47 W47 A47
  have Zs48 : n0 ≤ h47.size := (Nat.le_trans Zs45 (Keep.of_wr W47).1)
  have A47' : AI Z h47 b6 .byte [z5.toInt8.toInt32, z5.toInt8.toInt32, z5.toInt8.toInt32, z5.toInt8.toInt32, z5.toInt8.toInt32, z5.toInt8.toInt32, z5.toInt8.toInt32, z5.toInt8.toInt32, z5.toInt8.toInt32, z5.toInt8.toInt32, z5.toInt8.toInt32, z5.toInt8.toInt32, z5.toInt8.toInt32, z5.toInt8.toInt32] := A47
  have N49 := Fr.snoc X47 N46 g_b6
  refine g_astore 105 X47 hx (hb hby at_103) rfl (Ls' := #[.val (.long q1), .second, .val (.int p2), .val (.int p3), .val (.int p4), .val (.long z2), .second, .val (.int z4), .val (.int z5), .val (.ref b6), .unset, .unset]) rfl rfl ?_
  have hfill : ∀ q, q < 14 → ([z5.toInt8.toInt32, z5.toInt8.toInt32, z5.toInt8.toInt32, z5.toInt8.toInt32, z5.toInt8.toInt32, z5.toInt8.toInt32, z5.toInt8.toInt32, z5.toInt8.toInt32, z5.toInt8.toInt32, z5.toInt8.toInt32, z5.toInt8.toInt32, z5.toInt8.toInt32, z5.toInt8.toInt32, z5.toInt8.toInt32]).getD q 0 = z5 := by
    have e : z5.toInt8.toInt32 = z5 := by rw [← hz5, own_idem]
    intro q hq
    match q, hq with
    | 0, _ => exact e
    | 1, _ => exact e
    | 2, _ => exact e
    | 3, _ => exact e
    | 4, _ => exact e
    | 5, _ => exact e
    | 6, _ => exact e
    | 7, _ => exact e
    | 8, _ => exact e
    | 9, _ => exact e
    | 10, _ => exact e
    | 11, _ => exact e
    | 12, _ => exact e
    | 13, _ => exact e
    | q + 14, hq => exact absurd hq (by omega)
  refine g_lload 107 X47 hx (hb hby at_105) rfl (v := z2) rfl ?_
  refine g_callS 110 X47 hx hZ (y := (⟨"com/example/rank4/rank4/VarintWritePinLaw", "lenOf", "(J)I"⟩ : MethodName)) hown (hw _ (List.mem_of_getElem? (i := 2) rfl)) (hw _ (List.mem_of_getElem? (i := 3) rfl)) (hw _ (List.mem_of_getElem? (i := 4) rfl)) (hw _ (List.mem_of_getElem? (i := 5) rfl)) (by decide) e47 (rm1 l Z a0 hw [] z2  h47 n0 Zs48 ) (by rw [hml]; rfl) [(.long z2)] [] rfl rfl (lenOf pd_0 rfl) 0 (Nat.le_of_eq rfl) (hb hby at_107) (by decide) (by decide) (by decide) (by decide) rfl ?_
  intro v50 T50 L50 X50 hQ50
  obtain ⟨r50, rfl, hr50, N50q, e50⟩ := hQ50
  have N50 := Fr.app N49 N50q
  show Go p e below s 16 128 (Q0 Z q1 p2 p3 p4 h0 n0) T50 (mkF m 110 #[.val (.long q1), .second, .val (.int p2), .val (.int p3), .val (.int p4), .val (.long z2), .second, .val (.int z4), .val (.int z5), .val (.ref b6), .unset, .unset] [(.int r50)])
  refine g_istore 112 X50 hx (hb hby at_110) rfl (Ls' := #[.val (.long q1), .second, .val (.int p2), .val (.int p3), .val (.int p4), .val (.long z2), .second, .val (.int z4), .val (.int z5), .val (.ref b6), .val (.int r50), .unset]) rfl ?_
  refine g_lload 114 X50 hx (hb hby at_112) rfl (v := z2) rfl ?_
  refine g_aload 116 X50 hx (hb hby at_114) rfl (v := (.ref b6)) rfl rfl ?_
  refine g_iload 118 X50 hx (hb hby at_116) rfl (v := z4) rfl ?_
  have hq118_hp_51 : 0 ≤ z4.toInt ∧ z4.toInt ≤ 4 := hA
  refine g_callS 121 X50 hx hZ (y := (⟨"com/example/rank4/rank4/Varint", "write", "(J[BI)I"⟩ : MethodName)) hown (hw _ (List.mem_of_getElem? (i := 7) rfl)) (hw _ (List.mem_of_getElem? (i := 8) rfl)) (hw _ (List.mem_of_getElem? (i := 9) rfl)) (hw _ (List.mem_of_getElem? (i := 10) rfl)) (by decide) e50 (rm2 l Z a0 hw [] z2 b6 z4 [z5.toInt8.toInt32, z5.toInt8.toInt32, z5.toInt8.toInt32, z5.toInt8.toInt32, z5.toInt8.toInt32, z5.toInt8.toInt32, z5.toInt8.toInt32, z5.toInt8.toInt32, z5.toInt8.toInt32, z5.toInt8.toInt32, z5.toInt8.toInt32, z5.toInt8.toInt32, z5.toInt8.toInt32, z5.toInt8.toInt32] h47 n0 Zs48 A47' g_b6 hq118_hp_51 rfl) (by rw [hml]; rfl) [(.long z2), (.ref b6), (.int z4)] [] rfl rfl (lenOf pd_1 rfl) 0 (Nat.le_of_eq rfl) (hb hby at_118) (by decide) (by decide) (by decide) (by decide) rfl ?_
  intro v51 T51 L51 X51 hQ51
  obtain ⟨r51, F51, i51, rfl, N51q, K51, A51, hw51⟩ := hQ51
  have N51 := Fr.app N50 N51q
  have hF51 : F51.length = 14 := by rw [hw51.2.2.2.2, List.length_set, own_wlen]; rfl
  have Zs53 : n0 ≤ T51.heap.size := (Nat.le_trans Zs48 K51.1)
  show Go p e below s 16 128 (Q0 Z q1 p2 p3 p4 h0 n0) T51 (mkF m 121 #[.val (.long q1), .second, .val (.int p2), .val (.int p3), .val (.int p4), .val (.long z2), .second, .val (.int z4), .val (.int z5), .val (.ref b6), .val (.int r50), .unset] [(.int r51)])
  refine g_istore 123 X51 hx (hb hby at_121) rfl (Ls' := #[.val (.long q1), .second, .val (.int p2), .val (.int p3), .val (.int p4), .val (.long z2), .second, .val (.int z4), .val (.int z5), .val (.ref b6), .val (.int r50), .val (.int r51)]) rfl ?_
  refine g_iload 125 X51 hx (hb hby at_123) rfl (v := r51) rfl ?_
  refine g_iload 127 X51 hx (hb hby at_125) rfl (v := z4) rfl ?_
  refine g_iload 129 X51 hx (hb hby at_127) rfl (v := r50) rfl ?_
  obtain ⟨z54, hz54⟩ : ∃ z : Int32, z4 + r50 = z := ⟨_, rfl⟩
  refine g_iadd 130 X51 hx (hb hby at_129) rfl (z := z54) hz54 ?_
  have hc130_54 : r51 = z54 := own_ret _ _ _ _ _ _ _ _ hw51 hr50 hz54
  refine g_icmpNo 133 X51 hx (hb hby at_130)  (teq hc130_54).2 rfl ?_
  refine g_aload 135 X51 hx (hb hby at_133) rfl (v := (.ref b6)) rfl rfl ?_
  refine g_iconst 136 X51 hx (hb hby at_135) rfl (z := (0 : Int32)) rfl ?_
  refine g_iload 138 X51 hx (hb hby at_136) rfl (v := z4) rfl ?_
  refine g_iload 140 X51 hx (hb hby at_138) rfl (v := r50) rfl ?_
  refine g_lload 142 X51 hx (hb hby at_140) rfl (v := z2) rfl ?_
  refine g_iload 144 X51 hx (hb hby at_142) rfl (v := z5) rfl ?_
  have hq144_hp_56 : 0 ≤ (0 : Int32).toInt ∧ (0 : Int32).toInt < 14 := by decide
  have hq144_hl_57 : F51.length = 14 := hF51
  refine g_callS 147 X51 hx hZ (y := (⟨"com/example/rank4/rank4/VarintWritePinLaw", "ok", "([BIIIJB)Z"⟩ : MethodName)) hown (hw _ (List.mem_of_getElem? (i := 12) rfl)) (hw _ (List.mem_of_getElem? (i := 13) rfl)) (hw _ (List.mem_of_getElem? (i := 4) rfl)) (hw _ (List.mem_of_getElem? (i := 14) rfl)) (by decide) rfl (rm3 l Z a0 hw [] b6 (0 : Int32) z4 r50 z2 z5 F51 T51.heap n0 Zs53 A51 hq144_hp_56 hq144_hl_57) (by rw [hml]; rfl) [(.ref b6), (.int (0 : Int32)), (.int z4), (.int r50), (.long z2), (.int z5)] [] rfl rfl (lenOf pd_2 rfl) 0 (Nat.le_of_eq rfl) (hb hby at_144) (by decide) (by decide) (by decide) (by decide) rfl ?_
  intro v56 T56 L56 X56 hQ56
  obtain ⟨r56, rfl, hr56, N56q, e56⟩ := hQ56
  have N56 := Fr.app N51 N56q
  show Go p e below s 16 128 (Q0 Z q1 p2 p3 p4 h0 n0) T56 (mkF m 147 #[.val (.long q1), .second, .val (.int p2), .val (.int p3), .val (.int p4), .val (.long z2), .second, .val (.int z4), .val (.int z5), .val (.ref b6), .val (.int r50), .val (.int r51)] [(.int r56)])
  have hc147_58 : ¬ (r56 = (0 : Int32)) := own_okay _ _ _ _ _ _ _ _ _ _ hA (by decide) rfl hfill hw51 hr50 hr56
  refine g_ifNo 150 X56 hx (hb hby at_147)  ((if0 _ _).trans (feq hc147_58).1) rfl ?_
  refine g_aload 152 X56 hx (hb hby at_150) rfl (v := (.ref b6)) rfl rfl ?_
  refine g_iconst 153 X56 hx (hb hby at_152) rfl (z := (1 : Int32)) rfl ?_
  refine g_iload 155 X56 hx (hb hby at_153) rfl (v := z4) rfl ?_
  refine g_iload 157 X56 hx (hb hby at_155) rfl (v := r50) rfl ?_
  refine g_lload 159 X56 hx (hb hby at_157) rfl (v := z2) rfl ?_
  refine g_iload 161 X56 hx (hb hby at_159) rfl (v := z5) rfl ?_
  have hq161_hp_60 : 0 ≤ (1 : Int32).toInt ∧ (1 : Int32).toInt < 14 := by decide
  have hq161_hl_61 : F51.length = 14 := hF51
  refine g_callS 164 X56 hx hZ (y := (⟨"com/example/rank4/rank4/VarintWritePinLaw", "ok", "([BIIIJB)Z"⟩ : MethodName)) hown (hw _ (List.mem_of_getElem? (i := 12) rfl)) (hw _ (List.mem_of_getElem? (i := 13) rfl)) (hw _ (List.mem_of_getElem? (i := 4) rfl)) (hw _ (List.mem_of_getElem? (i := 14) rfl)) (by decide) e56 (rm3 l Z a0 hw [] b6 (1 : Int32) z4 r50 z2 z5 F51 T51.heap n0 Zs53 A51 hq161_hp_60 hq161_hl_61) (by rw [hml]; rfl) [(.ref b6), (.int (1 : Int32)), (.int z4), (.int r50), (.long z2), (.int z5)] [] rfl rfl (lenOf pd_2 rfl) 0 (Nat.le_of_eq rfl) (hb hby at_161) (by decide) (by decide) (by decide) (by decide) rfl ?_
  intro v60 T60 L60 X60 hQ60
  obtain ⟨r60, rfl, hr60, N60q, e60⟩ := hQ60
  have N60 := Fr.app N56 N60q
  show Go p e below s 16 128 (Q0 Z q1 p2 p3 p4 h0 n0) T60 (mkF m 164 #[.val (.long q1), .second, .val (.int p2), .val (.int p3), .val (.int p4), .val (.long z2), .second, .val (.int z4), .val (.int z5), .val (.ref b6), .val (.int r50), .val (.int r51)] [(.int r60)])
  have hc164_62 : ¬ (r60 = (0 : Int32)) := own_okay _ _ _ _ _ _ _ _ _ _ hA (by decide) rfl hfill hw51 hr50 hr60
  refine g_ifNo 167 X60 hx (hb hby at_164)  ((if0 _ _).trans (feq hc164_62).1) rfl ?_
  refine g_aload 169 X60 hx (hb hby at_167) rfl (v := (.ref b6)) rfl rfl ?_
  refine g_iconst 170 X60 hx (hb hby at_169) rfl (z := (2 : Int32)) rfl ?_
  refine g_iload 172 X60 hx (hb hby at_170) rfl (v := z4) rfl ?_
  refine g_iload 174 X60 hx (hb hby at_172) rfl (v := r50) rfl ?_
  refine g_lload 176 X60 hx (hb hby at_174) rfl (v := z2) rfl ?_
  refine g_iload 178 X60 hx (hb hby at_176) rfl (v := z5) rfl ?_
  have hq178_hp_64 : 0 ≤ (2 : Int32).toInt ∧ (2 : Int32).toInt < 14 := by decide
  have hq178_hl_65 : F51.length = 14 := hF51
  refine g_callS 181 X60 hx hZ (y := (⟨"com/example/rank4/rank4/VarintWritePinLaw", "ok", "([BIIIJB)Z"⟩ : MethodName)) hown (hw _ (List.mem_of_getElem? (i := 12) rfl)) (hw _ (List.mem_of_getElem? (i := 13) rfl)) (hw _ (List.mem_of_getElem? (i := 4) rfl)) (hw _ (List.mem_of_getElem? (i := 14) rfl)) (by decide) e60 (rm3 l Z a0 hw [] b6 (2 : Int32) z4 r50 z2 z5 F51 T51.heap n0 Zs53 A51 hq178_hp_64 hq178_hl_65) (by rw [hml]; rfl) [(.ref b6), (.int (2 : Int32)), (.int z4), (.int r50), (.long z2), (.int z5)] [] rfl rfl (lenOf pd_2 rfl) 0 (Nat.le_of_eq rfl) (hb hby at_178) (by decide) (by decide) (by decide) (by decide) rfl ?_
  intro v64 T64 L64 X64 hQ64
  obtain ⟨r64, rfl, hr64, N64q, e64⟩ := hQ64
  have N64 := Fr.app N60 N64q
  show Go p e below s 16 128 (Q0 Z q1 p2 p3 p4 h0 n0) T64 (mkF m 181 #[.val (.long q1), .second, .val (.int p2), .val (.int p3), .val (.int p4), .val (.long z2), .second, .val (.int z4), .val (.int z5), .val (.ref b6), .val (.int r50), .val (.int r51)] [(.int r64)])
  have hc181_66 : ¬ (r64 = (0 : Int32)) := own_okay _ _ _ _ _ _ _ _ _ _ hA (by decide) rfl hfill hw51 hr50 hr64
  refine g_ifNo 184 X64 hx (hb hby at_181)  ((if0 _ _).trans (feq hc181_66).1) rfl ?_
  refine g_aload 186 X64 hx (hb hby at_184) rfl (v := (.ref b6)) rfl rfl ?_
  refine g_iconst 187 X64 hx (hb hby at_186) rfl (z := (3 : Int32)) rfl ?_
  refine g_iload 189 X64 hx (hb hby at_187) rfl (v := z4) rfl ?_
  refine g_iload 191 X64 hx (hb hby at_189) rfl (v := r50) rfl ?_
  refine g_lload 193 X64 hx (hb hby at_191) rfl (v := z2) rfl ?_
  refine g_iload 195 X64 hx (hb hby at_193) rfl (v := z5) rfl ?_
  have hq195_hp_68 : 0 ≤ (3 : Int32).toInt ∧ (3 : Int32).toInt < 14 := by decide
  have hq195_hl_69 : F51.length = 14 := hF51
  refine g_callS 198 X64 hx hZ (y := (⟨"com/example/rank4/rank4/VarintWritePinLaw", "ok", "([BIIIJB)Z"⟩ : MethodName)) hown (hw _ (List.mem_of_getElem? (i := 12) rfl)) (hw _ (List.mem_of_getElem? (i := 13) rfl)) (hw _ (List.mem_of_getElem? (i := 4) rfl)) (hw _ (List.mem_of_getElem? (i := 14) rfl)) (by decide) e64 (rm3 l Z a0 hw [] b6 (3 : Int32) z4 r50 z2 z5 F51 T51.heap n0 Zs53 A51 hq195_hp_68 hq195_hl_69) (by rw [hml]; rfl) [(.ref b6), (.int (3 : Int32)), (.int z4), (.int r50), (.long z2), (.int z5)] [] rfl rfl (lenOf pd_2 rfl) 0 (Nat.le_of_eq rfl) (hb hby at_195) (by decide) (by decide) (by decide) (by decide) rfl ?_
  intro v68 T68 L68 X68 hQ68
  obtain ⟨r68, rfl, hr68, N68q, e68⟩ := hQ68
  have N68 := Fr.app N64 N68q
  show Go p e below s 16 128 (Q0 Z q1 p2 p3 p4 h0 n0) T68 (mkF m 198 #[.val (.long q1), .second, .val (.int p2), .val (.int p3), .val (.int p4), .val (.long z2), .second, .val (.int z4), .val (.int z5), .val (.ref b6), .val (.int r50), .val (.int r51)] [(.int r68)])
  have hc198_70 : ¬ (r68 = (0 : Int32)) := own_okay _ _ _ _ _ _ _ _ _ _ hA (by decide) rfl hfill hw51 hr50 hr68
  refine g_ifNo 201 X68 hx (hb hby at_198)  ((if0 _ _).trans (feq hc198_70).1) rfl ?_
  refine g_aload 203 X68 hx (hb hby at_201) rfl (v := (.ref b6)) rfl rfl ?_
  refine g_iconst 204 X68 hx (hb hby at_203) rfl (z := (4 : Int32)) rfl ?_
  refine g_iload 206 X68 hx (hb hby at_204) rfl (v := z4) rfl ?_
  refine g_iload 208 X68 hx (hb hby at_206) rfl (v := r50) rfl ?_
  refine g_lload 210 X68 hx (hb hby at_208) rfl (v := z2) rfl ?_
  refine g_iload 212 X68 hx (hb hby at_210) rfl (v := z5) rfl ?_
  have hq212_hp_72 : 0 ≤ (4 : Int32).toInt ∧ (4 : Int32).toInt < 14 := by decide
  have hq212_hl_73 : F51.length = 14 := hF51
  refine g_callS 215 X68 hx hZ (y := (⟨"com/example/rank4/rank4/VarintWritePinLaw", "ok", "([BIIIJB)Z"⟩ : MethodName)) hown (hw _ (List.mem_of_getElem? (i := 12) rfl)) (hw _ (List.mem_of_getElem? (i := 13) rfl)) (hw _ (List.mem_of_getElem? (i := 4) rfl)) (hw _ (List.mem_of_getElem? (i := 14) rfl)) (by decide) e68 (rm3 l Z a0 hw [] b6 (4 : Int32) z4 r50 z2 z5 F51 T51.heap n0 Zs53 A51 hq212_hp_72 hq212_hl_73) (by rw [hml]; rfl) [(.ref b6), (.int (4 : Int32)), (.int z4), (.int r50), (.long z2), (.int z5)] [] rfl rfl (lenOf pd_2 rfl) 0 (Nat.le_of_eq rfl) (hb hby at_212) (by decide) (by decide) (by decide) (by decide) rfl ?_
  intro v72 T72 L72 X72 hQ72
  obtain ⟨r72, rfl, hr72, N72q, e72⟩ := hQ72
  have N72 := Fr.app N68 N72q
  show Go p e below s 16 128 (Q0 Z q1 p2 p3 p4 h0 n0) T72 (mkF m 215 #[.val (.long q1), .second, .val (.int p2), .val (.int p3), .val (.int p4), .val (.long z2), .second, .val (.int z4), .val (.int z5), .val (.ref b6), .val (.int r50), .val (.int r51)] [(.int r72)])
  have hc215_74 : ¬ (r72 = (0 : Int32)) := own_okay _ _ _ _ _ _ _ _ _ _ hA (by decide) rfl hfill hw51 hr50 hr72
  refine g_ifNo 218 X72 hx (hb hby at_215)  ((if0 _ _).trans (feq hc215_74).1) rfl ?_
  refine g_aload 220 X72 hx (hb hby at_218) rfl (v := (.ref b6)) rfl rfl ?_
  refine g_iconst 221 X72 hx (hb hby at_220) rfl (z := (5 : Int32)) rfl ?_
  refine g_iload 223 X72 hx (hb hby at_221) rfl (v := z4) rfl ?_
  refine g_iload 225 X72 hx (hb hby at_223) rfl (v := r50) rfl ?_
  refine g_lload 227 X72 hx (hb hby at_225) rfl (v := z2) rfl ?_
  refine g_iload 229 X72 hx (hb hby at_227) rfl (v := z5) rfl ?_
  have hq229_hp_76 : 0 ≤ (5 : Int32).toInt ∧ (5 : Int32).toInt < 14 := by decide
  have hq229_hl_77 : F51.length = 14 := hF51
  refine g_callS 232 X72 hx hZ (y := (⟨"com/example/rank4/rank4/VarintWritePinLaw", "ok", "([BIIIJB)Z"⟩ : MethodName)) hown (hw _ (List.mem_of_getElem? (i := 12) rfl)) (hw _ (List.mem_of_getElem? (i := 13) rfl)) (hw _ (List.mem_of_getElem? (i := 4) rfl)) (hw _ (List.mem_of_getElem? (i := 14) rfl)) (by decide) e72 (rm3 l Z a0 hw [] b6 (5 : Int32) z4 r50 z2 z5 F51 T51.heap n0 Zs53 A51 hq229_hp_76 hq229_hl_77) (by rw [hml]; rfl) [(.ref b6), (.int (5 : Int32)), (.int z4), (.int r50), (.long z2), (.int z5)] [] rfl rfl (lenOf pd_2 rfl) 0 (Nat.le_of_eq rfl) (hb hby at_229) (by decide) (by decide) (by decide) (by decide) rfl ?_
  intro v76 T76 L76 X76 hQ76
  obtain ⟨r76, rfl, hr76, N76q, e76⟩ := hQ76
  have N76 := Fr.app N72 N76q
  show Go p e below s 16 128 (Q0 Z q1 p2 p3 p4 h0 n0) T76 (mkF m 232 #[.val (.long q1), .second, .val (.int p2), .val (.int p3), .val (.int p4), .val (.long z2), .second, .val (.int z4), .val (.int z5), .val (.ref b6), .val (.int r50), .val (.int r51)] [(.int r76)])
  have hc232_78 : ¬ (r76 = (0 : Int32)) := own_okay _ _ _ _ _ _ _ _ _ _ hA (by decide) rfl hfill hw51 hr50 hr76
  refine g_ifNo 235 X76 hx (hb hby at_232)  ((if0 _ _).trans (feq hc232_78).1) rfl ?_
  refine g_aload 237 X76 hx (hb hby at_235) rfl (v := (.ref b6)) rfl rfl ?_
  refine g_bipush 239 X76 hx (hb hby at_237) rfl (z := (6 : Int32)) rfl ?_
  refine g_iload 241 X76 hx (hb hby at_239) rfl (v := z4) rfl ?_
  refine g_iload 243 X76 hx (hb hby at_241) rfl (v := r50) rfl ?_
  refine g_lload 245 X76 hx (hb hby at_243) rfl (v := z2) rfl ?_
  refine g_iload 247 X76 hx (hb hby at_245) rfl (v := z5) rfl ?_
  have hq247_hp_80 : 0 ≤ (6 : Int32).toInt ∧ (6 : Int32).toInt < 14 := by decide
  have hq247_hl_81 : F51.length = 14 := hF51
  refine g_callS 250 X76 hx hZ (y := (⟨"com/example/rank4/rank4/VarintWritePinLaw", "ok", "([BIIIJB)Z"⟩ : MethodName)) hown (hw _ (List.mem_of_getElem? (i := 12) rfl)) (hw _ (List.mem_of_getElem? (i := 13) rfl)) (hw _ (List.mem_of_getElem? (i := 4) rfl)) (hw _ (List.mem_of_getElem? (i := 14) rfl)) (by decide) e76 (rm3 l Z a0 hw [] b6 (6 : Int32) z4 r50 z2 z5 F51 T51.heap n0 Zs53 A51 hq247_hp_80 hq247_hl_81) (by rw [hml]; rfl) [(.ref b6), (.int (6 : Int32)), (.int z4), (.int r50), (.long z2), (.int z5)] [] rfl rfl (lenOf pd_2 rfl) 0 (Nat.le_of_eq rfl) (hb hby at_247) (by decide) (by decide) (by decide) (by decide) rfl ?_
  intro v80 T80 L80 X80 hQ80
  obtain ⟨r80, rfl, hr80, N80q, e80⟩ := hQ80
  have N80 := Fr.app N76 N80q
  show Go p e below s 16 128 (Q0 Z q1 p2 p3 p4 h0 n0) T80 (mkF m 250 #[.val (.long q1), .second, .val (.int p2), .val (.int p3), .val (.int p4), .val (.long z2), .second, .val (.int z4), .val (.int z5), .val (.ref b6), .val (.int r50), .val (.int r51)] [(.int r80)])
  have hc250_82 : ¬ (r80 = (0 : Int32)) := own_okay _ _ _ _ _ _ _ _ _ _ hA (by decide) rfl hfill hw51 hr50 hr80
  refine g_ifNo 253 X80 hx (hb hby at_250)  ((if0 _ _).trans (feq hc250_82).1) rfl ?_
  refine g_aload 255 X80 hx (hb hby at_253) rfl (v := (.ref b6)) rfl rfl ?_
  refine g_bipush 257 X80 hx (hb hby at_255) rfl (z := (7 : Int32)) rfl ?_
  refine g_iload 259 X80 hx (hb hby at_257) rfl (v := z4) rfl ?_
  refine g_iload 261 X80 hx (hb hby at_259) rfl (v := r50) rfl ?_
  refine g_lload 263 X80 hx (hb hby at_261) rfl (v := z2) rfl ?_
  refine g_iload 265 X80 hx (hb hby at_263) rfl (v := z5) rfl ?_
  have hq265_hp_84 : 0 ≤ (7 : Int32).toInt ∧ (7 : Int32).toInt < 14 := by decide
  have hq265_hl_85 : F51.length = 14 := hF51
  refine g_callS 268 X80 hx hZ (y := (⟨"com/example/rank4/rank4/VarintWritePinLaw", "ok", "([BIIIJB)Z"⟩ : MethodName)) hown (hw _ (List.mem_of_getElem? (i := 12) rfl)) (hw _ (List.mem_of_getElem? (i := 13) rfl)) (hw _ (List.mem_of_getElem? (i := 4) rfl)) (hw _ (List.mem_of_getElem? (i := 14) rfl)) (by decide) e80 (rm3 l Z a0 hw [] b6 (7 : Int32) z4 r50 z2 z5 F51 T51.heap n0 Zs53 A51 hq265_hp_84 hq265_hl_85) (by rw [hml]; rfl) [(.ref b6), (.int (7 : Int32)), (.int z4), (.int r50), (.long z2), (.int z5)] [] rfl rfl (lenOf pd_2 rfl) 0 (Nat.le_of_eq rfl) (hb hby at_265) (by decide) (by decide) (by decide) (by decide) rfl ?_
  intro v84 T84 L84 X84 hQ84
  obtain ⟨r84, rfl, hr84, N84q, e84⟩ := hQ84
  have N84 := Fr.app N80 N84q
  show Go p e below s 16 128 (Q0 Z q1 p2 p3 p4 h0 n0) T84 (mkF m 268 #[.val (.long q1), .second, .val (.int p2), .val (.int p3), .val (.int p4), .val (.long z2), .second, .val (.int z4), .val (.int z5), .val (.ref b6), .val (.int r50), .val (.int r51)] [(.int r84)])
  have hc268_86 : ¬ (r84 = (0 : Int32)) := own_okay _ _ _ _ _ _ _ _ _ _ hA (by decide) rfl hfill hw51 hr50 hr84
  refine g_ifNo 271 X84 hx (hb hby at_268)  ((if0 _ _).trans (feq hc268_86).1) rfl ?_
  refine g_aload 273 X84 hx (hb hby at_271) rfl (v := (.ref b6)) rfl rfl ?_
  refine g_bipush 275 X84 hx (hb hby at_273) rfl (z := (8 : Int32)) rfl ?_
  refine g_iload 277 X84 hx (hb hby at_275) rfl (v := z4) rfl ?_
  refine g_iload 279 X84 hx (hb hby at_277) rfl (v := r50) rfl ?_
  refine g_lload 281 X84 hx (hb hby at_279) rfl (v := z2) rfl ?_
  refine g_iload 283 X84 hx (hb hby at_281) rfl (v := z5) rfl ?_
  have hq283_hp_88 : 0 ≤ (8 : Int32).toInt ∧ (8 : Int32).toInt < 14 := by decide
  have hq283_hl_89 : F51.length = 14 := hF51
  refine g_callS 286 X84 hx hZ (y := (⟨"com/example/rank4/rank4/VarintWritePinLaw", "ok", "([BIIIJB)Z"⟩ : MethodName)) hown (hw _ (List.mem_of_getElem? (i := 12) rfl)) (hw _ (List.mem_of_getElem? (i := 13) rfl)) (hw _ (List.mem_of_getElem? (i := 4) rfl)) (hw _ (List.mem_of_getElem? (i := 14) rfl)) (by decide) e84 (rm3 l Z a0 hw [] b6 (8 : Int32) z4 r50 z2 z5 F51 T51.heap n0 Zs53 A51 hq283_hp_88 hq283_hl_89) (by rw [hml]; rfl) [(.ref b6), (.int (8 : Int32)), (.int z4), (.int r50), (.long z2), (.int z5)] [] rfl rfl (lenOf pd_2 rfl) 0 (Nat.le_of_eq rfl) (hb hby at_283) (by decide) (by decide) (by decide) (by decide) rfl ?_
  intro v88 T88 L88 X88 hQ88
  obtain ⟨r88, rfl, hr88, N88q, e88⟩ := hQ88
  have N88 := Fr.app N84 N88q
  show Go p e below s 16 128 (Q0 Z q1 p2 p3 p4 h0 n0) T88 (mkF m 286 #[.val (.long q1), .second, .val (.int p2), .val (.int p3), .val (.int p4), .val (.long z2), .second, .val (.int z4), .val (.int z5), .val (.ref b6), .val (.int r50), .val (.int r51)] [(.int r88)])
  have hc286_90 : ¬ (r88 = (0 : Int32)) := own_okay _ _ _ _ _ _ _ _ _ _ hA (by decide) rfl hfill hw51 hr50 hr88
  refine g_ifNo 289 X88 hx (hb hby at_286)  ((if0 _ _).trans (feq hc286_90).1) rfl ?_
  refine g_aload 291 X88 hx (hb hby at_289) rfl (v := (.ref b6)) rfl rfl ?_
  refine g_bipush 293 X88 hx (hb hby at_291) rfl (z := (9 : Int32)) rfl ?_
  refine g_iload 295 X88 hx (hb hby at_293) rfl (v := z4) rfl ?_
  refine g_iload 297 X88 hx (hb hby at_295) rfl (v := r50) rfl ?_
  refine g_lload 299 X88 hx (hb hby at_297) rfl (v := z2) rfl ?_
  refine g_iload 301 X88 hx (hb hby at_299) rfl (v := z5) rfl ?_
  have hq301_hp_92 : 0 ≤ (9 : Int32).toInt ∧ (9 : Int32).toInt < 14 := by decide
  have hq301_hl_93 : F51.length = 14 := hF51
  refine g_callS 304 X88 hx hZ (y := (⟨"com/example/rank4/rank4/VarintWritePinLaw", "ok", "([BIIIJB)Z"⟩ : MethodName)) hown (hw _ (List.mem_of_getElem? (i := 12) rfl)) (hw _ (List.mem_of_getElem? (i := 13) rfl)) (hw _ (List.mem_of_getElem? (i := 4) rfl)) (hw _ (List.mem_of_getElem? (i := 14) rfl)) (by decide) e88 (rm3 l Z a0 hw [] b6 (9 : Int32) z4 r50 z2 z5 F51 T51.heap n0 Zs53 A51 hq301_hp_92 hq301_hl_93) (by rw [hml]; rfl) [(.ref b6), (.int (9 : Int32)), (.int z4), (.int r50), (.long z2), (.int z5)] [] rfl rfl (lenOf pd_2 rfl) 0 (Nat.le_of_eq rfl) (hb hby at_301) (by decide) (by decide) (by decide) (by decide) rfl ?_
  intro v92 T92 L92 X92 hQ92
  obtain ⟨r92, rfl, hr92, N92q, e92⟩ := hQ92
  have N92 := Fr.app N88 N92q
  show Go p e below s 16 128 (Q0 Z q1 p2 p3 p4 h0 n0) T92 (mkF m 304 #[.val (.long q1), .second, .val (.int p2), .val (.int p3), .val (.int p4), .val (.long z2), .second, .val (.int z4), .val (.int z5), .val (.ref b6), .val (.int r50), .val (.int r51)] [(.int r92)])
  have hc304_94 : ¬ (r92 = (0 : Int32)) := own_okay _ _ _ _ _ _ _ _ _ _ hA (by decide) rfl hfill hw51 hr50 hr92
  refine g_ifNo 307 X92 hx (hb hby at_304)  ((if0 _ _).trans (feq hc304_94).1) rfl ?_
  refine g_aload 309 X92 hx (hb hby at_307) rfl (v := (.ref b6)) rfl rfl ?_
  refine g_bipush 311 X92 hx (hb hby at_309) rfl (z := (10 : Int32)) rfl ?_
  refine g_iload 313 X92 hx (hb hby at_311) rfl (v := z4) rfl ?_
  refine g_iload 315 X92 hx (hb hby at_313) rfl (v := r50) rfl ?_
  refine g_lload 317 X92 hx (hb hby at_315) rfl (v := z2) rfl ?_
  refine g_iload 319 X92 hx (hb hby at_317) rfl (v := z5) rfl ?_
  have hq319_hp_96 : 0 ≤ (10 : Int32).toInt ∧ (10 : Int32).toInt < 14 := by decide
  have hq319_hl_97 : F51.length = 14 := hF51
  refine g_callS 322 X92 hx hZ (y := (⟨"com/example/rank4/rank4/VarintWritePinLaw", "ok", "([BIIIJB)Z"⟩ : MethodName)) hown (hw _ (List.mem_of_getElem? (i := 12) rfl)) (hw _ (List.mem_of_getElem? (i := 13) rfl)) (hw _ (List.mem_of_getElem? (i := 4) rfl)) (hw _ (List.mem_of_getElem? (i := 14) rfl)) (by decide) e92 (rm3 l Z a0 hw [] b6 (10 : Int32) z4 r50 z2 z5 F51 T51.heap n0 Zs53 A51 hq319_hp_96 hq319_hl_97) (by rw [hml]; rfl) [(.ref b6), (.int (10 : Int32)), (.int z4), (.int r50), (.long z2), (.int z5)] [] rfl rfl (lenOf pd_2 rfl) 0 (Nat.le_of_eq rfl) (hb hby at_319) (by decide) (by decide) (by decide) (by decide) rfl ?_
  intro v96 T96 L96 X96 hQ96
  obtain ⟨r96, rfl, hr96, N96q, e96⟩ := hQ96
  have N96 := Fr.app N92 N96q
  show Go p e below s 16 128 (Q0 Z q1 p2 p3 p4 h0 n0) T96 (mkF m 322 #[.val (.long q1), .second, .val (.int p2), .val (.int p3), .val (.int p4), .val (.long z2), .second, .val (.int z4), .val (.int z5), .val (.ref b6), .val (.int r50), .val (.int r51)] [(.int r96)])
  have hc322_98 : ¬ (r96 = (0 : Int32)) := own_okay _ _ _ _ _ _ _ _ _ _ hA (by decide) rfl hfill hw51 hr50 hr96
  refine g_ifNo 325 X96 hx (hb hby at_322)  ((if0 _ _).trans (feq hc322_98).1) rfl ?_
  refine g_aload 327 X96 hx (hb hby at_325) rfl (v := (.ref b6)) rfl rfl ?_
  refine g_bipush 329 X96 hx (hb hby at_327) rfl (z := (11 : Int32)) rfl ?_
  refine g_iload 331 X96 hx (hb hby at_329) rfl (v := z4) rfl ?_
  refine g_iload 333 X96 hx (hb hby at_331) rfl (v := r50) rfl ?_
  refine g_lload 335 X96 hx (hb hby at_333) rfl (v := z2) rfl ?_
  refine g_iload 337 X96 hx (hb hby at_335) rfl (v := z5) rfl ?_
  have hq337_hp_100 : 0 ≤ (11 : Int32).toInt ∧ (11 : Int32).toInt < 14 := by decide
  have hq337_hl_101 : F51.length = 14 := hF51
  refine g_callS 340 X96 hx hZ (y := (⟨"com/example/rank4/rank4/VarintWritePinLaw", "ok", "([BIIIJB)Z"⟩ : MethodName)) hown (hw _ (List.mem_of_getElem? (i := 12) rfl)) (hw _ (List.mem_of_getElem? (i := 13) rfl)) (hw _ (List.mem_of_getElem? (i := 4) rfl)) (hw _ (List.mem_of_getElem? (i := 14) rfl)) (by decide) e96 (rm3 l Z a0 hw [] b6 (11 : Int32) z4 r50 z2 z5 F51 T51.heap n0 Zs53 A51 hq337_hp_100 hq337_hl_101) (by rw [hml]; rfl) [(.ref b6), (.int (11 : Int32)), (.int z4), (.int r50), (.long z2), (.int z5)] [] rfl rfl (lenOf pd_2 rfl) 0 (Nat.le_of_eq rfl) (hb hby at_337) (by decide) (by decide) (by decide) (by decide) rfl ?_
  intro v100 T100 L100 X100 hQ100
  obtain ⟨r100, rfl, hr100, N100q, e100⟩ := hQ100
  have N100 := Fr.app N96 N100q
  show Go p e below s 16 128 (Q0 Z q1 p2 p3 p4 h0 n0) T100 (mkF m 340 #[.val (.long q1), .second, .val (.int p2), .val (.int p3), .val (.int p4), .val (.long z2), .second, .val (.int z4), .val (.int z5), .val (.ref b6), .val (.int r50), .val (.int r51)] [(.int r100)])
  have hc340_102 : ¬ (r100 = (0 : Int32)) := own_okay _ _ _ _ _ _ _ _ _ _ hA (by decide) rfl hfill hw51 hr50 hr100
  refine g_ifNo 343 X100 hx (hb hby at_340)  ((if0 _ _).trans (feq hc340_102).1) rfl ?_
  refine g_aload 345 X100 hx (hb hby at_343) rfl (v := (.ref b6)) rfl rfl ?_
  refine g_bipush 347 X100 hx (hb hby at_345) rfl (z := (12 : Int32)) rfl ?_
  refine g_iload 349 X100 hx (hb hby at_347) rfl (v := z4) rfl ?_
  refine g_iload 351 X100 hx (hb hby at_349) rfl (v := r50) rfl ?_
  refine g_lload 353 X100 hx (hb hby at_351) rfl (v := z2) rfl ?_
  refine g_iload 355 X100 hx (hb hby at_353) rfl (v := z5) rfl ?_
  have hq355_hp_104 : 0 ≤ (12 : Int32).toInt ∧ (12 : Int32).toInt < 14 := by decide
  have hq355_hl_105 : F51.length = 14 := hF51
  refine g_callS 358 X100 hx hZ (y := (⟨"com/example/rank4/rank4/VarintWritePinLaw", "ok", "([BIIIJB)Z"⟩ : MethodName)) hown (hw _ (List.mem_of_getElem? (i := 12) rfl)) (hw _ (List.mem_of_getElem? (i := 13) rfl)) (hw _ (List.mem_of_getElem? (i := 4) rfl)) (hw _ (List.mem_of_getElem? (i := 14) rfl)) (by decide) e100 (rm3 l Z a0 hw [] b6 (12 : Int32) z4 r50 z2 z5 F51 T51.heap n0 Zs53 A51 hq355_hp_104 hq355_hl_105) (by rw [hml]; rfl) [(.ref b6), (.int (12 : Int32)), (.int z4), (.int r50), (.long z2), (.int z5)] [] rfl rfl (lenOf pd_2 rfl) 0 (Nat.le_of_eq rfl) (hb hby at_355) (by decide) (by decide) (by decide) (by decide) rfl ?_
  intro v104 T104 L104 X104 hQ104
  obtain ⟨r104, rfl, hr104, N104q, e104⟩ := hQ104
  have N104 := Fr.app N100 N104q
  show Go p e below s 16 128 (Q0 Z q1 p2 p3 p4 h0 n0) T104 (mkF m 358 #[.val (.long q1), .second, .val (.int p2), .val (.int p3), .val (.int p4), .val (.long z2), .second, .val (.int z4), .val (.int z5), .val (.ref b6), .val (.int r50), .val (.int r51)] [(.int r104)])
  have hc358_106 : ¬ (r104 = (0 : Int32)) := own_okay _ _ _ _ _ _ _ _ _ _ hA (by decide) rfl hfill hw51 hr50 hr104
  refine g_ifNo 361 X104 hx (hb hby at_358)  ((if0 _ _).trans (feq hc358_106).1) rfl ?_
  refine g_aload 363 X104 hx (hb hby at_361) rfl (v := (.ref b6)) rfl rfl ?_
  refine g_bipush 365 X104 hx (hb hby at_363) rfl (z := (13 : Int32)) rfl ?_
  refine g_iload 367 X104 hx (hb hby at_365) rfl (v := z4) rfl ?_
  refine g_iload 369 X104 hx (hb hby at_367) rfl (v := r50) rfl ?_
  refine g_lload 371 X104 hx (hb hby at_369) rfl (v := z2) rfl ?_
  refine g_iload 373 X104 hx (hb hby at_371) rfl (v := z5) rfl ?_
  have hq373_hp_108 : 0 ≤ (13 : Int32).toInt ∧ (13 : Int32).toInt < 14 := by decide
  have hq373_hl_109 : F51.length = 14 := hF51
  refine g_callS 376 X104 hx hZ (y := (⟨"com/example/rank4/rank4/VarintWritePinLaw", "ok", "([BIIIJB)Z"⟩ : MethodName)) hown (hw _ (List.mem_of_getElem? (i := 12) rfl)) (hw _ (List.mem_of_getElem? (i := 13) rfl)) (hw _ (List.mem_of_getElem? (i := 4) rfl)) (hw _ (List.mem_of_getElem? (i := 14) rfl)) (by decide) e104 (rm3 l Z a0 hw [] b6 (13 : Int32) z4 r50 z2 z5 F51 T51.heap n0 Zs53 A51 hq373_hp_108 hq373_hl_109) (by rw [hml]; rfl) [(.ref b6), (.int (13 : Int32)), (.int z4), (.int r50), (.long z2), (.int z5)] [] rfl rfl (lenOf pd_2 rfl) 0 (Nat.le_of_eq rfl) (hb hby at_373) (by decide) (by decide) (by decide) (by decide) rfl ?_
  intro v108 T108 L108 X108 hQ108
  obtain ⟨r108, rfl, hr108, N108q, e108⟩ := hQ108
  have N108 := Fr.app N104 N108q
  show Go p e below s 16 128 (Q0 Z q1 p2 p3 p4 h0 n0) T108 (mkF m 376 #[.val (.long q1), .second, .val (.int p2), .val (.int p3), .val (.int p4), .val (.long z2), .second, .val (.int z4), .val (.int z5), .val (.ref b6), .val (.int r50), .val (.int r51)] [(.int r108)])
  have hc376_110 : ¬ (r108 = (0 : Int32)) := own_okay _ _ _ _ _ _ _ _ _ _ hA (by decide) rfl hfill hw51 hr50 hr108
  refine g_ifNo 379 X108 hx (hb hby at_376)  ((if0 _ _).trans (feq hc376_110).1) rfl ?_
  refine g_iconst 380 X108 hx (hb hby at_379) rfl (z := (1 : Int32)) rfl ?_
  refine g_goto 384 X108 hx (hb hby at_380) (by decide) (by decide) ?_
  exact g_retN X108 hx (t := .boolean) Bd.returns hlk (by simp) rfl (hb hby at_384) (by decide) (by decide) ⟨rfl, N108⟩
set_option maxRecDepth 65536 in
set_option maxHeartbeats 40000000 in
theorem comes_1 {Post : Tables → Env → Array Value → State → Outcome → State → Prop} (hpost : ∀ tb e args s v u, (limb_1_1.after args s (.returned v) u = true ∧ limb_1_2.after args s (.returned v) u = true ∧ True) → FrameEnd s (.returned v) u (Jvm.fieldLocs frame_1_writes args s ++ Jvm.arrayLocs frame_1_arrays args s ++ Jvm.staticLocs frame_1_statics s) 16 128 → Post tb e args s (.returned v) u) :
    ArmFor flags0 classFile x code maxLocals ret World_1 tables_1 room_1 Calls_1 rest_1 Pre_1 Post := by
  intro l hfl _ _ p e ha hc hk s m args below hf hA hF happ hP
  obtain ⟨hcalls, hrest, hpre⟩ := hP
  obtain ⟨-, -, -, hnamed, -, -, -, hat⟩ := (Spec.applies_iff hf).mp happ
  obtain ⟨hg, hn⟩ := and_e (Cond.before_iff.mp (show (Jvm.Cond.and given_1 narrow_1).before args s = true from hpre))
  obtain ⟨hcount, r0⟩ := and_e hg
  obtain ⟨ga0, r1⟩ := and_e r0
  obtain ⟨ga1, r2⟩ := and_e r1
  obtain ⟨ga2, r3⟩ := and_e r2
  obtain ⟨w0, w1, w2, w3, rfl⟩ : ∃ w0 w1 w2 w3 : Value, args = #[w0, w1, w2, w3] := by
    have hs : args.size = 4 := by simpa [Cond.value, given_1] using hcount
    obtain ⟨L⟩ := args
    match L, hs with
    | [w0, w1, w2, w3], _ => exact ⟨w0, w1, w2, w3, rfl⟩
  have hw := fun d (hd : d ∈ tables_1) => atoms_spec (ws := Jvm.Cond.code x code maxLocals ret :: tables_1) hat d (List.mem_cons_of_mem _ hd)
  obtain ⟨i0, ei0⟩ := isL_v ga0
  obtain rfl : w0 = (.long i0) := Option.some.inj ei0
  obtain ⟨i1, ei1⟩ := is_v ga1
  obtain rfl : w1 = (.int i1) := Option.some.inj ei1
  obtain ⟨i2, ei2⟩ := is_v ga2
  obtain rfl : w2 = (.int i2) := Option.some.inj ei2
  obtain ⟨i3, ei3⟩ := is_v r3
  obtain rfl : w3 = (.int i3) := Option.some.inj ei3
  obtain ⟨n, o, h1, h2, h3, _, L, rfl, ⟨rfl, N⟩, hq⟩ := rm0 l s _ hw tables_1 i0 i1 i2 i3 s.heap s.heap.size (Nat.le_refl _)  p e ha hc hk s m _ below hf ((Spec.applies_iff_loose hf).mp happ).1 ⟨rfl, State.Warmed39.refl s, rfl⟩ trivial
  exact ⟨n, _, h1, h2, h3, hpost _ _ _ _ _ _ ⟨Cond.after_iff.mpr rfl, Cond.after_iff.mpr (eq_i res_at (Term.int_eval (1)) rfl), trivial⟩ ⟨hq.1, hq.2.1, (hq.2.2.sift fun y hy => Or.inr (N y hy)).mono (by decide) (by decide)⟩⟩
theorem main_1_1 : Claimed_1_1 := comes_1 fun _ _ _ _ _ _ h hF => ⟨h.1, hF⟩
theorem main_1_2 : Claimed_1_2 := comes_1 fun _ _ _ _ _ _ h hF => ⟨h.2.1, hF⟩
end Jvm.Pilot.@@N@@
namespace Jvm.Pilot.@@N@@
open Jvm Jvm.ClassFile Sem Op Lib Jvm.Free Jvm.Stand Jvm.Pilot.@@N@@.Jvm.D
/-! MADE BY PROGRAM (witnessworld.py) out of the Statement's table words and the real class files: 9 classes; the members and pool entries that the words name. The judged class is class 1, her method 3. -/
namespace start1
open Jvm.ClassFile
def u (s : String) : CpInfo := .utf8 (stringToUtf16 s)
/-- a pool by its gaps: so many unusable entries, then the entry; so many at the end -/
def gap : Nat → List CpInfo → List CpInfo
  | 0, r => r
  | n + 1, r => .unusable :: gap n r
def poolList (es : List (Nat × CpInfo)) (last : Nat) : List CpInfo := es.foldr (fun e r => gap e.1 (e.2 :: r)) (gap last [])
def pool (es : List (Nat × CpInfo)) (last : Nat) : Array CpInfo := ⟨poolList es last⟩
def fileOf (pool : Array CpInfo) (this : Nat) (attrs : Array Attribute := #[]) (ms : Array MethodInfo := #[]) (fl : Nat := 33) (sup : Nat := 0) (ifs : Array Nat := #[]) (fds : Array FieldInfo := #[]) : ClassFile where
  minorVersion := 0
  majorVersion := 65
  constantPool := pool
  accessFlags := fl
  thisClass := this
  superClass := sup
  interfaces := ifs
  fields := fds
  methods := ms
  attributes := attrs
def plain (name : String) (sup : Option ClassId) : Class where
  name := name
  kind := .ordinary
  loader := none
  accessFlags := 33
  super := sup
  interfaces := #[]
  cf := none
  fields := #[]
  methods := #[]
  instanceTypes := #[]
  staticTypes := #[]
  resolved := #[]
  callSites := []
  init := .initialized
  statics := none
  mirror := none

def pool0 : Array CpInfo := pool [(5, u "<init>"), (0, u "()V"), (1, .class_ 10), (1, u "java/lang/Object")] 113

def k0m0 : Method := { name := "<init>", desc := "()V", sig := { parameters := [], returnType := none }, accessFlags := 1, code := none }
/-- java/lang/Object -/
def k0 : Class := { plain "java/lang/Object" none with
  accessFlags := 33
  interfaces := #[]
  cf := some (fileOf pool0 8 #[] #[{ accessFlags := 1, nameIndex := 5, descriptorIndex := 6, attributes := #[] }] 33 0 #[] #[])
  fields := #[]
  methods := #[k0m0]
  instanceTypes := #[]
  staticTypes := #[]
  resolved := Array.replicate 124 none
  statics := none }

def pool1 : Array CpInfo := pool [(2, .class_ 4), (1, u "java/lang/Object"), (0, u "<init>"), (0, u "()V"), (0, .long 128), (1, .long 16384), (1, .long 2097152), (1, .long 268435456), (1, .long 34359738368), (1, .long 4398046511104), (1, .long 562949953421312), (1, .long 72057594037927936), (1, .long 127), (1, .integer 2147483647), (0, .methodref 27 28), (0, .class_ 29), (0, .nameAndType 30 31), (0, u "com/example/rank4/rank4/VarintWritePinLaw"), (0, u "lenOf"), (0, u "(J)I"), (0, .methodref 33 34), (0, .class_ 35), (0, .nameAndType 36 37), (0, u "com/example/rank4/rank4/Varint"), (0, u "write"), (0, u "(J[BI)I"), (0, .methodref 27 39), (0, .nameAndType 40 41), (0, u "ok"), (0, u "([BIIIJB)Z"), (3, u "law"), (0, u "(JIII)Z")] 4

def k1m0 : Method := { name := "<init>", desc := "()V", sig := { parameters := [], returnType := none }, accessFlags := 2, code := none }
def k1c1 : Code := { maxStack := 4, maxLocals := 2, code := method_2_code, exceptionTable := #[], attributes := #[] }
def k1m1 : Method := { name := "lenOf", desc := "(J)I", sig := { parameters := [.long], returnType := some .int }, accessFlags := 10, code := some k1c1 }
def k1c2 : Code := { maxStack := 4, maxLocals := 9, code := method_3_code, exceptionTable := #[], attributes := #[] }
def k1m2 : Method := { name := "ok", desc := "([BIIIJB)Z", sig := { parameters := [(.array .byte), .int, .int, .int, .long, .byte], returnType := some .boolean }, accessFlags := 10, code := some k1c2 }
def k1c3 : Code := { maxStack := 7, maxLocals := 12, code := code, exceptionTable := #[], attributes := #[] }
def k1m3 : Method := { name := "law", desc := "(JIII)Z", sig := { parameters := [.long, .int, .int, .int], returnType := some .boolean }, accessFlags := 9, code := some k1c3 }
/-- com/example/rank4/rank4/VarintWritePinLaw -/
def k1 : Class := { plain "com/example/rank4/rank4/VarintWritePinLaw" (some 0) with
  accessFlags := 49
  interfaces := #[]
  cf := some (fileOf pool1 27 #[] #[{ accessFlags := 2, nameIndex := 5, descriptorIndex := 6, attributes := #[] }, { accessFlags := 10, nameIndex := 30, descriptorIndex := 31, attributes := #[] }, { accessFlags := 10, nameIndex := 40, descriptorIndex := 41, attributes := #[] }, { accessFlags := 9, nameIndex := 45, descriptorIndex := 46, attributes := #[] }] 49 2 #[] #[])
  fields := #[]
  methods := #[k1m0, k1m1, k1m2, k1m3]
  instanceTypes := #[]
  staticTypes := #[]
  resolved := Array.replicate 51 none
  statics := none }

def pool2 : Array CpInfo := pool [(2, .class_ 4), (1, u "java/lang/Object"), (0, u "<init>"), (0, u "()V"), (0, .long 18446744073709551488), (1, .long 128), (1, .class_ 12), (0, u "com/example/rank4/rank4/Varint"), (0, u "LONGEST"), (0, u "I"), (4, u "write"), (0, u "(J[BI)I")] 7

def k2m0 : Method := { name := "<init>", desc := "()V", sig := { parameters := [], returnType := none }, accessFlags := 2, code := none }
def k2c1 : Code := { maxStack := 6, maxLocals := 7, code := prog_43_method_2_code, exceptionTable := #[], attributes := #[] }
def k2m1 : Method := { name := "write", desc := "(J[BI)I", sig := { parameters := [.long, (.array .byte), .int], returnType := some .int }, accessFlags := 8, code := some k2c1 }
/-- com/example/rank4/rank4/Varint -/
def k2 : Class := { plain "com/example/rank4/rank4/Varint" (some 0) with
  accessFlags := 48
  interfaces := #[]
  cf := some (fileOf pool2 11 #[] #[{ accessFlags := 2, nameIndex := 5, descriptorIndex := 6, attributes := #[] }, { accessFlags := 8, nameIndex := 19, descriptorIndex := 20, attributes := #[] }] 48 2 #[] #[{ accessFlags := 24, nameIndex := 13, descriptorIndex := 14, attributes := #[] }])
  fields := #[{ name := "LONGEST", type := .int, accessFlags := 24, slot := 0, constantValue := 0 }]
  methods := #[k2m0, k2m1]
  instanceTypes := #[]
  staticTypes := #[.int]
  resolved := Array.replicate 28 none
  statics := none }

def pool3 : Array CpInfo := pool [(1, u "java/lang/Cloneable"), (0, .class_ 1), (0, u "java/lang/Object"), (0, .class_ 3)] 3

/-- java/lang/Cloneable -/
def k3 : Class := { plain "java/lang/Cloneable" (some 0) with
  accessFlags := 1537
  interfaces := #[]
  cf := some (fileOf pool3 2 #[] #[] 1537 4 #[] #[])
  fields := #[]
  methods := #[]
  instanceTypes := #[]
  staticTypes := #[]
  resolved := Array.replicate 8 none
  statics := none }

def pool4 : Array CpInfo := pool [(1, u "java/io/Serializable"), (0, .class_ 1), (0, u "java/lang/Object"), (0, .class_ 3)] 3

/-- java/io/Serializable -/
def k4 : Class := { plain "java/io/Serializable" (some 0) with
  accessFlags := 1537
  interfaces := #[]
  cf := some (fileOf pool4 2 #[] #[] 1537 4 #[] #[])
  fields := #[]
  methods := #[]
  instanceTypes := #[]
  staticTypes := #[]
  resolved := Array.replicate 8 none
  statics := none }

/-- the primitive byte -/
def k5 : Class := { plain "byte" none with kind := .primitive 'B', accessFlags := 0x411 }
/-- [B -/
def k6 : Class := { plain "[B" (some 0) with kind := .array 5 .byte, interfaces := #[3, 4], accessFlags := 1041 }

/-- the primitive int -/
def k7 : Class := { plain "int" none with kind := .primitive 'I', accessFlags := 0x411 }
/-- [I -/
def k8 : Class := { plain "[I" (some 0) with kind := .array 7 .int, interfaces := #[3, 4], accessFlags := 1041 }

def heap : Heap := #[]
def classes : Array Class := #[k0, k1, k2, k3, k4, k5, k6, k7, k8]
def interned : List (Array UInt16 × Addr) := []
def slotsUsed : Nat := 0
def theMethod : MethodId := ⟨1, 3⟩
def args0 : Array Value := #[.long 5, .int 7, .int 9, .int 11]
def aboutOver (below : List Frame) : State where
  vm := { classes := classes, interned := interned.toArray }
  heap := heap
  slotsUsed := slotsUsed
  threads := #[{ frames := .invoking theMethod args0 :: below }]
def below0 : List Frame := [.native { method := ⟨0, 0⟩, args := #[] }]
def about1 : State := aboutOver below0
def p0 : Program := .bare "" "" ""
def e0 : Env := launch0.env 0 0 0
theorem w_frames : about1.frames = Frame.invoking theMethod args0 :: below0 := rfl
set_option maxRecDepth 65536 in
theorem w_args : argsFit about1.vm theMethod args0 = true := by decide +kernel
set_option maxRecDepth 65536 in
theorem w_heap : heapFits about1 = true := by decide +kernel
set_option maxRecDepth 65536 in
theorem w_runnable : about1.curStatus? = some .runnable := by decide +kernel
set_option maxRecDepth 65536 in
theorem w_alone : about1.alone = true := by decide +kernel
set_option maxRecDepth 65536 in
theorem w_named : about1.methodNamed? x = some theMethod := by decide +kernel
set_option maxRecDepth 65536 in
theorem w_hears : about1.hears theMethod below0 = true := by decide +kernel
set_option maxRecDepth 65536 in
theorem w_ripe : about1.ripe theMethod args0 below0 = true := by decide +kernel
theorem w_running : about1.status = .running := rfl
set_option maxRecDepth 65536 in
theorem w_room : about1.hasRoom e0.platform room_1 = true :=
  launch0.hasRoom_least _ room_1 (by decide +kernel) (by decide +kernel) (by decide +kernel) (by decide +kernel) (by decide +kernel) (by decide +kernel)
theorem allAtoms_all (ts : List Jvm.Cond) (a : Array Jvm.Value) (st : Jvm.State) : (allAtoms ts).before a st = ts.all (fun c => c.before a st) := by
  induction ts with
  | nil => rfl
  | cons c t ih =>
    show (Jvm.Cond.and c (allAtoms t)).before a st = _
    rw [Jvm.Cond.before_and, ih, List.all_cons]
def words1 : List Jvm.Cond := Jvm.Cond.code x code maxLocals ret :: tables_1
/-- a 'code' word, met by the world's own term for the bytes: nothing is compared byte by byte -/
theorem code_word {y : MethodName} {bytes : ByteArray} {mx : Nat} {rt : Option FieldType} {a : Array Value} {s : State} {m : MethodId} {meth : Method} {c : Code} (h1 : s.methodNamed? y = some m) (h2 : s.vm.method? m = some meth) (h3 : meth.code = some c) (h4 : c.code = bytes)
    (h5 : (c.maxLocals == mx && c.exceptionTable.isEmpty && decide (c.maxStack ≤ mostOperands) && decide (meth.sig.returnType = rt) && !meth.locks && decide (parseMethodDescriptor y.desc = some meth.sig)) = true) : (Jvm.Cond.code y bytes mx rt).before a s = true := by
  simp only [Bool.and_eq_true, beq_iff_eq, Bool.not_eq_true', decide_eq_true_eq] at h5
  obtain ⟨⟨⟨⟨⟨g1, g2⟩, g3⟩, g4⟩, g5⟩, g6⟩ := h5
  simp [Cond.before, Cond.holds, Cond.value, h1, h2, h3, h4, g1, g2, g3, g4, g5, g6]
def isCode : Jvm.Cond → Bool
  | .code _ _ _ _ => true
  | _ => false
theorem all_split {L : List Jvm.Cond} {P : Jvm.Cond → Bool} (h1 : L.all (fun c => isCode c || P c) = true) (h2 : ∀ c ∈ L.filter isCode, P c = true) : L.all P = true := by
  refine List.all_eq_true.mpr fun c hc => ?_
  have h := List.all_eq_true.mp h1 c hc
  rcases Bool.eq_false_or_eq_true (isCode c) with hi | hi
  · exact h2 c (List.mem_filter.mpr ⟨hc, hi⟩)
  · simpa [hi] using h
set_option maxRecDepth 65536 in
theorem w_c0 : (Jvm.Cond.code x code maxLocals ret).before args0 about1 = true := code_word (m := ⟨1, 3⟩) (meth := k1m3) (c := k1c3) (by decide +kernel) rfl rfl rfl (by decide +kernel)
set_option maxRecDepth 65536 in
theorem w_c1 : (Jvm.Cond.code ({ cls := "com/example/rank4/rank4/VarintWritePinLaw", name := "lenOf", desc := "(J)I" } : Jvm.MethodName) method_2_code (2 : Nat) (Option.some Jvm.ClassFile.FieldType.int)).before args0 about1 = true := code_word (m := ⟨1, 1⟩) (meth := k1m1) (c := k1c1) (by decide +kernel) rfl rfl rfl (by decide +kernel)
set_option maxRecDepth 65536 in
theorem w_c2 : (Jvm.Cond.code ({ cls := "com/example/rank4/rank4/Varint", name := "write", desc := "(J[BI)I" } : Jvm.MethodName) prog_43_method_2_code (7 : Nat) (Option.some Jvm.ClassFile.FieldType.int)).before args0 about1 = true := code_word (m := ⟨2, 1⟩) (meth := k2m1) (c := k2c1) (by decide +kernel) rfl rfl rfl (by decide +kernel)
set_option maxRecDepth 65536 in
theorem w_c3 : (Jvm.Cond.code ({ cls := "com/example/rank4/rank4/VarintWritePinLaw", name := "ok", desc := "([BIIIJB)Z" } : Jvm.MethodName) method_3_code (9 : Nat) (Option.some Jvm.ClassFile.FieldType.boolean)).before args0 about1 = true := code_word (m := ⟨1, 2⟩) (meth := k1m2) (c := k1c2) (by decide +kernel) rfl rfl rfl (by decide +kernel)
def codes1 : List Jvm.Cond := [Jvm.Cond.code x code maxLocals ret, Jvm.Cond.code ({ cls := "com/example/rank4/rank4/VarintWritePinLaw", name := "lenOf", desc := "(J)I" } : Jvm.MethodName) method_2_code (2 : Nat) (Option.some Jvm.ClassFile.FieldType.int), Jvm.Cond.code ({ cls := "com/example/rank4/rank4/Varint", name := "write", desc := "(J[BI)I" } : Jvm.MethodName) prog_43_method_2_code (7 : Nat) (Option.some Jvm.ClassFile.FieldType.int), Jvm.Cond.code ({ cls := "com/example/rank4/rank4/VarintWritePinLaw", name := "ok", desc := "([BIIIJB)Z" } : Jvm.MethodName) method_3_code (9 : Nat) (Option.some Jvm.ClassFile.FieldType.boolean)]
set_option maxRecDepth 65536 in
theorem codes_eq : words1.filter isCode = codes1 := rfl
theorem w_codes : ∀ c ∈ words1.filter isCode, c.before args0 about1 = true := by
  rw [codes_eq]
  intro c hc
  simp only [codes1, List.mem_cons, List.not_mem_nil, or_false] at hc
  rcases hc with rfl | rfl | rfl | rfl
  · exact w_c0
  · exact w_c1
  · exact w_c2
  · exact w_c3
set_option maxRecDepth 65536 in
theorem w_t1 : (words1.take 24).all (fun c => isCode c || c.before args0 about1) = true := by decide +kernel
set_option maxRecDepth 65536 in
theorem w_t2 : (words1.drop 24).all (fun c => isCode c || c.before args0 about1) = true := by decide +kernel
theorem w_tables : (allAtoms (Jvm.Cond.code x code maxLocals ret :: tables_1)).before args0 about1 = true := by
  rw [allAtoms_all]
  show words1.all (fun c => c.before args0 about1) = true
  refine all_split ?_ w_codes
  rw [← List.take_append_drop 24 words1, List.all_append, w_t1, w_t2]
  rfl
set_option maxRecDepth 65536 in
theorem w_case : (Jvm.Cond.and given_1 narrow_1).before args0 about1 = true := by decide +kernel
theorem w_applies : (headSpec (Jvm.Cond.code x code maxLocals ret :: tables_1) room_1).applies x e0.platform about1 = true :=
  (Spec.applies_iff w_frames).mpr ⟨w_running, w_runnable, w_alone, w_named, w_hears, w_ripe, w_room, w_tables⟩
theorem atStart : AtStart classFile x code maxLocals ret World_1 tables_1 room_1 Calls_1 rest_1 Pre_1 launch0 p0 e0 about1 theMethod args0 below0 :=
  ⟨lists_1, trivial, launch0.admits_env _ _ _, launch0.least_env, fairChoices_fair.cas, fairChoices_fair.clock, w_frames, w_args, w_heap, w_applies, trivial, trivial, w_case⟩
end start1
theorem witness_1 : WitnessClaimed_1 := ⟨start1.p0, start1.e0, start1.about1, start1.theMethod, start1.args0, start1.below0, start1.atStart⟩
end Jvm.Pilot.@@N@@
