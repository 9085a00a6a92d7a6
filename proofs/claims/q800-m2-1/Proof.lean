import JvmDerived
import JvmDerived.Pilot.@@N@@Statement
import JvmDerived.Pilot.@@N@@Code
set_option linter.unusedVariables false
set_option linter.unusedSimpArgs false
namespace Jvm.Pilot.@@N@@
open Jvm Jvm.ClassFile Sem Op Lib Jvm.Free Jvm.Stand Jvm.LawKit Jvm.RoadKit Bundle Jvm.Pilot.@@N@@.Jvm.D
section OwnKit
/-- the run goes on from here to the method's end; what it leaves is Q -/
def Go (p : Program) (e : Env) (below : List Frame) (s : State) (k n : Nat) (Q : Option Value → Heap → List Loc → Prop) (T : State) (g : JFrame) : Prop :=
  ∃ s₂ o, Steps p.tables e below (T.setTop g) s₂ ∧ s₂.status = .running ∧ Ended s₂ below o ∧ ∃ v L, o = .returned v ∧ Q v s₂.heap L ∧ FrameEnd s o s₂ L k n
variable {p : Program} {l : Launch} {e : Env} {R : Room} {s : State} {m : MethodId} {args : Array Value} {below : List Frame} {meth : Method} {c : Code} {T : State} {locs : List Loc} {cells slots : Nat} {k n : Nat} {Q : Option Value → Heap → List Loc → Prop} {pc : Nat} {Ls : Array Slot} {st : List Value} {Z : State} {a0 : Array Value} {h h' : Heap}
theorem Go.via {T' : State} {g g' : JFrame} (q : ∀ t, Steps p.tables e below (T'.setTop g') t → Steps p.tables e below (T.setTop g) t) (H : Go p e below s k n Q T' g') : Go p e below s k n Q T g := by
  obtain ⟨s₂, o, h1, r⟩ := H
  exact ⟨s₂, o, q _ h1, r⟩
theorem tltL {x y : Int64} (q : x < y) : ifCond.holds .lt (lcmpW x y) = true ∧ ifCond.holds .ge (lcmpW x y) = false ∧ ifCond.holds .gt (lcmpW y x) = true ∧ ifCond.holds .le (lcmpW y x) = false := by
  simp only [if0]
  exact ⟨(tlt ((lw_lt x y).mpr q)).1, (tlt ((lw_lt x y).mpr q)).2.1, (tlt ((lw_gt y x).mpr q)).2.2.1, (tlt ((lw_gt y x).mpr q)).2.2.2⟩
theorem fltL {x y : Int64} (q : ¬ x < y) : ifCond.holds .lt (lcmpW x y) = false ∧ ifCond.holds .ge (lcmpW x y) = true ∧ ifCond.holds .gt (lcmpW y x) = false ∧ ifCond.holds .le (lcmpW y x) = true := by
  simp only [if0]
  exact ⟨(flt (mt (lw_lt x y).mp q)).1, (flt (mt (lw_lt x y).mp q)).2.1, (flt (mt (lw_gt y x).mp q)).2.2.1, (flt (mt (lw_gt y x).mp q)).2.2.2⟩
theorem teqL {x y : Int64} (q : x = y) : ifCond.holds .eq (lcmpW x y) = true ∧ ifCond.holds .ne (lcmpW x y) = false := by
  simp only [if0]
  exact ⟨(teq ((lw_eq x y).mpr q)).1, (teq ((lw_eq x y).mpr q)).2⟩
theorem feqL {x y : Int64} (q : ¬ x = y) : ifCond.holds .eq (lcmpW x y) = false ∧ ifCond.holds .ne (lcmpW x y) = true := by
  simp only [if0]
  exact ⟨(feq (mt (lw_eq x y).mp q)).1, (feq (mt (lw_eq x y).mp q)).2⟩
theorem tlt0 {x y : Int32} (q : x < y) : (y = 0 → ifCond.holds .lt x = true ∧ ifCond.holds .ge x = false) ∧ (x = 0 → ifCond.holds .gt y = true ∧ ifCond.holds .le y = false) := by
  refine ⟨fun r => ?_, fun r => ?_⟩ <;> subst r <;> simp only [if0]
  · exact ⟨(tlt q).1, (tlt q).2.1⟩
  · exact ⟨(tlt q).2.2.1, (tlt q).2.2.2⟩
theorem g_iloadN (pc' : Nat) (X : Stand p l e R s m args below meth c T locs cells slots) (hx : p.tables.exec = Jvm.exec) {i : Fin 4} {v : Int32} (hd : decode c.code pc = .ok (.iload_n i, 1)) (hp : pc + 1 = pc') (hl : Ls[i.val]? = some (.val (.int v))) (H : Go p e below s k n Q T (mkF m pc' Ls (.int v :: st))) : Go p e below s k n Q T (mkF m pc Ls st) := by
  subst hp
  exact H.via fun t q => XS.iloadN X.here hx rfl hd hl q
theorem g_iload (pc' : Nat) (X : Stand p l e R s m args below meth c T locs cells slots) (hx : p.tables.exec = Jvm.exec) {i : Nat} {v : Int32} (hd : decode c.code pc = .ok (.iload i, 2)) (hp : pc + 2 = pc') (hl : Ls[i]? = some (.val (.int v))) (H : Go p e below s k n Q T (mkF m pc' Ls (.int v :: st))) : Go p e below s k n Q T (mkF m pc Ls st) := by
  subst hp
  exact H.via fun t q => XS.iload X.here hx rfl hd hl q
theorem g_istoreN (pc' : Nat) (X : Stand p l e R s m args below meth c T locs cells slots) (hx : p.tables.exec = Jvm.exec) {i : Fin 4} {v : Int32} {Ls' : Array Slot} (hd : decode c.code pc = .ok (.istore_n i, 1)) (hp : pc + 1 = pc') (hl : storeLocals Ls i.val (.int v) = some Ls') (H : Go p e below s k n Q T (mkF m pc' Ls' st)) : Go p e below s k n Q T (mkF m pc Ls (.int v :: st)) := by
  subst hp
  exact H.via fun t q => XS.istoreN X.here hx rfl hd rfl hl q
theorem g_istore (pc' : Nat) (X : Stand p l e R s m args below meth c T locs cells slots) (hx : p.tables.exec = Jvm.exec) {i : Nat} {v : Int32} {Ls' : Array Slot} (hd : decode c.code pc = .ok (.istore i, 2)) (hp : pc + 2 = pc') (hl : storeLocals Ls i (.int v) = some Ls') (H : Go p e below s k n Q T (mkF m pc' Ls' st)) : Go p e below s k n Q T (mkF m pc Ls (.int v :: st)) := by
  subst hp
  exact H.via fun t q => XS.istore X.here hx rfl hd rfl hl q
theorem g_lloadN (pc' : Nat) (X : Stand p l e R s m args below meth c T locs cells slots) (hx : p.tables.exec = Jvm.exec) {i : Fin 4} {v : Int64} (hd : decode c.code pc = .ok (.lload_n i, 1)) (hp : pc + 1 = pc') (hl : Ls[i.val]? = some (.val (.long v))) (H : Go p e below s k n Q T (mkF m pc' Ls (.long v :: st))) : Go p e below s k n Q T (mkF m pc Ls st) := by
  subst hp
  exact H.via fun t q => XS.lloadN X.here hx rfl hd hl q
theorem g_lload (pc' : Nat) (X : Stand p l e R s m args below meth c T locs cells slots) (hx : p.tables.exec = Jvm.exec) {i : Nat} {v : Int64} (hd : decode c.code pc = .ok (.lload i, 2)) (hp : pc + 2 = pc') (hl : Ls[i]? = some (.val (.long v))) (H : Go p e below s k n Q T (mkF m pc' Ls (.long v :: st))) : Go p e below s k n Q T (mkF m pc Ls st) := by
  subst hp
  exact H.via fun t q => XS.lload X.here hx rfl hd hl q
theorem g_lstoreN (pc' : Nat) (X : Stand p l e R s m args below meth c T locs cells slots) (hx : p.tables.exec = Jvm.exec) {i : Fin 4} {v : Int64} {Ls' : Array Slot} (hd : decode c.code pc = .ok (.lstore_n i, 1)) (hp : pc + 1 = pc') (hl : storeLocals Ls i.val (.long v) = some Ls') (H : Go p e below s k n Q T (mkF m pc' Ls' st)) : Go p e below s k n Q T (mkF m pc Ls (.long v :: st)) := by
  subst hp
  exact H.via fun t q => XS.lstoreN X.here hx rfl hd rfl hl q
theorem g_lstore (pc' : Nat) (X : Stand p l e R s m args below meth c T locs cells slots) (hx : p.tables.exec = Jvm.exec) {i : Nat} {v : Int64} {Ls' : Array Slot} (hd : decode c.code pc = .ok (.lstore i, 2)) (hp : pc + 2 = pc') (hl : storeLocals Ls i (.long v) = some Ls') (H : Go p e below s k n Q T (mkF m pc' Ls' st)) : Go p e below s k n Q T (mkF m pc Ls (.long v :: st)) := by
  subst hp
  exact H.via fun t q => XS.lstore X.here hx rfl hd rfl hl q
theorem g_aloadN (pc' : Nat) (X : Stand p l e R s m args below meth c T locs cells slots) (hx : p.tables.exec = Jvm.exec) {i : Fin 4} {v : Value} (hd : decode c.code pc = .ok (.aload_n i, 1)) (hp : pc + 1 = pc') (hl : Ls[i.val]? = some (.val v)) (hv : v.isRef = true) (H : Go p e below s k n Q T (mkF m pc' Ls (v :: st))) : Go p e below s k n Q T (mkF m pc Ls st) := by
  subst hp
  exact H.via fun t q => XS.aloadN X.here hx rfl hd hl hv q
theorem g_aload (pc' : Nat) (X : Stand p l e R s m args below meth c T locs cells slots) (hx : p.tables.exec = Jvm.exec) {i : Nat} {v : Value} (hd : decode c.code pc = .ok (.aload i, 2)) (hp : pc + 2 = pc') (hl : Ls[i]? = some (.val v)) (hv : v.isRef = true) (H : Go p e below s k n Q T (mkF m pc' Ls (v :: st))) : Go p e below s k n Q T (mkF m pc Ls st) := by
  subst hp
  exact H.via fun t q => XS.aload X.here hx rfl hd hl hv q
theorem g_astoreN (pc' : Nat) (X : Stand p l e R s m args below meth c T locs cells slots) (hx : p.tables.exec = Jvm.exec) {i : Fin 4} {v : Value} {Ls' : Array Slot} (hd : decode c.code pc = .ok (.astore_n i, 1)) (hp : pc + 1 = pc') (hv : v.isRef = true) (hl : storeLocals Ls i.val v = some Ls') (H : Go p e below s k n Q T (mkF m pc' Ls' st)) : Go p e below s k n Q T (mkF m pc Ls (v :: st)) := by
  subst hp
  exact H.via fun t q => XS.astoreN X.here hx rfl hd rfl hv hl q
theorem g_astore (pc' : Nat) (X : Stand p l e R s m args below meth c T locs cells slots) (hx : p.tables.exec = Jvm.exec) {i : Nat} {v : Value} {Ls' : Array Slot} (hd : decode c.code pc = .ok (.astore i, 2)) (hp : pc + 2 = pc') (hv : v.isRef = true) (hl : storeLocals Ls i v = some Ls') (H : Go p e below s k n Q T (mkF m pc' Ls' st)) : Go p e below s k n Q T (mkF m pc Ls (v :: st)) := by
  subst hp
  exact H.via fun t q => XS.astore X.here hx rfl hd rfl hv hl q
theorem g_iconst (pc' : Nat) (X : Stand p l e R s m args below meth c T locs cells slots) (hx : p.tables.exec = Jvm.exec) {i : Int} {z : Int32} (hd : decode c.code pc = .ok (.iconst i, 1)) (hp : pc + 1 = pc') (hz : Int32.ofInt i = z) (H : Go p e below s k n Q T (mkF m pc' Ls (.int z :: st))) : Go p e below s k n Q T (mkF m pc Ls st) := by
  subst hp hz
  exact H.via fun t q => XS.iconst X.here hx rfl hd q
theorem g_bipush (pc' : Nat) (X : Stand p l e R s m args below meth c T locs cells slots) (hx : p.tables.exec = Jvm.exec) {i : Int} {z : Int32} (hd : decode c.code pc = .ok (.bipush i, 2)) (hp : pc + 2 = pc') (hz : (Int8.ofInt i).toInt32 = z) (H : Go p e below s k n Q T (mkF m pc' Ls (.int z :: st))) : Go p e below s k n Q T (mkF m pc Ls st) := by
  subst hp hz
  exact H.via fun t q => XS.bipush X.here hx rfl hd q
theorem g_sipush (pc' : Nat) (X : Stand p l e R s m args below meth c T locs cells slots) (hx : p.tables.exec = Jvm.exec) {i : Int} {z : Int32} (hd : decode c.code pc = .ok (.sipush i, 3)) (hp : pc + 3 = pc') (hz : (Int16.ofInt i).toInt32 = z) (H : Go p e below s k n Q T (mkF m pc' Ls (.int z :: st))) : Go p e below s k n Q T (mkF m pc Ls st) := by
  subst hp hz
  exact H.via fun t q => XS.sipush X.here hx rfl hd q
theorem g_lconst (pc' : Nat) (X : Stand p l e R s m args below meth c T locs cells slots) (hx : p.tables.exec = Jvm.exec) {i : Fin 2} {z : Int64} (hd : decode c.code pc = .ok (.lconst i, 1)) (hp : pc + 1 = pc') (hz : Int64.ofNat i.val = z) (H : Go p e below s k n Q T (mkF m pc' Ls (.long z :: st))) : Go p e below s k n Q T (mkF m pc Ls st) := by
  subst hp hz
  exact H.via fun t q => XS.lconst X.here hx rfl hd q
theorem g_aconst_null (pc' : Nat) (X : Stand p l e R s m args below meth c T locs cells slots) (hx : p.tables.exec = Jvm.exec) (hd : decode c.code pc = .ok (.aconst_null, 1)) (hp : pc + 1 = pc')  (H : Go p e below s k n Q T (mkF m pc' Ls (.null :: st))) : Go p e below s k n Q T (mkF m pc Ls st) := by
  subst hp
  exact H.via fun t q => XS.aconstNull X.here hx rfl hd q
theorem g_iadd (pc' : Nat) (X : Stand p l e R s m args below meth c T locs cells slots) (hx : p.tables.exec = Jvm.exec) {x y z : Int32} (hd : decode c.code pc = .ok (.iadd, 1)) (hp : pc + 1 = pc') (hz : x + y = z) (H : Go p e below s k n Q T (mkF m pc' Ls (.int z :: st))) : Go p e below s k n Q T (mkF m pc Ls (.int y :: .int x :: st)) := by
  subst hp hz
  exact H.via fun t q => XS.iadd X.here hx rfl hd rfl q
theorem g_isub (pc' : Nat) (X : Stand p l e R s m args below meth c T locs cells slots) (hx : p.tables.exec = Jvm.exec) {x y z : Int32} (hd : decode c.code pc = .ok (.isub, 1)) (hp : pc + 1 = pc') (hz : x - y = z) (H : Go p e below s k n Q T (mkF m pc' Ls (.int z :: st))) : Go p e below s k n Q T (mkF m pc Ls (.int y :: .int x :: st)) := by
  subst hp hz
  exact H.via fun t q => XS.isub X.here hx rfl hd rfl q
theorem g_imul (pc' : Nat) (X : Stand p l e R s m args below meth c T locs cells slots) (hx : p.tables.exec = Jvm.exec) {x y z : Int32} (hd : decode c.code pc = .ok (.imul, 1)) (hp : pc + 1 = pc') (hz : x * y = z) (H : Go p e below s k n Q T (mkF m pc' Ls (.int z :: st))) : Go p e below s k n Q T (mkF m pc Ls (.int y :: .int x :: st)) := by
  subst hp hz
  exact H.via fun t q => XS.imul X.here hx rfl hd rfl q
theorem g_iand (pc' : Nat) (X : Stand p l e R s m args below meth c T locs cells slots) (hx : p.tables.exec = Jvm.exec) {x y z : Int32} (hd : decode c.code pc = .ok (.iand, 1)) (hp : pc + 1 = pc') (hz : x &&& y = z) (H : Go p e below s k n Q T (mkF m pc' Ls (.int z :: st))) : Go p e below s k n Q T (mkF m pc Ls (.int y :: .int x :: st)) := by
  subst hp hz
  exact H.via fun t q => XS.iand X.here hx rfl hd rfl q
theorem g_ior (pc' : Nat) (X : Stand p l e R s m args below meth c T locs cells slots) (hx : p.tables.exec = Jvm.exec) {x y z : Int32} (hd : decode c.code pc = .ok (.ior, 1)) (hp : pc + 1 = pc') (hz : x ||| y = z) (H : Go p e below s k n Q T (mkF m pc' Ls (.int z :: st))) : Go p e below s k n Q T (mkF m pc Ls (.int y :: .int x :: st)) := by
  subst hp hz
  exact H.via fun t q => XS.ior X.here hx rfl hd rfl q
theorem g_ixor (pc' : Nat) (X : Stand p l e R s m args below meth c T locs cells slots) (hx : p.tables.exec = Jvm.exec) {x y z : Int32} (hd : decode c.code pc = .ok (.ixor, 1)) (hp : pc + 1 = pc') (hz : x ^^^ y = z) (H : Go p e below s k n Q T (mkF m pc' Ls (.int z :: st))) : Go p e below s k n Q T (mkF m pc Ls (.int y :: .int x :: st)) := by
  subst hp hz
  exact H.via fun t q => XS.ixor X.here hx rfl hd rfl q
theorem g_ladd (pc' : Nat) (X : Stand p l e R s m args below meth c T locs cells slots) (hx : p.tables.exec = Jvm.exec) {x y z : Int64} (hd : decode c.code pc = .ok (.ladd, 1)) (hp : pc + 1 = pc') (hz : x + y = z) (H : Go p e below s k n Q T (mkF m pc' Ls (.long z :: st))) : Go p e below s k n Q T (mkF m pc Ls (.long y :: .long x :: st)) := by
  subst hp hz
  exact H.via fun t q => XS.ladd X.here hx rfl hd rfl q
theorem g_lsub (pc' : Nat) (X : Stand p l e R s m args below meth c T locs cells slots) (hx : p.tables.exec = Jvm.exec) {x y z : Int64} (hd : decode c.code pc = .ok (.lsub, 1)) (hp : pc + 1 = pc') (hz : x - y = z) (H : Go p e below s k n Q T (mkF m pc' Ls (.long z :: st))) : Go p e below s k n Q T (mkF m pc Ls (.long y :: .long x :: st)) := by
  subst hp hz
  exact H.via fun t q => XS.lsub X.here hx rfl hd rfl q
theorem g_lmul (pc' : Nat) (X : Stand p l e R s m args below meth c T locs cells slots) (hx : p.tables.exec = Jvm.exec) {x y z : Int64} (hd : decode c.code pc = .ok (.lmul, 1)) (hp : pc + 1 = pc') (hz : x * y = z) (H : Go p e below s k n Q T (mkF m pc' Ls (.long z :: st))) : Go p e below s k n Q T (mkF m pc Ls (.long y :: .long x :: st)) := by
  subst hp hz
  exact H.via fun t q => XS.lmul X.here hx rfl hd rfl q
theorem g_land (pc' : Nat) (X : Stand p l e R s m args below meth c T locs cells slots) (hx : p.tables.exec = Jvm.exec) {x y z : Int64} (hd : decode c.code pc = .ok (.land, 1)) (hp : pc + 1 = pc') (hz : x &&& y = z) (H : Go p e below s k n Q T (mkF m pc' Ls (.long z :: st))) : Go p e below s k n Q T (mkF m pc Ls (.long y :: .long x :: st)) := by
  subst hp hz
  exact H.via fun t q => XS.land X.here hx rfl hd rfl q
theorem g_lor (pc' : Nat) (X : Stand p l e R s m args below meth c T locs cells slots) (hx : p.tables.exec = Jvm.exec) {x y z : Int64} (hd : decode c.code pc = .ok (.lor, 1)) (hp : pc + 1 = pc') (hz : x ||| y = z) (H : Go p e below s k n Q T (mkF m pc' Ls (.long z :: st))) : Go p e below s k n Q T (mkF m pc Ls (.long y :: .long x :: st)) := by
  subst hp hz
  exact H.via fun t q => XS.lor X.here hx rfl hd rfl q
theorem g_lxor (pc' : Nat) (X : Stand p l e R s m args below meth c T locs cells slots) (hx : p.tables.exec = Jvm.exec) {x y z : Int64} (hd : decode c.code pc = .ok (.lxor, 1)) (hp : pc + 1 = pc') (hz : x ^^^ y = z) (H : Go p e below s k n Q T (mkF m pc' Ls (.long z :: st))) : Go p e below s k n Q T (mkF m pc Ls (.long y :: .long x :: st)) := by
  subst hp hz
  exact H.via fun t q => XS.lxor X.here hx rfl hd rfl q
theorem g_ishl (pc' : Nat) (X : Stand p l e R s m args below meth c T locs cells slots) (hx : p.tables.exec = Jvm.exec) {x y z : Int32} (hd : decode c.code pc = .ok (.ishl, 1)) (hp : pc + 1 = pc') (hz : x <<< (y &&& 31) = z) (H : Go p e below s k n Q T (mkF m pc' Ls (.int z :: st))) : Go p e below s k n Q T (mkF m pc Ls (.int y :: .int x :: st)) := by
  subst hp hz
  exact H.via fun t q => XS.ishl X.here hx rfl hd rfl q
theorem g_ishr (pc' : Nat) (X : Stand p l e R s m args below meth c T locs cells slots) (hx : p.tables.exec = Jvm.exec) {x y z : Int32} (hd : decode c.code pc = .ok (.ishr, 1)) (hp : pc + 1 = pc') (hz : x >>> (y &&& 31) = z) (H : Go p e below s k n Q T (mkF m pc' Ls (.int z :: st))) : Go p e below s k n Q T (mkF m pc Ls (.int y :: .int x :: st)) := by
  subst hp hz
  exact H.via fun t q => XS.ishr X.here hx rfl hd rfl q
theorem g_iushr (pc' : Nat) (X : Stand p l e R s m args below meth c T locs cells slots) (hx : p.tables.exec = Jvm.exec) {x y z : Int32} (hd : decode c.code pc = .ok (.iushr, 1)) (hp : pc + 1 = pc') (hz : (x.toUInt32 >>> (y &&& 31).toUInt32).toInt32 = z) (H : Go p e below s k n Q T (mkF m pc' Ls (.int z :: st))) : Go p e below s k n Q T (mkF m pc Ls (.int y :: .int x :: st)) := by
  subst hp hz
  exact H.via fun t q => XS.iushr X.here hx rfl hd rfl q
theorem g_lshl (pc' : Nat) (X : Stand p l e R s m args below meth c T locs cells slots) (hx : p.tables.exec = Jvm.exec) {x z : Int64} {y : Int32} (hd : decode c.code pc = .ok (.lshl, 1)) (hp : pc + 1 = pc') (hz : x <<< (y &&& 0x3f).toInt64 = z) (H : Go p e below s k n Q T (mkF m pc' Ls (.long z :: st))) : Go p e below s k n Q T (mkF m pc Ls (.int y :: .long x :: st)) := by
  subst hp hz
  exact H.via fun t q => XS.lshl X.here hx rfl hd rfl q
theorem g_lshr (pc' : Nat) (X : Stand p l e R s m args below meth c T locs cells slots) (hx : p.tables.exec = Jvm.exec) {x z : Int64} {y : Int32} (hd : decode c.code pc = .ok (.lshr, 1)) (hp : pc + 1 = pc') (hz : x >>> (y &&& 0x3f).toInt64 = z) (H : Go p e below s k n Q T (mkF m pc' Ls (.long z :: st))) : Go p e below s k n Q T (mkF m pc Ls (.int y :: .long x :: st)) := by
  subst hp hz
  exact H.via fun t q => XS.lshr X.here hx rfl hd rfl q
theorem g_lushr (pc' : Nat) (X : Stand p l e R s m args below meth c T locs cells slots) (hx : p.tables.exec = Jvm.exec) {x z : Int64} {y : Int32} (hd : decode c.code pc = .ok (.lushr, 1)) (hp : pc + 1 = pc') (hz : (x.toUInt64 >>> (y &&& 0x3f).toInt64.toUInt64).toInt64 = z) (H : Go p e below s k n Q T (mkF m pc' Ls (.long z :: st))) : Go p e below s k n Q T (mkF m pc Ls (.int y :: .long x :: st)) := by
  subst hp hz
  exact H.via fun t q => XS.lushr X.here hx rfl hd rfl q
theorem g_idiv (pc' : Nat) (X : Stand p l e R s m args below meth c T locs cells slots) (hx : p.tables.exec = Jvm.exec) {x y z : Int32} (hd : decode c.code pc = .ok (.idiv, 1)) (hp : pc + 1 = pc') (hy : y ≠ 0) (hz : x / y = z) (H : Go p e below s k n Q T (mkF m pc' Ls (.int z :: st))) : Go p e below s k n Q T (mkF m pc Ls (.int y :: .int x :: st)) := by
  subst hp hz
  exact H.via fun t q => XS.idiv X.here hx rfl hd rfl hy q
theorem g_irem (pc' : Nat) (X : Stand p l e R s m args below meth c T locs cells slots) (hx : p.tables.exec = Jvm.exec) {x y z : Int32} (hd : decode c.code pc = .ok (.irem, 1)) (hp : pc + 1 = pc') (hy : y ≠ 0) (hz : x % y = z) (H : Go p e below s k n Q T (mkF m pc' Ls (.int z :: st))) : Go p e below s k n Q T (mkF m pc Ls (.int y :: .int x :: st)) := by
  subst hp hz
  exact H.via fun t q => iremM X hx rfl hd rfl hy q
theorem g_ldiv (pc' : Nat) (X : Stand p l e R s m args below meth c T locs cells slots) (hx : p.tables.exec = Jvm.exec) {x y z : Int64} (hd : decode c.code pc = .ok (.ldiv, 1)) (hp : pc + 1 = pc') (hy : y ≠ 0) (hz : x / y = z) (H : Go p e below s k n Q T (mkF m pc' Ls (.long z :: st))) : Go p e below s k n Q T (mkF m pc Ls (.long y :: .long x :: st)) := by
  subst hp hz
  exact H.via fun t q => XS.ldiv X.here hx rfl hd rfl hy q
theorem g_lrem (pc' : Nat) (X : Stand p l e R s m args below meth c T locs cells slots) (hx : p.tables.exec = Jvm.exec) {x y z : Int64} (hd : decode c.code pc = .ok (.lrem, 1)) (hp : pc + 1 = pc') (hy : y ≠ 0) (hz : x % y = z) (H : Go p e below s k n Q T (mkF m pc' Ls (.long z :: st))) : Go p e below s k n Q T (mkF m pc Ls (.long y :: .long x :: st)) := by
  subst hp hz
  exact H.via fun t q => XS.lrem X.here hx rfl hd rfl hy (by rw [lrem_mod]; exact q)
theorem g_ineg (pc' : Nat) (X : Stand p l e R s m args below meth c T locs cells slots) (hx : p.tables.exec = Jvm.exec) {x : Int32} {z : Int32} (hd : decode c.code pc = .ok (.ineg, 1)) (hp : pc + 1 = pc') (hz : -x = z) (H : Go p e below s k n Q T (mkF m pc' Ls (.int z :: st))) : Go p e below s k n Q T (mkF m pc Ls (.int x :: st)) := by
  subst hp hz
  exact H.via fun t q => XS.ineg X.here hx rfl hd rfl q
theorem g_lneg (pc' : Nat) (X : Stand p l e R s m args below meth c T locs cells slots) (hx : p.tables.exec = Jvm.exec) {x : Int64} {z : Int64} (hd : decode c.code pc = .ok (.lneg, 1)) (hp : pc + 1 = pc') (hz : -x = z) (H : Go p e below s k n Q T (mkF m pc' Ls (.long z :: st))) : Go p e below s k n Q T (mkF m pc Ls (.long x :: st)) := by
  subst hp hz
  exact H.via fun t q => XS.lneg X.here hx rfl hd rfl q
theorem g_i2l (pc' : Nat) (X : Stand p l e R s m args below meth c T locs cells slots) (hx : p.tables.exec = Jvm.exec) {x : Int32} {z : Int64} (hd : decode c.code pc = .ok (.i2l, 1)) (hp : pc + 1 = pc') (hz : x.toInt64 = z) (H : Go p e below s k n Q T (mkF m pc' Ls (.long z :: st))) : Go p e below s k n Q T (mkF m pc Ls (.int x :: st)) := by
  subst hp hz
  exact H.via fun t q => XS.i2l X.here hx rfl hd rfl q
theorem g_l2i (pc' : Nat) (X : Stand p l e R s m args below meth c T locs cells slots) (hx : p.tables.exec = Jvm.exec) {x : Int64} {z : Int32} (hd : decode c.code pc = .ok (.l2i, 1)) (hp : pc + 1 = pc') (hz : x.toInt32 = z) (H : Go p e below s k n Q T (mkF m pc' Ls (.int z :: st))) : Go p e below s k n Q T (mkF m pc Ls (.long x :: st)) := by
  subst hp hz
  exact H.via fun t q => XS.l2i X.here hx rfl hd rfl q
theorem g_i2b (pc' : Nat) (X : Stand p l e R s m args below meth c T locs cells slots) (hx : p.tables.exec = Jvm.exec) {x : Int32} {z : Int32} (hd : decode c.code pc = .ok (.i2b, 1)) (hp : pc + 1 = pc') (hz : x.toInt8.toInt32 = z) (H : Go p e below s k n Q T (mkF m pc' Ls (.int z :: st))) : Go p e below s k n Q T (mkF m pc Ls (.int x :: st)) := by
  subst hp hz
  exact H.via fun t q => XS.i2b X.here hx rfl hd rfl q
theorem g_i2s (pc' : Nat) (X : Stand p l e R s m args below meth c T locs cells slots) (hx : p.tables.exec = Jvm.exec) {x : Int32} {z : Int32} (hd : decode c.code pc = .ok (.i2s, 1)) (hp : pc + 1 = pc') (hz : x.toInt16.toInt32 = z) (H : Go p e below s k n Q T (mkF m pc' Ls (.int z :: st))) : Go p e below s k n Q T (mkF m pc Ls (.int x :: st)) := by
  subst hp hz
  exact H.via fun t q => XS.i2s X.here hx rfl hd rfl q
theorem g_i2c (pc' : Nat) (X : Stand p l e R s m args below meth c T locs cells slots) (hx : p.tables.exec = Jvm.exec) {x : Int32} {z : Int32} (hd : decode c.code pc = .ok (.i2c, 1)) (hp : pc + 1 = pc') (hz : x.toUInt32.toUInt16.toUInt32.toInt32 = z) (H : Go p e below s k n Q T (mkF m pc' Ls (.int z :: st))) : Go p e below s k n Q T (mkF m pc Ls (.int x :: st)) := by
  subst hp hz
  exact H.via fun t q => XS.i2c X.here hx rfl hd rfl q
theorem g_dup (pc' : Nat) (X : Stand p l e R s m args below meth c T locs cells slots) (hx : p.tables.exec = Jvm.exec) {v : Value} (hd : decode c.code pc = .ok (.dup, 1)) (hp : pc + 1 = pc') (hv : v.category = 1) (H : Go p e below s k n Q T (mkF m pc' Ls (v :: v :: st))) : Go p e below s k n Q T (mkF m pc Ls (v :: st)) := by
  subst hp
  exact H.via fun t q => XS.dup X.here hx rfl hd rfl hv q
theorem g_pop (pc' : Nat) (X : Stand p l e R s m args below meth c T locs cells slots) (hx : p.tables.exec = Jvm.exec) {v : Value} (hd : decode c.code pc = .ok (.pop, 1)) (hp : pc + 1 = pc') (hv : v.category = 1) (H : Go p e below s k n Q T (mkF m pc' Ls st)) : Go p e below s k n Q T (mkF m pc Ls (v :: st)) := by
  subst hp
  exact H.via fun t q => XS.pop X.here hx rfl hd rfl hv q
theorem g_dup_x1 (pc' : Nat) (X : Stand p l e R s m args below meth c T locs cells slots) (hx : p.tables.exec = Jvm.exec) {v w : Value} (hd : decode c.code pc = .ok (.dup_x1, 1)) (hp : pc + 1 = pc') (hv : v.category = 1) (hw : w.category = 1) (H : Go p e below s k n Q T (mkF m pc' Ls (v :: w :: v :: st))) : Go p e below s k n Q T (mkF m pc Ls (v :: w :: st)) := by
  subst hp
  exact H.via fun t q => XS.dupX1 X.here hx rfl hd rfl hv hw q
theorem g_dup2 (pc' : Nat) (X : Stand p l e R s m args below meth c T locs cells slots) (hx : p.tables.exec = Jvm.exec) {v w : Value} (hd : decode c.code pc = .ok (.dup2, 1)) (hp : pc + 1 = pc') (hv : v.category = 1) (hw : w.category = 1) (H : Go p e below s k n Q T (mkF m pc' Ls (v :: w :: v :: w :: st))) : Go p e below s k n Q T (mkF m pc Ls (v :: w :: st)) := by
  subst hp
  exact H.via fun t q => XT.dup2 X.here hx rfl hd rfl hv hw q
theorem g_iinc (pc' : Nat) (X : Stand p l e R s m args below meth c T locs cells slots) (hx : p.tables.exec = Jvm.exec) {i : Nat} {cst : Int} {x z : Int32} {Ls' : Array Slot} (hd : decode c.code pc = .ok (.iinc i cst, 3)) (hp : pc + 3 = pc') (hl : Ls[i]? = some (.val (.int x))) (hz : x + Int32.ofInt cst = z) (hl' : storeLocals Ls i (.int z) = some Ls') (H : Go p e below s k n Q T (mkF m pc' Ls' st)) : Go p e below s k n Q T (mkF m pc Ls st) := by
  subst hp hz
  exact H.via fun t q => XS.iinc X.here hx rfl hd hl hl' q
theorem g_goto (pc' : Nat) (X : Stand p l e R s m args below meth c T locs cells slots) (hx : p.tables.exec = Jvm.exec) {o : Int} (hd : decode c.code pc = .ok (.goto o, 3)) (ho : 0 ≤ (pc : Int) + o) (hp : ((pc : Int) + o).toNat = pc') (H : Go p e below s k n Q T (mkF m pc' Ls st)) : Go p e below s k n Q T (mkF m pc Ls st) :=
  H.via fun t q => XS.goto X.here hx rfl rfl hd ho hp q
theorem g_ifYes (pc' : Nat) (X : Stand p l e R s m args below meth c T locs cells slots) (hx : p.tables.exec = Jvm.exec) {cd : ClassFile.Cond} {x : Int32} {o : Int} (hd : decode c.code pc = .ok (.ifCond cd o, 3)) (hc : ifCond.holds cd x = true) (ho : 0 ≤ (pc : Int) + o) (hp : ((pc : Int) + o).toNat = pc') (H : Go p e below s k n Q T (mkF m pc' Ls st)) : Go p e below s k n Q T (mkF m pc Ls (.int x :: st)) :=
  H.via fun t q => XS.ifYes X.here hx rfl rfl hd rfl hc ho hp q
theorem g_ifNo (pc' : Nat) (X : Stand p l e R s m args below meth c T locs cells slots) (hx : p.tables.exec = Jvm.exec) {cd : ClassFile.Cond} {x : Int32} {o : Int} (hd : decode c.code pc = .ok (.ifCond cd o, 3)) (hc : ifCond.holds cd x = false) (hp : pc + 3 = pc') (H : Go p e below s k n Q T (mkF m pc' Ls st)) : Go p e below s k n Q T (mkF m pc Ls (.int x :: st)) := by
  subst hp
  exact H.via fun t q => XS.ifNo X.here hx rfl hd rfl hc q
theorem g_icmpYes (pc' : Nat) (X : Stand p l e R s m args below meth c T locs cells slots) (hx : p.tables.exec = Jvm.exec) {cd : ClassFile.Cond} {x y : Int32} {o : Int} (hd : decode c.code pc = .ok (.if_icmp cd o, 3)) (hc : if_icmp.holds cd x y = true) (ho : 0 ≤ (pc : Int) + o) (hp : ((pc : Int) + o).toNat = pc') (H : Go p e below s k n Q T (mkF m pc' Ls st)) : Go p e below s k n Q T (mkF m pc Ls (.int y :: .int x :: st)) :=
  H.via fun t q => XS.icmpYes X.here hx rfl rfl hd rfl hc ho hp q
theorem g_icmpNo (pc' : Nat) (X : Stand p l e R s m args below meth c T locs cells slots) (hx : p.tables.exec = Jvm.exec) {cd : ClassFile.Cond} {x y : Int32} {o : Int} (hd : decode c.code pc = .ok (.if_icmp cd o, 3)) (hc : if_icmp.holds cd x y = false) (hp : pc + 3 = pc') (H : Go p e below s k n Q T (mkF m pc' Ls st)) : Go p e below s k n Q T (mkF m pc Ls (.int y :: .int x :: st)) := by
  subst hp
  exact H.via fun t q => XS.icmpNo X.here hx rfl hd rfl hc q
theorem g_lcmpYes (pc' : Nat) (X : Stand p l e R s m args below meth c T locs cells slots) (hx : p.tables.exec = Jvm.exec) {cd : ClassFile.Cond} {x y : Int64} {o : Int} {pc1 : Nat} (hd : decode c.code pc = .ok (.lcmp, 1)) (hp1 : pc + 1 = pc1) (hd' : decode c.code pc1 = .ok (.ifCond cd o, 3)) (hc : ifCond.holds cd (lcmpW x y) = true) (ho : 0 ≤ (pc1 : Int) + o) (hp : ((pc1 : Int) + o).toNat = pc') (H : Go p e below s k n Q T (mkF m pc' Ls st)) : Go p e below s k n Q T (mkF m pc Ls (.long y :: .long x :: st)) := by
  subst hp1
  exact H.via fun t q => XS.lcmp X.here hx rfl hd rfl (XS.ifYes X.here hx rfl rfl hd' rfl hc ho hp q)
theorem g_lcmpNo (pc' : Nat) (X : Stand p l e R s m args below meth c T locs cells slots) (hx : p.tables.exec = Jvm.exec) {cd : ClassFile.Cond} {x y : Int64} {o : Int} {pc1 : Nat} (hd : decode c.code pc = .ok (.lcmp, 1)) (hp1 : pc + 1 = pc1) (hd' : decode c.code pc1 = .ok (.ifCond cd o, 3)) (hc : ifCond.holds cd (lcmpW x y) = false) (hp : pc1 + 3 = pc') (H : Go p e below s k n Q T (mkF m pc' Ls st)) : Go p e below s k n Q T (mkF m pc Ls (.long y :: .long x :: st)) := by
  subst hp1; subst hp
  exact H.via fun t q => XS.lcmp X.here hx rfl hd rfl (XS.ifNo X.here hx rfl hd' rfl hc q)
theorem g_ifnullYes (pc' : Nat) (X : Stand p l e R s m args below meth c T locs cells slots) (hx : p.tables.exec = Jvm.exec) {b : Addr} {o : Int} (hd : decode c.code pc = .ok (.ifnull o, 3)) (ho : 0 ≤ (pc : Int) + o) (hp : ((pc : Int) + o).toNat = pc') (H : Go p e below s k n Q T (mkF m pc' Ls st)) : Go p e below s k n Q T (mkF m pc Ls (.null :: st)) :=
  H.via fun t q => XS.ifnullYes X.here hx rfl rfl hd rfl ho hp q
theorem g_ifnullNo (pc' : Nat) (X : Stand p l e R s m args below meth c T locs cells slots) (hx : p.tables.exec = Jvm.exec) {b : Addr} {o : Int} (hd : decode c.code pc = .ok (.ifnull o, 3)) (hp : pc + 3 = pc') (H : Go p e below s k n Q T (mkF m pc' Ls st)) : Go p e below s k n Q T (mkF m pc Ls (.ref b :: st)) := by
  subst hp
  exact H.via fun t q => XS.ifnullNo X.here hx rfl hd rfl q
theorem g_ifnonnullYes (pc' : Nat) (X : Stand p l e R s m args below meth c T locs cells slots) (hx : p.tables.exec = Jvm.exec) {b : Addr} {o : Int} (hd : decode c.code pc = .ok (.ifnonnull o, 3)) (ho : 0 ≤ (pc : Int) + o) (hp : ((pc : Int) + o).toNat = pc') (H : Go p e below s k n Q T (mkF m pc' Ls st)) : Go p e below s k n Q T (mkF m pc Ls (.ref b :: st)) :=
  H.via fun t q => XS.ifnonnullYes X.here hx rfl rfl hd rfl ho hp q
theorem g_ifnonnullNo (pc' : Nat) (X : Stand p l e R s m args below meth c T locs cells slots) (hx : p.tables.exec = Jvm.exec) {b : Addr} {o : Int} (hd : decode c.code pc = .ok (.ifnonnull o, 3)) (hp : pc + 3 = pc') (H : Go p e below s k n Q T (mkF m pc' Ls st)) : Go p e below s k n Q T (mkF m pc Ls (.null :: st)) := by
  subst hp
  exact H.via fun t q => XS.ifnonnullNo X.here hx rfl hd rfl q
theorem g_ldc (pc' : Nat) (X : Stand p l e R s m args below meth c T locs cells slots) (hx : p.tables.exec = Jvm.exec) (hZ : Z.Warmed39 s.vm) {own : String} {index : Nat} {z : Int32} (hown : s.vm.findClass own = some m.cls) (w : (Cond.constant own index z).before a0 Z = true) (hd : decode c.code pc = .ok (.ldc index, 2)) (hp : pc + 2 = pc') (H : Go p e below s k n Q T (mkF m pc' Ls (.int z :: st))) : Go p e below s k n Q T (mkF m pc Ls st) := by
  subst hp
  exact H.via fun t q => X.ldcInt hx hown (mvT hZ w) (g := mkF m pc Ls st) rfl hd t q
theorem g_ldc2 (pc' : Nat) (X : Stand p l e R s m args below meth c T locs cells slots) (hx : p.tables.exec = Jvm.exec) (hZ : Z.Warmed39 s.vm) {own : String} {index : Nat} {z : Int64} (hown : s.vm.findClass own = some m.cls) (w : (Cond.constantLong own index z).before a0 Z = true) (hd : decode c.code pc = .ok (.ldc2_w index, 3)) (hp : pc + 3 = pc') (H : Go p e below s k n Q T (mkF m pc' Ls (.long z :: st))) : Go p e below s k n Q T (mkF m pc Ls st) := by
  subst hp
  exact H.via fun t q => X.ldc2Long hx hown (mvT hZ w) (g := mkF m pc Ls st) rfl hd t q
theorem g_retI (X : Stand p l e R s m args below meth c T locs cells slots) (hx : p.tables.exec = Jvm.exec) (hret : meth.sig.returnType = some .int) (hlk : meth.locks = false) {z : Int32} (hd : decode c.code pc = .ok (.ireturn, 1)) (hk : cells ≤ k) (hn : slots ≤ n) (hQ : Q (some (.int z)) T.heap locs) : Go p e below s k n Q T (mkF m pc Ls (.int z :: st)) := by
  obtain ⟨fs, hr, hrun, hended, hW, hsame⟩ := X.leave (v := some (.int z)) (fun q => by rw [hret] at q; cases q) hlk
  exact ⟨_, _, retOut X hx hret rfl (Or.inl ⟨rfl, Or.inl rfl, z, rfl⟩) hd hr, hrun, hended, _, _, rfl, hQ, ⟨_, rfl⟩, hW, hsame.mono hk hn⟩
theorem g_retJ (X : Stand p l e R s m args below meth c T locs cells slots) (hx : p.tables.exec = Jvm.exec) (hret : meth.sig.returnType = some .long) (hlk : meth.locks = false) {z : Int64} (hd : decode c.code pc = .ok (.lreturn, 1)) (hk : cells ≤ k) (hn : slots ≤ n) (hQ : Q (some (.long z)) T.heap locs) : Go p e below s k n Q T (mkF m pc Ls (.long z :: st)) := by
  obtain ⟨fs, hr, hrun, hended, hW, hsame⟩ := X.leave (v := some (.long z)) (fun q => by rw [hret] at q; cases q) hlk
  exact ⟨_, _, retOut X hx hret rfl (Or.inr (Or.inl ⟨rfl, rfl, z, rfl⟩)) hd hr, hrun, hended, _, _, rfl, hQ, ⟨_, rfl⟩, hW, hsame.mono hk hn⟩
theorem g_retA {ty : FieldType} (X : Stand p l e R s m args below meth c T locs cells slots) (hx : p.tables.exec = Jvm.exec) (hret : meth.sig.returnType = some ty) (hlk : meth.locks = false) {v : Value} (hty : ty.isReference = true) (hv : v.isRef = true) (hnv : narrow ty v = v) (hd : decode c.code pc = .ok (.areturn, 1)) (hk : cells ≤ k) (hn : slots ≤ n) (hQ : Q (some v) T.heap locs) : Go p e below s k n Q T (mkF m pc Ls (v :: st)) := by
  obtain ⟨fs, hr, hrun, hended, hW, hsame⟩ := X.leave (v := some v) (fun q => by rw [hret] at q; cases q) hlk
  exact ⟨_, _, retOut X hx hret hnv (Or.inr (Or.inr (Or.inr (Or.inr ⟨rfl, hty, hv⟩)))) hd hr, hrun, hended, _, _, rfl, hQ, ⟨_, rfl⟩, hW, hsame.mono hk hn⟩
theorem g_ret0 (X : Stand p l e R s m args below meth c T locs cells slots) (hx : p.tables.exec = Jvm.exec) (hret : meth.sig.returnType = none) (hlk : meth.locks = false) (hd : decode c.code pc = .ok (.return_, 1)) (hk : cells ≤ k) (hn : slots ≤ n) (hQ : Q (none) T.heap locs) : Go p e below s k n Q T (mkF m pc Ls []) := by
  obtain ⟨fs, hr, hrun, hended, hW, hsame⟩ := X.leave (v := none) (fun _ => rfl) hlk
  exact ⟨_, _, X.returnOut hx hret hd hr, hrun, hended, _, _, rfl, hQ, ⟨_, rfl⟩, hW, hsame.mono hk hn⟩
theorem g_retN (X : Stand p l e R s m args below meth c T locs cells slots) (hx : p.tables.exec = Jvm.exec) {t : FieldType} (hret : meth.sig.returnType = some t) (hlk : meth.locks = false) {z z' : Int32} (ht : t = .boolean ∨ t = .byte ∨ t = .char ∨ t = .short) (hz : nar t z = z') (hd : decode c.code pc = .ok (.ireturn, 1)) (hk : cells ≤ k) (hn : slots ≤ n) (hQ : Q (some (.int z')) T.heap locs) : Go p e below s k n Q T (mkF m pc Ls (.int z :: st)) := by
  subst hz
  obtain ⟨fs, hr, hrun, hended, hW, hsame⟩ := X.leave (v := some (.int (nar t z))) (fun q => by rw [hret] at q; cases q) hlk
  exact ⟨_, _, retN X hx hret ht hd hr, hrun, hended, _, _, rfl, hQ, ⟨_, rfl⟩, hW, hsame.mono hk hn⟩
theorem g_getF (pc' : Nat) (X : Stand p l e R s m args below meth c T locs cells slots) (hx : p.tables.exec = Jvm.exec) (hZ : Z.Warmed39 s.vm) {own R0 O nm d : String} {index : Nat} (hown : s.vm.findClass own = some m.cls) (w : (Cond.fieldLink own index R0 nm d).before a0 Z = true) (via : Via Z R0 O nm d) (eT : T.heap = h) {a : Addr} {v : Value} (F : Fld Z h a O nm d v) (hd : decode c.code pc = .ok (.getfield index, 3)) (hp : pc + 3 = pc') (H : ∀ T', Stand p l e R s m args below meth c T' locs cells slots → T'.heap = h → Go p e below s k n Q T' (mkF m pc' Ls (v :: st))) : Go p e below s k n Q T (mkF m pc Ls (.ref a :: st)) := by
  subst hp
  obtain ⟨T', X', e', q⟩ := getF X hx hZ hown (host := "") (Or.inl w) via eT F (g := mkF m pc Ls (.ref a :: st)) rfl rfl hd
  exact (H T' X' e').via q
theorem g_putF (pc' : Nat) (X : Stand p l e R s m args below meth c T locs cells slots) (hx : p.tables.exec = Jvm.exec) (hZ : Z.Warmed39 s.vm) {own R0 O nm d C : String} {index kk : Nat} {ty : FieldType} (hown : s.vm.findClass own = some m.cls) (w : (Cond.fieldLink own index R0 nm d).before a0 Z = true) (via : Via Z R0 O nm d) (eT : T.heap = h) {a : Addr} {v old : Value} (F : Fld Z h a O nm d old) (E : Exa Z h a C) (L : (Cond.lays C O nm d).before a0 Z = true ∨ ((Cond.laysFinal C O nm d).before a0 Z = true ∧ own = O ∧ meth.name = "<init>")) (wi : (Cond.instantiable C kk).before a0 Z = true) (hty : parseFieldDescriptor d = some ty) (hn : narrow ty v = v) (hf : fits ty v = true) (hd : decode c.code pc = .ok (.putfield index, 3)) (hp : pc + 3 = pc') (H : ∀ T' h', Stand p l e R s m args below meth c T' (locs ++ [⟨a, Jvm.RoadKit.slotOf Z O nm d⟩]) cells slots → T'.heap = h' → Wr h h' a (Jvm.RoadKit.slotOf Z O nm d) v → Go p e below s k n Q T' (mkF m pc' Ls st)) : Go p e below s k n Q T (mkF m pc Ls (v :: .ref a :: st)) := by
  subst hp
  obtain ⟨T', h', X', e', W, q⟩ := putF X hx hZ hown (host := "") (Or.inl w) via eT F E L wi hty hn hf (g := mkF m pc Ls (v :: .ref a :: st)) rfl rfl hd
  exact (H T' h' X' e' W).via q
theorem g_newO (pc' : Nat) (X : Stand p l e R s m args below meth c T locs cells slots) (hx : p.tables.exec = Jvm.exec) (hZ : Z.Warmed39 s.vm) {own C : String} {index nn : Nat} (hown : s.vm.findClass own = some m.cls) (w : (Cond.classLink own index C).before a0 Z = true) (wi : (Cond.instantiable C nn).before a0 Z = true) (wz : (Cond.initialized C).before a0 Z = true) (eT : T.heap = h) (hd : decode c.code pc = .ok (.new index, 3)) (hc : cells + 1 ≤ R.cells) (hl : slots + nn ≤ R.slots) (hp : pc + 3 = pc') (H : ∀ T' h' b, Stand p l e R s m args below meth c T' locs (cells + 1) (slots + nn) → T'.heap = h' → Ext h h' → b = h.size → Exa Z h' b C → (∀ {O nm d : String} {ty : FieldType}, Laid Z a0 C O nm d → parseFieldDescriptor d = some ty → Fld Z h' b O nm d (defaultValue ty)) → Go p e below s k n Q T' (mkF m pc' Ls (.ref b :: st))) : Go p e below s k n Q T (mkF m pc Ls st) := by
  subst hp
  obtain ⟨T', h', X', e', E, A, D, -, q⟩ := newO X hx hZ hown w wi wz eT (g := mkF m pc Ls st) rfl hd hc hl
  exact (H T' h' _ X' e' E rfl A D).via q
theorem g_initO (pc' : Nat) (X : Stand p l e R s m args below meth c T locs cells slots) (hx : p.tables.exec = Jvm.exec) (hZ : Z.Warmed39 s.vm) {own : String} {idx : Nat} (hown : s.vm.findClass own = some m.cls) (w1 : (Cond.methodLink own idx Lib.objectInit).before a0 Z = true) (w2 : (Cond.instanceMethod Lib.objectInit).before a0 Z = true) (w3 : (Cond.code Lib.objectInit ⟨#[0xb1]⟩ 1 none).before a0 Z = true) (eT : T.heap = h) (hsize : Ls.size = c.maxLocals) {a : Addr} (hd : decode c.code pc = .ok (.invokespecial idx, 3)) (hf : 1 ≤ R.frames) (W : Nat) (hW : (st.map fun v => v.category).sum ≤ W) (hl : W + 12 ≤ R.locals) (hp : pc + 3 = pc') (H : ∀ T', Stand p l e R s m args below meth c T' locs cells slots → T'.heap = h → Go p e below s k n Q T' (mkF m pc' Ls st)) : Go p e below s k n Q T (mkF m pc Ls (.ref a :: st)) := by
  subst hp
  obtain ⟨T', X', e', q⟩ := initO X hx hZ hown w1 w2 w3 eT (g := mkF m pc Ls (.ref a :: st)) rfl hsize rfl hd hf (W := W) (by show 2 * 0 + _ ≤ _; omega) hl
  exact (H T' X' e').via q
theorem g_callS (pc' : Nat) (X : Stand p l e R s m args below meth c T locs cells slots) (hx : p.tables.exec = Jvm.exec) (hZ : Z.Warmed39 s.vm) {own : String} {index : Nat} {y : MethodName} {bytes : ByteArray} {maxL : Nat} {ret : Option FieldType} {rm : Room} {as' : Array Value} {Qc : Option Value → Heap → List Loc → Prop} (hown : s.vm.findClass own = some m.cls) (w1 : (Cond.methodLink own index y).before a0 Z = true) (w2 : (Cond.static y).before a0 Z = true) (w3 : (Cond.initialized y.cls).before a0 Z = true) (w4 : (Cond.code y bytes maxL ret).before a0 Z = true) (hy : y.cls ≠ "java/lang/invoke/MethodHandle" ∧ y.cls ≠ "java/lang/invoke/VarHandle") (eT : T.heap = h) (hM : MetFree l y (head1 [Cond.code y bytes maxL ret] rm) (fun a U => a = as' ∧ Z.Warmed39 U.vm ∧ U.heap = h) (fun _ _ _ _ _ => True) (fun _ U o U' => ∃ v L, o = .returned v ∧ Qc v U'.heap L ∧ FrameEnd U o U' L rm.cells rm.slots)) (hsize : Ls.size = c.maxLocals) (argsL rest : List Value) (ha : argsL.toArray = as') (hst : st = argsL.reverse ++ rest) (hlen : ∀ sig, parseMethodDescriptor y.desc = some sig → argsL.length = sig.parameters.length) (W : Nat) (hW : (rest.map fun v => v.category).sum ≤ W) (hd : decode c.code pc = .ok (.invokestatic index, 3)) (hfr : rm.frames + 1 ≤ R.frames) (hlo : W + (maxL + 11) + rm.locals ≤ R.locals) (hce : cells + rm.cells ≤ R.cells) (hsl : slots + rm.slots ≤ R.slots) (hp : pc + 3 = pc') (H : ∀ v T' L, Stand p l e R s m args below meth c T' (locs ++ L) (cells + rm.cells) (slots + rm.slots) → Qc v T'.heap L → Go p e below s k n Q T' (mkF m pc' Ls (v.toList ++ rest))) : Go p e below s k n Q T (mkF m pc Ls st) := by
  subst hp hst
  obtain ⟨v, _, ⟨T', L, k', n'⟩, -, X', ⟨Lc, hQ, l1, l2, l3⟩, q⟩ := Jvm.LawKit.callS X hx (y := y) hown (mvT hZ w1) (mvT hZ w2) (mvT hZ w3) (mvT hZ w4) hy (backOf (W := W) hM hZ w4 w3 hfr hlo) (g := mkF m pc Ls (argsL.reverse ++ rest)) rfl hsize (argsL := argsL) (rest := rest) hlen rfl (by show 2 * 0 + _ ≤ _; omega) hd (fun _ _ => ⟨ha, eT, hce, hsl⟩)
  dsimp only [Pt.U, Pt.locs, Pt.cells, Pt.slots] at X' l1 l2 l3 q hQ
  subst l1 l2 l3
  exact (H v T' Lc X' hQ).via q
theorem g_callI (pc' : Nat) (X : Stand p l e R s m args below meth c T locs cells slots) (hx : p.tables.exec = Jvm.exec) (hZ : Z.Warmed39 s.vm) {own : String} {index : Nat} {y : MethodName} {bytes : ByteArray} {maxL : Nat} {rm : Room} {as' : Array Value} {Qc : Option Value → Heap → List Loc → Prop} (hy1 : y.name = "<init>") (hown : s.vm.findClass own = some m.cls) (w1 : (Cond.methodLink own index y).before a0 Z = true) (w2 : (Cond.instanceMethod y).before a0 Z = true) (w3 : (Cond.initialized y.cls).before a0 Z = true) (w4 : (Cond.code y bytes maxL none).before a0 Z = true) (hy : y.cls ≠ "java/lang/invoke/MethodHandle" ∧ y.cls ≠ "java/lang/invoke/VarHandle") (eT : T.heap = h) (hM : MetFree l y (head1 [Cond.code y bytes maxL none] rm) (fun a U => a = as' ∧ Z.Warmed39 U.vm ∧ U.heap = h) (fun _ _ _ _ _ => True) (fun _ U o U' => ∃ v L, o = .returned v ∧ Qc v U'.heap L ∧ FrameEnd U o U' L rm.cells rm.slots)) (hsize : Ls.size = c.maxLocals) (a : Addr) (argsL rest : List Value) (ha : (.ref a :: argsL).toArray = as') (hst : st = argsL.reverse ++ .ref a :: rest) (hlen : ∀ sig, parseMethodDescriptor y.desc = some sig → argsL.length = sig.parameters.length) (W : Nat) (hW : (rest.map fun v => v.category).sum ≤ W) (hd : decode c.code pc = .ok (.invokespecial index, 3)) (hfr : rm.frames + 1 ≤ R.frames) (hlo : W + (maxL + 11) + rm.locals ≤ R.locals) (hce : cells + rm.cells ≤ R.cells) (hsl : slots + rm.slots ≤ R.slots) (hp : pc + 3 = pc') (H : ∀ v T' L, Stand p l e R s m args below meth c T' (locs ++ L) (cells + rm.cells) (slots + rm.slots) → Qc v T'.heap L → Go p e below s k n Q T' (mkF m pc' Ls (v.toList ++ rest))) : Go p e below s k n Q T (mkF m pc Ls st) := by
  subst hp hst
  obtain ⟨v, _, ⟨T', L, k', n'⟩, -, X', ⟨Lc, hQ, l1, l2, l3⟩, q⟩ := X.specialBack hx (y := y) hy1 hown (mvT hZ w1) (mvT hZ w2) (mvT hZ w4) hy (backOf (W := W) hM hZ w4 w3 hfr hlo) (g := mkF m pc Ls (argsL.reverse ++ .ref a :: rest)) rfl hsize (Steps.refl _) (a := a) (argsL := argsL) (rest := rest) hlen rfl (by show 2 * 0 + _ ≤ _; omega) hd (fun _ _ => ⟨ha, eT, hce, hsl⟩)
  dsimp only [Pt.U, Pt.locs, Pt.cells, Pt.slots] at X' l1 l2 l3 q hQ
  subst l1 l2 l3
  exact (H v T' Lc X' hQ).via fun t r => q.trans r
theorem g_callV (pc' : Nat) (X : Stand p l e R s m args below meth c T locs cells slots) (hx : p.tables.exec = Jvm.exec) (hZ : Z.Warmed39 s.vm) {own : String} {index : Nat} {y : MethodName} {bytes : ByteArray} {maxL : Nat} {ret : Option FieldType} {rm : Room} {as' : Array Value} {Qc : Option Value → Heap → List Loc → Prop} (hown : s.vm.findClass own = some m.cls) (w1 : (Cond.methodLink own index y).before a0 Z = true) (w2 : (Cond.declares y).before a0 Z = true) (w5 : (Cond.selects y.cls y y).before a0 Z = true) (w6 : (Cond.instanceMethod y).before a0 Z = true) (w3 : (Cond.initialized y.cls).before a0 Z = true) (w4 : (Cond.code y bytes maxL ret).before a0 Z = true) (hy : y.cls ≠ "java/lang/invoke/MethodHandle" ∧ y.cls ≠ "java/lang/invoke/VarHandle") (eT : T.heap = h) {a : Addr} (E : Exa Z h a y.cls) (hM : MetFree l y (head1 [Cond.code y bytes maxL ret] rm) (fun a U => a = as' ∧ Z.Warmed39 U.vm ∧ U.heap = h) (fun _ _ _ _ _ => True) (fun _ U o U' => ∃ v L, o = .returned v ∧ Qc v U'.heap L ∧ FrameEnd U o U' L rm.cells rm.slots)) (hsize : Ls.size = c.maxLocals) (argsL rest : List Value) (ha : (.ref a :: argsL).toArray = as') (hst : st = argsL.reverse ++ .ref a :: rest) (hlen : ∀ sig, parseMethodDescriptor y.desc = some sig → argsL.length = sig.parameters.length) (W : Nat) (hW : (rest.map fun v => v.category).sum ≤ W) (hd : decode c.code pc = .ok (.invokevirtual index, 3)) (hfr : rm.frames + 1 ≤ R.frames) (hlo : W + (maxL + 11) + rm.locals ≤ R.locals) (hce : cells + rm.cells ≤ R.cells) (hsl : slots + rm.slots ≤ R.slots) (hp : pc + 3 = pc') (H : ∀ v T' L, Stand p l e R s m args below meth c T' (locs ++ L) (cells + rm.cells) (slots + rm.slots) → Qc v T'.heap L → Go p e below s k n Q T' (mkF m pc' Ls (v.toList ++ rest))) : Go p e below s k n Q T (mkF m pc Ls st) := by
  subst hp hst
  obtain ⟨cq, kq, qa, qb, qc⟩ := isOf hZ eT E
  obtain ⟨v, _, ⟨T', L, k', n'⟩, -, X', ⟨Lc, hQ, l1, l2, l3⟩, q⟩ := X.virtualBack hx (y := y) (z := y) hown (mvT hZ w1) (mvT hZ w2) (notFace_of_selects (args := #[]) (mvT hZ w5)) (mvT hZ w5) (mvT hZ w6) hy (backOf (W := W) hM hZ w4 w3 hfr hlo) qa qc (g := mkF m pc Ls (argsL.reverse ++ .ref a :: rest)) rfl hsize (Steps.refl _) (argsL := argsL) (rest := rest) hlen rfl (by show 2 * 0 + _ ≤ _; omega) hd (fun _ _ => ⟨ha, eT, hce, hsl⟩)
  dsimp only [Pt.U, Pt.locs, Pt.cells, Pt.slots] at X' l1 l2 l3 q hQ
  subst l1 l2 l3
  exact (H v T' Lc X' hQ).via fun t r => q.trans r
/-- an array of ints (bytes, chars, shorts, booleans) at a, whole -/
def AI (Z : State) (h : Heap) (a : Addr) (ty : FieldType) (bs : List Int32) : Prop := ∃ c : Cell, Arr Z h a c ty ∧ c.slots = (bs.map Value.int).toArray ∧ bs.length < 2 ^ 31
/-- an array of longs at a, whole -/
def AJ (Z : State) (h : Heap) (a : Addr) (bs : List Int64) : Prop := ∃ c : Cell, Arr Z h a c .long ∧ c.slots = (bs.map Value.long).toArray ∧ bs.length < 2 ^ 31
theorem AI.lt {a : Addr} {ty : FieldType} {bs : List Int32} (A : AI Z h a ty bs) : a < h.size := by obtain ⟨c, A, -⟩ := A; exact A.lt
theorem AI.ext {a : Addr} {ty : FieldType} {bs : List Int32} (A : AI Z h a ty bs) (E : Ext h h') : AI Z h' a ty bs := by obtain ⟨c, A, r⟩ := A; exact ⟨c, A.ext E, r⟩
theorem AI.other {a b : Addr} {ty : FieldType} {bs : List Int32} {sl : Nat} {v : Value} (A : AI Z h b ty bs) (W : Wr h h' a sl v) (q : b ≠ a) : AI Z h' b ty bs := by obtain ⟨c, A, r⟩ := A; exact ⟨c, A.other W q, r⟩
theorem AI.keep {a : Addr} {ty : FieldType} {bs : List Int32} {ws : List Addr} (A : AI Z h a ty bs) (K : Keep h h' ws) (q : a ∉ ws) : AI Z h' a ty bs := by obtain ⟨c, A, r⟩ := A; exact ⟨c, ⟨K.2.1 a c A.1 q, A.2⟩, r⟩
theorem AJ.lt {a : Addr} {bs : List Int64} (A : AJ Z h a bs) : a < h.size := by obtain ⟨c, A, -⟩ := A; exact A.lt
theorem AJ.ext {a : Addr} {bs : List Int64} (A : AJ Z h a bs) (E : Ext h h') : AJ Z h' a bs := by obtain ⟨c, A, r⟩ := A; exact ⟨c, A.ext E, r⟩
theorem AJ.other {a b : Addr} {bs : List Int64} {sl : Nat} {v : Value} (A : AJ Z h b bs) (W : Wr h h' a sl v) (q : b ≠ a) : AJ Z h' b bs := by obtain ⟨c, A, r⟩ := A; exact ⟨c, A.other W q, r⟩
theorem AJ.keep {a : Addr} {bs : List Int64} {ws : List Addr} (A : AJ Z h a bs) (K : Keep h h' ws) (q : a ∉ ws) : AJ Z h' a bs := by obtain ⟨c, A, r⟩ := A; exact ⟨c, ⟨K.2.1 a c A.1 q, A.2⟩, r⟩
theorem own_inI {a : Addr} {c : Cell} {bs : List Int32} {j : Int32} {i : Nat} (S : c.slots = (bs.map Value.int).toArray) (h0 : ¬ j < 0) (hj : j.toNatClampNeg = i) (hi : i < bs.length) : ¬ (j < 0 ∨ c.slots.size ≤ j.toNatClampNeg) := by
  rw [S]; simp [h0, hj]; omega
theorem own_inJ {a : Addr} {c : Cell} {bs : List Int64} {j : Int32} {i : Nat} (S : c.slots = (bs.map Value.long).toArray) (h0 : ¬ j < 0) (hj : j.toNatClampNeg = i) (hi : i < bs.length) : ¬ (j < 0 ∨ c.slots.size ≤ j.toNatClampNeg) := by
  rw [S]; simp [h0, hj]; omega
theorem own_setI {c : Cell} {bs : List Int32} {i : Nat} {x : Int32} (S : c.slots = (bs.map Value.int).toArray) : (c.setSlot i (.int x)).slots = ((bs.set i x).map Value.int).toArray := by
  simp [Cell.setSlot, S, List.map_set]
theorem own_setJ {c : Cell} {bs : List Int64} {i : Nat} {x : Int64} (S : c.slots = (bs.map Value.long).toArray) : (c.setSlot i (.long x)).slots = ((bs.set i x).map Value.long).toArray := by
  simp [Cell.setSlot, S, List.map_set]
theorem g_bastore (pc' : Nat) (X : Stand p l e R s m args below meth c T locs cells slots) (hx : p.tables.exec = Jvm.exec) (hZ : Z.Warmed39 s.vm) (eT : T.heap = h) {a : Addr} {bs : List Int32} (A : AI Z h a .byte bs) {j x : Int32} (i : Nat) (h0 : ¬ j < 0) (hj : j.toNatClampNeg = i) (hi : i < bs.length) {z : Int32} (hz : x.toInt8.toInt32 = z) (hd : decode c.code pc = .ok (.bastore, 1)) (hp : pc + 1 = pc') (H : ∀ T' h', Stand p l e R s m args below meth c T' (locs ++ [⟨a, i⟩]) cells slots → T'.heap = h' → Wr h h' a i (.int z) → AI Z h' a .byte (bs.set i z) → Go p e below s k n Q T' (mkF m pc' Ls st)) : Go p e below s k n Q T (mkF m pc Ls (.int x :: .int j :: .ref a :: st)) := by
  subst hp hz hj
  obtain ⟨cl, A, S, hl⟩ := A
  obtain ⟨T', h', X', e', W, q⟩ := stB X hx hZ eT A (own_inI (a := a) S h0 rfl hi) (g := mkF m pc Ls (.int x :: .int j :: .ref a :: st)) rfl rfl hd
  exact (H T' h' X' e' W ⟨_, A.same W, own_setI S, by simpa using hl⟩).via q
theorem g_iastore (pc' : Nat) (X : Stand p l e R s m args below meth c T locs cells slots) (hx : p.tables.exec = Jvm.exec) (hZ : Z.Warmed39 s.vm) (eT : T.heap = h) {a : Addr} {bs : List Int32} (A : AI Z h a .int bs) {j x : Int32} (i : Nat) (h0 : ¬ j < 0) (hj : j.toNatClampNeg = i) (hi : i < bs.length) {z : Int32} (hz : x = z) (hd : decode c.code pc = .ok (.iastore, 1)) (hp : pc + 1 = pc') (H : ∀ T' h', Stand p l e R s m args below meth c T' (locs ++ [⟨a, i⟩]) cells slots → T'.heap = h' → Wr h h' a i (.int z) → AI Z h' a .int (bs.set i z) → Go p e below s k n Q T' (mkF m pc' Ls st)) : Go p e below s k n Q T (mkF m pc Ls (.int x :: .int j :: .ref a :: st)) := by
  subst hp hz hj
  obtain ⟨cl, A, S, hl⟩ := A
  obtain ⟨T', h', X', e', W, q⟩ := stI X hx hZ eT A (own_inI (a := a) S h0 rfl hi) (g := mkF m pc Ls (.int x :: .int j :: .ref a :: st)) rfl rfl hd
  exact (H T' h' X' e' W ⟨_, A.same W, own_setI S, by simpa using hl⟩).via q
theorem g_castore (pc' : Nat) (X : Stand p l e R s m args below meth c T locs cells slots) (hx : p.tables.exec = Jvm.exec) (hZ : Z.Warmed39 s.vm) (eT : T.heap = h) {a : Addr} {bs : List Int32} (A : AI Z h a .char bs) {j x : Int32} (i : Nat) (h0 : ¬ j < 0) (hj : j.toNatClampNeg = i) (hi : i < bs.length) {z : Int32} (hz : x.toUInt32.toUInt16.toUInt32.toInt32 = z) (hd : decode c.code pc = .ok (.castore, 1)) (hp : pc + 1 = pc') (H : ∀ T' h', Stand p l e R s m args below meth c T' (locs ++ [⟨a, i⟩]) cells slots → T'.heap = h' → Wr h h' a i (.int z) → AI Z h' a .char (bs.set i z) → Go p e below s k n Q T' (mkF m pc' Ls st)) : Go p e below s k n Q T (mkF m pc Ls (.int x :: .int j :: .ref a :: st)) := by
  subst hp hz hj
  obtain ⟨cl, A, S, hl⟩ := A
  obtain ⟨T', h', X', e', W, q⟩ := stC X hx hZ eT A (own_inI (a := a) S h0 rfl hi) (g := mkF m pc Ls (.int x :: .int j :: .ref a :: st)) rfl rfl hd
  exact (H T' h' X' e' W ⟨_, A.same W, own_setI S, by simpa using hl⟩).via q
theorem g_sastore (pc' : Nat) (X : Stand p l e R s m args below meth c T locs cells slots) (hx : p.tables.exec = Jvm.exec) (hZ : Z.Warmed39 s.vm) (eT : T.heap = h) {a : Addr} {bs : List Int32} (A : AI Z h a .short bs) {j x : Int32} (i : Nat) (h0 : ¬ j < 0) (hj : j.toNatClampNeg = i) (hi : i < bs.length) {z : Int32} (hz : x.toInt16.toInt32 = z) (hd : decode c.code pc = .ok (.sastore, 1)) (hp : pc + 1 = pc') (H : ∀ T' h', Stand p l e R s m args below meth c T' (locs ++ [⟨a, i⟩]) cells slots → T'.heap = h' → Wr h h' a i (.int z) → AI Z h' a .short (bs.set i z) → Go p e below s k n Q T' (mkF m pc' Ls st)) : Go p e below s k n Q T (mkF m pc Ls (.int x :: .int j :: .ref a :: st)) := by
  subst hp hz hj
  obtain ⟨cl, A, S, hl⟩ := A
  obtain ⟨T', h', X', e', W, q⟩ := stS X hx hZ eT A (own_inI (a := a) S h0 rfl hi) (g := mkF m pc Ls (.int x :: .int j :: .ref a :: st)) rfl rfl hd
  exact (H T' h' X' e' W ⟨_, A.same W, own_setI S, by simpa using hl⟩).via q
theorem g_lastore (pc' : Nat) (X : Stand p l e R s m args below meth c T locs cells slots) (hx : p.tables.exec = Jvm.exec) (hZ : Z.Warmed39 s.vm) (eT : T.heap = h) {a : Addr} {bs : List Int64} (A : AJ Z h a bs) {j : Int32} {x : Int64} (i : Nat) (h0 : ¬ j < 0) (hj : j.toNatClampNeg = i) (hi : i < bs.length) (hd : decode c.code pc = .ok (.lastore, 1)) (hp : pc + 1 = pc') (H : ∀ T' h', Stand p l e R s m args below meth c T' (locs ++ [⟨a, i⟩]) cells slots → T'.heap = h' → Wr h h' a i (.long x) → AJ Z h' a (bs.set i x) → Go p e below s k n Q T' (mkF m pc' Ls st)) : Go p e below s k n Q T (mkF m pc Ls (.long x :: .int j :: .ref a :: st)) := by
  subst hp hj
  obtain ⟨cl, A, S, hl⟩ := A
  obtain ⟨T', h', X', e', W, q⟩ := stJ X hx hZ eT A (own_inJ (a := a) S h0 rfl hi) (g := mkF m pc Ls (.long x :: .int j :: .ref a :: st)) rfl rfl hd
  exact (H T' h' X' e' W ⟨_, A.same W, own_setJ S, by simpa using hl⟩).via q
theorem g_baload (pc' : Nat) (X : Stand p l e R s m args below meth c T locs cells slots) (hx : p.tables.exec = Jvm.exec) (hZ : Z.Warmed39 s.vm) (eT : T.heap = h) {a : Addr} {bs : List Int32} (A : AI Z h a .byte bs) {j z : Int32} (i : Nat) (h0 : ¬ j < 0) (hj : j.toNatClampNeg = i) (hv : bs[i]? = some z) (hd : decode c.code pc = .ok (.baload, 1)) (hp : pc + 1 = pc') (H : Go p e below s k n Q T (mkF m pc' Ls (.int z :: st))) : Go p e below s k n Q T (mkF m pc Ls (.int j :: .ref a :: st)) := by
  subst hp hj
  obtain ⟨cl, A, S, hl⟩ := A
  exact H.via fun t q => X.baloadBytes hx (by rw [eT]; exact A.1) (State.isArrayOf_alike hZ.alike A.2.1) A.2.2 (own_inI (a := a) S h0 rfl (List.getElem?_eq_some_iff.mp hv).1) (v := .int z) (by rw [S]; simp [hv]) (g := mkF m pc Ls (.int j :: .ref a :: st)) rfl rfl hd t q
theorem g_iaload (pc' : Nat) (X : Stand p l e R s m args below meth c T locs cells slots) (hx : p.tables.exec = Jvm.exec) (hZ : Z.Warmed39 s.vm) (eT : T.heap = h) {a : Addr} {bs : List Int32} (A : AI Z h a .int bs) {j z : Int32} (i : Nat) (h0 : ¬ j < 0) (hj : j.toNatClampNeg = i) (hv : bs[i]? = some z) (hd : decode c.code pc = .ok (.iaload, 1)) (hp : pc + 1 = pc') (H : Go p e below s k n Q T (mkF m pc' Ls (.int z :: st))) : Go p e below s k n Q T (mkF m pc Ls (.int j :: .ref a :: st)) := by
  subst hp hj
  obtain ⟨cl, A, S, hl⟩ := A
  exact H.via fun t q => X.iaload hx (by rw [eT]; exact A.1) (State.isArrayOf_alike hZ.alike A.2.1) A.2.2 (own_inI (a := a) S h0 rfl (List.getElem?_eq_some_iff.mp hv).1) (v := .int z) (by rw [S]; simp [hv]) (g := mkF m pc Ls (.int j :: .ref a :: st)) rfl rfl hd t q
theorem g_caload (pc' : Nat) (X : Stand p l e R s m args below meth c T locs cells slots) (hx : p.tables.exec = Jvm.exec) (hZ : Z.Warmed39 s.vm) (eT : T.heap = h) {a : Addr} {bs : List Int32} (A : AI Z h a .char bs) {j z : Int32} (i : Nat) (h0 : ¬ j < 0) (hj : j.toNatClampNeg = i) (hv : bs[i]? = some z) (hd : decode c.code pc = .ok (.caload, 1)) (hp : pc + 1 = pc') (H : Go p e below s k n Q T (mkF m pc' Ls (.int z :: st))) : Go p e below s k n Q T (mkF m pc Ls (.int j :: .ref a :: st)) := by
  subst hp hj
  obtain ⟨cl, A, S, hl⟩ := A
  exact H.via fun t q => X.caload hx (by rw [eT]; exact A.1) (State.isArrayOf_alike hZ.alike A.2.1) A.2.2 (own_inI (a := a) S h0 rfl (List.getElem?_eq_some_iff.mp hv).1) (v := .int z) (by rw [S]; simp [hv]) (g := mkF m pc Ls (.int j :: .ref a :: st)) rfl rfl hd t q
theorem g_saload (pc' : Nat) (X : Stand p l e R s m args below meth c T locs cells slots) (hx : p.tables.exec = Jvm.exec) (hZ : Z.Warmed39 s.vm) (eT : T.heap = h) {a : Addr} {bs : List Int32} (A : AI Z h a .short bs) {j z : Int32} (i : Nat) (h0 : ¬ j < 0) (hj : j.toNatClampNeg = i) (hv : bs[i]? = some z) (hd : decode c.code pc = .ok (.saload, 1)) (hp : pc + 1 = pc') (H : Go p e below s k n Q T (mkF m pc' Ls (.int z :: st))) : Go p e below s k n Q T (mkF m pc Ls (.int j :: .ref a :: st)) := by
  subst hp hj
  obtain ⟨cl, A, S, hl⟩ := A
  exact H.via fun t q => X.saload hx (by rw [eT]; exact A.1) (State.isArrayOf_alike hZ.alike A.2.1) A.2.2 (own_inI (a := a) S h0 rfl (List.getElem?_eq_some_iff.mp hv).1) (v := .int z) (by rw [S]; simp [hv]) (g := mkF m pc Ls (.int j :: .ref a :: st)) rfl rfl hd t q
theorem g_laload (pc' : Nat) (X : Stand p l e R s m args below meth c T locs cells slots) (hx : p.tables.exec = Jvm.exec) (hZ : Z.Warmed39 s.vm) (eT : T.heap = h) {a : Addr} {bs : List Int64} (A : AJ Z h a bs) {j : Int32} {z : Int64} (i : Nat) (h0 : ¬ j < 0) (hj : j.toNatClampNeg = i) (hv : bs[i]? = some z) (hd : decode c.code pc = .ok (.laload, 1)) (hp : pc + 1 = pc') (H : Go p e below s k n Q T (mkF m pc' Ls (.long z :: st))) : Go p e below s k n Q T (mkF m pc Ls (.int j :: .ref a :: st)) := by
  subst hp hj
  obtain ⟨cl, A, S, hl⟩ := A
  exact H.via fun t q => X.laload hx (by rw [eT]; exact A.1) (State.isArrayOf_alike hZ.alike A.2.1) A.2.2 (own_inJ (a := a) S h0 rfl (List.getElem?_eq_some_iff.mp hv).1) (v := .long z) (by rw [S]; simp [hv]) (g := mkF m pc Ls (.int j :: .ref a :: st)) rfl rfl hd t q
theorem g_arraylengthI (pc' : Nat) (X : Stand p l e R s m args below meth c T locs cells slots) (hx : p.tables.exec = Jvm.exec) (hZ : Z.Warmed39 s.vm) (eT : T.heap = h) {a : Addr} {ty : FieldType} {bs : List Int32} (A : AI Z h a ty bs) {z : Int32} (hz : Int32.ofNat bs.length = z) (hd : decode c.code pc = .ok (.arraylength, 1)) (hp : pc + 1 = pc') (H : Go p e below s k n Q T (mkF m pc' Ls (.int z :: st))) : Go p e below s k n Q T (mkF m pc Ls (.ref a :: st)) := by
  subst hp hz
  obtain ⟨cl, A, S, hl⟩ := A
  have q0 : cl.slots.size.toInt32 = Int32.ofNat bs.length := by rw [S]; simp
  exact H.via fun t q => X.arraylength hx (by rw [eT]; exact A.1) (State.isArrayOf_alike hZ.alike A.2.1) (g := mkF m pc Ls (.ref a :: st)) rfl rfl hd t (by rw [q0]; exact q)
theorem g_arraylengthJ (pc' : Nat) (X : Stand p l e R s m args below meth c T locs cells slots) (hx : p.tables.exec = Jvm.exec) (hZ : Z.Warmed39 s.vm) (eT : T.heap = h) {a : Addr} {bs : List Int64} (A : AJ Z h a bs) {z : Int32} (hz : Int32.ofNat bs.length = z) (hd : decode c.code pc = .ok (.arraylength, 1)) (hp : pc + 1 = pc') (H : Go p e below s k n Q T (mkF m pc' Ls (.int z :: st))) : Go p e below s k n Q T (mkF m pc Ls (.ref a :: st)) := by
  subst hp hz
  obtain ⟨cl, A, S, hl⟩ := A
  have q0 : cl.slots.size.toInt32 = Int32.ofNat bs.length := by rw [S]; simp
  exact H.via fun t q => X.arraylength hx (by rw [eT]; exact A.1) (State.isArrayOf_alike hZ.alike A.2.1) (g := mkF m pc Ls (.ref a :: st)) rfl rfl hd t (by rw [q0]; exact q)
theorem g_new_byte (pc' : Nat) (X : Stand p l e R s m args below meth c T locs cells slots) (hx : p.tables.exec = Jvm.exec) (hZ : Z.Warmed39 s.vm) (w : (Cond.arrayClass .byte).before a0 Z = true) (eT : T.heap = h) {nn : Int32} (len cap : Nat) (hn0 : ¬ nn < 0) (hlen : nn.toNatClampNeg = len) (hcap : len ≤ cap) (hb : cap * 8 ≤ 536870912) (hc : cells + 1 ≤ R.cells) (hl : slots + cap ≤ R.slots) (hd : decode c.code pc = .ok (.newarray .byte, 2)) (hp : pc + 2 = pc') (H : ∀ T' h' b, Stand p l e R s m args below meth c T' locs (cells + 1) (slots + cap) → T'.heap = h' → Ext h h' → b = h.size → AI Z h' b .byte (List.replicate len (0 : Int32)) → Go p e below s k n Q T' (mkF m pc' Ls (.ref b :: st))) : Go p e below s k n Q T (mkF m pc Ls (.int nn :: st)) := by
  subst hp hlen
  obtain ⟨T', h', cA, X', e', E, A, q⟩ := newP X hx hZ (aty := .byte) w eT (g := mkF m pc Ls (.int nn :: st)) rfl hd rfl hn0 hcap hb hc hl
  exact (H T' h' _ X' e' E rfl ⟨_, A, by simp [newA, defaultValue, newarray.typeOf], by simpa using (back32 hn0).2⟩).via q
theorem g_new_int (pc' : Nat) (X : Stand p l e R s m args below meth c T locs cells slots) (hx : p.tables.exec = Jvm.exec) (hZ : Z.Warmed39 s.vm) (w : (Cond.arrayClass .int).before a0 Z = true) (eT : T.heap = h) {nn : Int32} (len cap : Nat) (hn0 : ¬ nn < 0) (hlen : nn.toNatClampNeg = len) (hcap : len ≤ cap) (hb : cap * 8 ≤ 536870912) (hc : cells + 1 ≤ R.cells) (hl : slots + cap ≤ R.slots) (hd : decode c.code pc = .ok (.newarray .int, 2)) (hp : pc + 2 = pc') (H : ∀ T' h' b, Stand p l e R s m args below meth c T' locs (cells + 1) (slots + cap) → T'.heap = h' → Ext h h' → b = h.size → AI Z h' b .int (List.replicate len (0 : Int32)) → Go p e below s k n Q T' (mkF m pc' Ls (.ref b :: st))) : Go p e below s k n Q T (mkF m pc Ls (.int nn :: st)) := by
  subst hp hlen
  obtain ⟨T', h', cA, X', e', E, A, q⟩ := newP X hx hZ (aty := .int) w eT (g := mkF m pc Ls (.int nn :: st)) rfl hd rfl hn0 hcap hb hc hl
  exact (H T' h' _ X' e' E rfl ⟨_, A, by simp [newA, defaultValue, newarray.typeOf], by simpa using (back32 hn0).2⟩).via q
theorem g_new_long (pc' : Nat) (X : Stand p l e R s m args below meth c T locs cells slots) (hx : p.tables.exec = Jvm.exec) (hZ : Z.Warmed39 s.vm) (w : (Cond.arrayClass .long).before a0 Z = true) (eT : T.heap = h) {nn : Int32} (len cap : Nat) (hn0 : ¬ nn < 0) (hlen : nn.toNatClampNeg = len) (hcap : len ≤ cap) (hb : cap * 8 ≤ 536870912) (hc : cells + 1 ≤ R.cells) (hl : slots + cap ≤ R.slots) (hd : decode c.code pc = .ok (.newarray .long, 2)) (hp : pc + 2 = pc') (H : ∀ T' h' b, Stand p l e R s m args below meth c T' locs (cells + 1) (slots + cap) → T'.heap = h' → Ext h h' → b = h.size → AJ Z h' b (List.replicate len (0 : Int64)) → Go p e below s k n Q T' (mkF m pc' Ls (.ref b :: st))) : Go p e below s k n Q T (mkF m pc Ls (.int nn :: st)) := by
  subst hp hlen
  obtain ⟨T', h', cA, X', e', E, A, q⟩ := newP X hx hZ (aty := .long) w eT (g := mkF m pc Ls (.int nn :: st)) rfl hd rfl hn0 hcap hb hc hl
  exact (H T' h' _ X' e' E rfl ⟨_, A, by simp [newA, defaultValue, newarray.typeOf], by simpa using (back32 hn0).2⟩).via q
end OwnKit
theorem own_lrem (x y : Int64) (d : Int) (hy : y.toInt = d) : (0 ≤ x.toInt → (x % y).toInt = x.toInt % d) ∧ (x.toInt < 0 → (x % y).toInt = -((-x.toInt) % d)) := by
  rw [Int64.toInt_mod, hy]; exact tr _ _
theorem own_lremV (x y : Int64) : 0 ≤ x.toInt → 0 < y.toInt → 0 ≤ (x % y).toInt ∧ (x % y).toInt < y.toInt ∧ (x % y).toInt ≤ x.toInt := by
  intro h1 h2
  rw [Int64.toInt_mod, Int.tmod_eq_emod_of_nonneg h1]
  have a := Int.emod_nonneg x.toInt (by omega : y.toInt ≠ 0)
  have b := Int.emod_lt_of_pos x.toInt h2
  refine ⟨a, b, ?_⟩
  by_cases c : x.toInt < y.toInt
  · rw [Int.emod_eq_of_lt h1 c]; exact Int.le_refl _
  · omega
theorem own_prod {a b A B : Int} (h1 : 0 ≤ a) (h2 : a ≤ A) (h3 : 0 ≤ b) (h4 : b ≤ B) : 0 ≤ a * b ∧ a * b ≤ A * B :=
  ⟨Int.mul_nonneg h1 h3, Int.mul_le_mul h2 h4 h3 (Int.le_trans h1 h2)⟩
theorem own_ushrB (x : Int64) (q : Int32) (k : Nat) (hk : q.toBitVec.toNat % 64 = k) : ((x.toUInt64 >>> (q &&& 0x3f).toInt64.toUInt64).toInt64).toBitVec = x.toBitVec >>> k := by
  have h5 := (sm64 q k hk).2
  show x.toBitVec >>> ((q &&& 0x3f).toInt64.toBitVec % 64) = _
  apply BitVec.eq_of_toNat_eq
  rw [BitVec.ushiftRight_eq', BitVec.toNat_ushiftRight, BitVec.toNat_ushiftRight, BitVec.toNat_umod, (sm64 q k hk).1, BitVec.toNat_ofNat]
  congr 1
  show k % 2 ^ 64 % 64 = k
  omega
theorem own_shlB (x : Int64) (q : Int32) (k : Nat) (hk : q.toBitVec.toNat % 64 = k) : (x <<< (q &&& 0x3f).toInt64).toBitVec = x.toBitVec <<< k := by
  show x.toBitVec <<< ((q &&& 0x3f).toInt64.toBitVec.smod 64) = _
  rw [BitVec.shiftLeft_eq', (sm64 q k hk).1, smod64 k (sm64 q k hk).2]
theorem own_parN (p : Int32) (h : 0 ≤ p.toInt) : p.toBitVec.toNat = p.toInt.toNat := by
  have a := p.toBitVec.isLt
  have b : p.toInt = p.toBitVec.toInt := rfl
  rw [BitVec.toInt_eq_toNat_cond] at b
  split at b <;> omega
theorem own_get {bs : List Int32} {i : Nat} (h : i < bs.length) : bs[i]? = some (bs.getD i 0) := by
  rw [List.getD_eq_getElem?_getD, List.getElem?_eq_getElem h]; rfl
theorem own_nat0 {i : Int32} (h : 0 ≤ i.toInt) : ¬ i < 0 := by
  rw [Int32.lt_iff_toInt_lt]; simp only [Int32.reduceToInt]; omega
theorem own_addi (a i : Int32) (ha : 0 ≤ a.toInt ∧ a.toInt ≤ 7) (hi : 0 ≤ i.toInt ∧ i.toInt ≤ 10) : (a + i).toInt = a.toInt + i.toInt := by
  have x := c_iadd a i
  have y := rng32 (a + i)
  omega
theorem own_inc {i : Int32} (hi : 0 ≤ i.toInt ∧ i.toInt ≤ 10) : (i + (1 : Int32)).toInt = i.toInt + 1 := by
  have x := c_iadd i (1 : Int32)
  have y := rng32 (i + (1 : Int32))
  simp only [Int32.reduceToInt] at x
  omega

theorem pn_0 : plainName "com/example/rank4/rank4/VarintReadPinLaw" = true := by first | (simp [plainName, overriddenIn]; done) | decide +kernel
theorem d1_0 : decode method_2_code 0 = .ok (.lload 5, 2) := by decide +kernel
theorem d1_2 : decode method_2_code 2 = .ok (.iload_n 0, 1) := by decide +kernel
theorem d1_3 : decode method_2_code 3 = .ok (.iconst 5, 1) := by decide +kernel
theorem d1_4 : decode method_2_code 4 = .ok (.imul, 1) := by decide +kernel
theorem d1_5 : decode method_2_code 5 = .ok (.bipush 63, 2) := by decide +kernel
theorem d1_7 : decode method_2_code 7 = .ok (.iand, 1) := by decide +kernel
theorem d1_8 : decode method_2_code 8 = .ok (.lushr, 1) := by decide +kernel
theorem d1_9 : decode method_2_code 9 = .ok (.l2i, 1) := by decide +kernel
theorem d1_10 : decode method_2_code 10 = .ok (.i2b, 1) := by decide +kernel
theorem d1_11 : decode method_2_code 11 = .ok (.istore 7, 2) := by decide +kernel
theorem d1_13 : decode method_2_code 13 = .ok (.iload_n 0, 1) := by decide +kernel
theorem d1_14 : decode method_2_code 14 = .ok (.iload 4, 2) := by decide +kernel
theorem d1_16 : decode method_2_code 16 = .ok (.isub, 1) := by decide +kernel
theorem d1_17 : decode method_2_code 17 = .ok (.istore 8, 2) := by decide +kernel
theorem d1_19 : decode method_2_code 19 = .ok (.iload 8, 2) := by decide +kernel
theorem d1_21 : decode method_2_code 21 = .ok (.ifCond .lt 9, 3) := by decide +kernel
theorem d1_24 : decode method_2_code 24 = .ok (.iload 8, 2) := by decide +kernel
theorem d1_26 : decode method_2_code 26 = .ok (.iload_n 3, 1) := by decide +kernel
theorem d1_27 : decode method_2_code 27 = .ok (.if_icmp .lt 6, 3) := by decide +kernel
theorem d1_30 : decode method_2_code 30 = .ok (.iload 7, 2) := by decide +kernel
theorem d1_32 : decode method_2_code 32 = .ok (.ireturn, 1) := by decide +kernel
theorem d1_33 : decode method_2_code 33 = .ok (.iload 8, 2) := by decide +kernel
theorem d1_35 : decode method_2_code 35 = .ok (.bipush 9, 2) := by decide +kernel
theorem d1_37 : decode method_2_code 37 = .ok (.if_icmp .ne 20, 3) := by decide +kernel
theorem d1_40 : decode method_2_code 40 = .ok (.lload_n 1, 1) := by decide +kernel
theorem d1_41 : decode method_2_code 41 = .ok (.bipush 63, 2) := by decide +kernel
theorem d1_43 : decode method_2_code 43 = .ok (.lushr, 1) := by decide +kernel
theorem d1_44 : decode method_2_code 44 = .ok (.lconst 1, 1) := by decide +kernel
theorem d1_45 : decode method_2_code 45 = .ok (.land, 1) := by decide +kernel
theorem d1_46 : decode method_2_code 46 = .ok (.iload 7, 2) := by decide +kernel
theorem d1_48 : decode method_2_code 48 = .ok (.sipush 254, 3) := by decide +kernel
theorem d1_51 : decode method_2_code 51 = .ok (.iand, 1) := by decide +kernel
theorem d1_52 : decode method_2_code 52 = .ok (.i2l, 1) := by decide +kernel
theorem d1_53 : decode method_2_code 53 = .ok (.lor, 1) := by decide +kernel
theorem d1_54 : decode method_2_code 54 = .ok (.l2i, 1) := by decide +kernel
theorem d1_55 : decode method_2_code 55 = .ok (.i2b, 1) := by decide +kernel
theorem d1_56 : decode method_2_code 56 = .ok (.ireturn, 1) := by decide +kernel
theorem d1_57 : decode method_2_code 57 = .ok (.lload_n 1, 1) := by decide +kernel
theorem d1_58 : decode method_2_code 58 = .ok (.bipush 7, 2) := by decide +kernel
theorem d1_60 : decode method_2_code 60 = .ok (.iload 8, 2) := by decide +kernel
theorem d1_62 : decode method_2_code 62 = .ok (.imul, 1) := by decide +kernel
theorem d1_63 : decode method_2_code 63 = .ok (.lushr, 1) := by decide +kernel
theorem d1_64 : decode method_2_code 64 = .ok (.ldc2_w 7, 3) := by decide +kernel
theorem d1_67 : decode method_2_code 67 = .ok (.land, 1) := by decide +kernel
theorem d1_68 : decode method_2_code 68 = .ok (.lstore 9, 2) := by decide +kernel
theorem d1_70 : decode method_2_code 70 = .ok (.iload 8, 2) := by decide +kernel
theorem d1_72 : decode method_2_code 72 = .ok (.iload_n 3, 1) := by decide +kernel
theorem d1_73 : decode method_2_code 73 = .ok (.iconst 1, 1) := by decide +kernel
theorem d1_74 : decode method_2_code 74 = .ok (.isub, 1) := by decide +kernel
theorem d1_75 : decode method_2_code 75 = .ok (.if_icmp .ge 12, 3) := by decide +kernel
theorem d1_78 : decode method_2_code 78 = .ok (.lload 9, 2) := by decide +kernel
theorem d1_80 : decode method_2_code 80 = .ok (.ldc2_w 9, 3) := by decide +kernel
theorem d1_83 : decode method_2_code 83 = .ok (.lor, 1) := by decide +kernel
theorem d1_84 : decode method_2_code 84 = .ok (.l2i, 1) := by decide +kernel
theorem d1_85 : decode method_2_code 85 = .ok (.i2b, 1) := by decide +kernel
theorem d1_86 : decode method_2_code 86 = .ok (.ireturn, 1) := by decide +kernel
theorem d1_87 : decode method_2_code 87 = .ok (.lload 9, 2) := by decide +kernel
theorem d1_89 : decode method_2_code 89 = .ok (.l2i, 1) := by decide +kernel
theorem d1_90 : decode method_2_code 90 = .ok (.i2b, 1) := by decide +kernel
theorem d1_91 : decode method_2_code 91 = .ok (.ireturn, 1) := by decide +kernel
def Rel1 (p1 : Int32) (q2 : Int64) (p3 : Int32) (p4 : Int32) (q5 : Int64) (r : Int32) : Prop := ((p1 - p4) < (0 : Int32) ∧ r = (nar .byte ((((q5.toUInt64 >>> (((p1 * (5 : Int32)) &&& (63 : Int32)) &&& 0x3f).toInt64.toUInt64).toInt64).toInt32).toInt8.toInt32))) ∨ (¬ ((p1 - p4) < (0 : Int32)) ∧ (p1 - p4) < p3 ∧ (p1 - p4) = (9 : Int32) ∧ r = (nar .byte ((((((q2.toUInt64 >>> ((63 : Int32) &&& 0x3f).toInt64.toUInt64).toInt64) &&& (1 : Int64)) ||| ((((((q5.toUInt64 >>> (((p1 * (5 : Int32)) &&& (63 : Int32)) &&& 0x3f).toInt64.toUInt64).toInt64).toInt32).toInt8.toInt32) &&& (254 : Int32)).toInt64)).toInt32).toInt8.toInt32))) ∨ (¬ ((p1 - p4) < (0 : Int32)) ∧ (p1 - p4) < p3 ∧ ¬ ((p1 - p4) = (9 : Int32)) ∧ (p1 - p4) < (p3 - (1 : Int32)) ∧ r = (nar .byte ((((((q2.toUInt64 >>> (((7 : Int32) * (p1 - p4)) &&& 0x3f).toInt64.toUInt64).toInt64) &&& (127 : Int64)) ||| (128 : Int64)).toInt32).toInt8.toInt32))) ∨ (¬ ((p1 - p4) < (0 : Int32)) ∧ (p1 - p4) < p3 ∧ ¬ ((p1 - p4) = (9 : Int32)) ∧ ¬ ((p1 - p4) < (p3 - (1 : Int32))) ∧ r = (nar .byte (((((q2.toUInt64 >>> (((7 : Int32) * (p1 - p4)) &&& 0x3f).toInt64.toUInt64).toInt64) &&& (127 : Int64)).toInt32).toInt8.toInt32))) ∨ (¬ ((p1 - p4) < (0 : Int32)) ∧ ¬ ((p1 - p4) < p3) ∧ r = (nar .byte ((((q5.toUInt64 >>> (((p1 * (5 : Int32)) &&& (63 : Int32)) &&& 0x3f).toInt64.toUInt64).toInt64).toInt32).toInt8.toInt32)))
def Q1 (Z : State) (p1 : Int32) (q2 : Int64) (p3 : Int32) (p4 : Int32) (q5 : Int64) (h0 : Heap) (n0 : Nat) (v : Option Value) (h : Heap) (L : List Loc) : Prop := ∃ r : Int32, v = some (.int r) ∧ Rel1 p1 q2 p3 p4 q5 r ∧ Fr n0 L ∧ h = h0
theorem ef_rm1 (m : MethodId) (p1 : Int32) (q2 : Int64) (p3 : Int32) (p4 : Int32) (q5 : Int64) : entryFrame m #[(.int p1), (.long q2), (.int p3), (.int p4), (.long q5)] 11 = mkF m 0 #[.val (.int p1), .val (.long q2), .second, .val (.int p3), .val (.int p4), .val (.long q5), .second, .unset, .unset, .unset, .unset] [] := by first | (simp [entryFrame, mkF, argsToLocals, Value.category]; done) | rfl
set_option maxRecDepth 65536 in
set_option maxHeartbeats 40000000 in
theorem rm1 (l : Launch) (Z : State) (a0 : Array Value) (hw : ∀ d ∈ tables_1, d.before a0 Z = true) (ws : List Jvm.Cond) (p1 : Int32) (q2 : Int64) (p3 : Int32) (p4 : Int32) (q5 : Int64) (h0 : Heap) (n0 : Nat) (Z0 : n0 ≤ h0.size)  :
    MetFree l (⟨"com/example/rank4/rank4/VarintReadPinLaw", "cell", "(IJIIJ)B"⟩ : MethodName) (head1 (Jvm.Cond.code (⟨"com/example/rank4/rank4/VarintReadPinLaw", "cell", "(IJIIJ)B"⟩ : MethodName) method_2_code 11 (some .byte) :: ws) ({ frames := 0, cells := 0, slots := 0, locals := 0 } : Room)) (fun a U => a = #[(.int p1), (.long q2), (.int p3), (.int p4), (.long q5)] ∧ Z.Warmed39 U.vm ∧ U.heap = h0) (fun _ _ _ _ _ => True) (fun _ U o U' => ∃ v L, o = .returned v ∧ (Q1 Z p1 q2 p3 p4 q5 h0 n0) v U'.heap L ∧ FrameEnd U o U' L ({ frames := 0, cells := 0, slots := 0, locals := 0 } : Room).cells ({ frames := 0, cells := 0, slots := 0, locals := 0 } : Room).slots) := by
  refine MetFree.of_bodySF (plainFor_of_name pn_0) hisR ?_
  intro p e s m args below meth c s₁ Bd hml0 hP hK
  obtain ⟨rfl, hZ, hh⟩ := hP
  have hx := Bd.exec
  have hby := Bd.bytes
  have hml : c.maxLocals = 11 := hml0
  have hown : s.vm.findClass "com/example/rank4/rank4/VarintReadPinLaw" = some m.cls := findClass_of_methodNamed Bd.named
  have hnm := (name_of_methodNamed Bd.named Bd.method).1
  have hlk : meth.locks = false := BodyLoose.notSynchronized Bd
  have X0 : Stand p l e ({ frames := 0, cells := 0, slots := 0, locals := 0 } : Room) s m #[(.int p1), (.long q2), (.int p3), (.int p4), (.long q5)] below meth c s₁ [] 0 0 := Stand.of_body Bd
  have e0 : s₁.heap = h0 := by rw [← hh, Bd.state]; rfl
  have N0 := Fr.nil n0
  show Go p e below s ({ frames := 0, cells := 0, slots := 0, locals := 0 } : Room).cells ({ frames := 0, cells := 0, slots := 0, locals := 0 } : Room).slots (Q1 Z p1 q2 p3 p4 q5 h0 n0) s₁ (entryFrame m #[(.int p1), (.long q2), (.int p3), (.int p4), (.long q5)] 11)
  rw [ef_rm1 m p1 q2 p3 p4 q5]
  refine g_lload 2 X0 hx (hb hby d1_0) rfl (v := q5) rfl ?_
  refine g_iloadN 3 X0 hx (hb hby d1_2) rfl (v := p1) rfl ?_
  refine g_iconst 4 X0 hx (hb hby d1_3) rfl (z := (5 : Int32)) rfl ?_
  refine g_imul 5 X0 hx (hb hby d1_4) rfl (z := (p1 * (5 : Int32))) rfl ?_
  refine g_bipush 7 X0 hx (hb hby d1_5) rfl (z := (63 : Int32)) rfl ?_
  refine g_iand 8 X0 hx (hb hby d1_7) rfl (z := ((p1 * (5 : Int32)) &&& (63 : Int32))) rfl ?_
  refine g_lushr 9 X0 hx (hb hby d1_8) rfl (z := ((q5.toUInt64 >>> (((p1 * (5 : Int32)) &&& (63 : Int32)) &&& 0x3f).toInt64.toUInt64).toInt64)) rfl ?_
  refine g_l2i 10 X0 hx (hb hby d1_9) rfl (z := (((q5.toUInt64 >>> (((p1 * (5 : Int32)) &&& (63 : Int32)) &&& 0x3f).toInt64.toUInt64).toInt64).toInt32)) rfl ?_
  refine g_i2b 11 X0 hx (hb hby d1_10) rfl (z := ((((q5.toUInt64 >>> (((p1 * (5 : Int32)) &&& (63 : Int32)) &&& 0x3f).toInt64.toUInt64).toInt64).toInt32).toInt8.toInt32)) rfl ?_
  refine g_istore 13 X0 hx (hb hby d1_11) rfl (Ls' := #[.val (.int p1), .val (.long q2), .second, .val (.int p3), .val (.int p4), .val (.long q5), .second, .val (.int ((((q5.toUInt64 >>> (((p1 * (5 : Int32)) &&& (63 : Int32)) &&& 0x3f).toInt64.toUInt64).toInt64).toInt32).toInt8.toInt32)), .unset, .unset, .unset]) rfl ?_
  refine g_iloadN 14 X0 hx (hb hby d1_13) rfl (v := p1) rfl ?_
  refine g_iload 16 X0 hx (hb hby d1_14) rfl (v := p4) rfl ?_
  refine g_isub 17 X0 hx (hb hby d1_16) rfl (z := (p1 - p4)) rfl ?_
  refine g_istore 19 X0 hx (hb hby d1_17) rfl (Ls' := #[.val (.int p1), .val (.long q2), .second, .val (.int p3), .val (.int p4), .val (.long q5), .second, .val (.int ((((q5.toUInt64 >>> (((p1 * (5 : Int32)) &&& (63 : Int32)) &&& 0x3f).toInt64.toUInt64).toInt64).toInt32).toInt8.toInt32)), .val (.int (p1 - p4)), .unset, .unset]) rfl ?_
  refine g_iload 21 X0 hx (hb hby d1_19) rfl (v := (p1 - p4)) rfl ?_
  by_cases hc21_0 : (p1 - p4) < (0 : Int32)
  ·
    refine g_ifYes 30 X0 hx (hb hby d1_21)  ((if0 _ _).trans (tlt hc21_0).1) (by decide) (by decide) ?_
    refine g_iload 32 X0 hx (hb hby d1_30) rfl (v := ((((q5.toUInt64 >>> (((p1 * (5 : Int32)) &&& (63 : Int32)) &&& 0x3f).toInt64.toUInt64).toInt64).toInt32).toInt8.toInt32)) rfl ?_
    exact g_retN X0 hx (t := .byte) Bd.returns hlk (by simp) rfl (hb hby d1_32) (by decide) (by decide) ⟨(nar .byte ((((q5.toUInt64 >>> (((p1 * (5 : Int32)) &&& (63 : Int32)) &&& 0x3f).toInt64.toUInt64).toInt64).toInt32).toInt8.toInt32)), rfl, (Or.inl ⟨hc21_0, rfl⟩), N0, e0⟩
  ·
    refine g_ifNo 24 X0 hx (hb hby d1_21)  ((if0 _ _).trans (flt hc21_0).1) rfl ?_
    refine g_iload 26 X0 hx (hb hby d1_24) rfl (v := (p1 - p4)) rfl ?_
    refine g_iloadN 27 X0 hx (hb hby d1_26) rfl (v := p3) rfl ?_
    by_cases hc27_1 : (p1 - p4) < p3
    ·
      refine g_icmpYes 33 X0 hx (hb hby d1_27)  (tlt hc27_1).1 (by decide) (by decide) ?_
      refine g_iload 35 X0 hx (hb hby d1_33) rfl (v := (p1 - p4)) rfl ?_
      refine g_bipush 37 X0 hx (hb hby d1_35) rfl (z := (9 : Int32)) rfl ?_
      by_cases hc37_2 : (p1 - p4) = (9 : Int32)
      ·
        refine g_icmpNo 40 X0 hx (hb hby d1_37)  (teq hc37_2).2 rfl ?_
        refine g_lloadN 41 X0 hx (hb hby d1_40) rfl (v := q2) rfl ?_
        refine g_bipush 43 X0 hx (hb hby d1_41) rfl (z := (63 : Int32)) rfl ?_
        refine g_lushr 44 X0 hx (hb hby d1_43) rfl (z := ((q2.toUInt64 >>> ((63 : Int32) &&& 0x3f).toInt64.toUInt64).toInt64)) rfl ?_
        refine g_lconst 45 X0 hx (hb hby d1_44) rfl (z := (1 : Int64)) rfl ?_
        refine g_land 46 X0 hx (hb hby d1_45) rfl (z := (((q2.toUInt64 >>> ((63 : Int32) &&& 0x3f).toInt64.toUInt64).toInt64) &&& (1 : Int64))) rfl ?_
        refine g_iload 48 X0 hx (hb hby d1_46) rfl (v := ((((q5.toUInt64 >>> (((p1 * (5 : Int32)) &&& (63 : Int32)) &&& 0x3f).toInt64.toUInt64).toInt64).toInt32).toInt8.toInt32)) rfl ?_
        refine g_sipush 51 X0 hx (hb hby d1_48) rfl (z := (254 : Int32)) rfl ?_
        refine g_iand 52 X0 hx (hb hby d1_51) rfl (z := (((((q5.toUInt64 >>> (((p1 * (5 : Int32)) &&& (63 : Int32)) &&& 0x3f).toInt64.toUInt64).toInt64).toInt32).toInt8.toInt32) &&& (254 : Int32))) rfl ?_
        refine g_i2l 53 X0 hx (hb hby d1_52) rfl (z := ((((((q5.toUInt64 >>> (((p1 * (5 : Int32)) &&& (63 : Int32)) &&& 0x3f).toInt64.toUInt64).toInt64).toInt32).toInt8.toInt32) &&& (254 : Int32)).toInt64)) rfl ?_
        refine g_lor 54 X0 hx (hb hby d1_53) rfl (z := ((((q2.toUInt64 >>> ((63 : Int32) &&& 0x3f).toInt64.toUInt64).toInt64) &&& (1 : Int64)) ||| ((((((q5.toUInt64 >>> (((p1 * (5 : Int32)) &&& (63 : Int32)) &&& 0x3f).toInt64.toUInt64).toInt64).toInt32).toInt8.toInt32) &&& (254 : Int32)).toInt64))) rfl ?_
        refine g_l2i 55 X0 hx (hb hby d1_54) rfl (z := (((((q2.toUInt64 >>> ((63 : Int32) &&& 0x3f).toInt64.toUInt64).toInt64) &&& (1 : Int64)) ||| ((((((q5.toUInt64 >>> (((p1 * (5 : Int32)) &&& (63 : Int32)) &&& 0x3f).toInt64.toUInt64).toInt64).toInt32).toInt8.toInt32) &&& (254 : Int32)).toInt64)).toInt32)) rfl ?_
        refine g_i2b 56 X0 hx (hb hby d1_55) rfl (z := ((((((q2.toUInt64 >>> ((63 : Int32) &&& 0x3f).toInt64.toUInt64).toInt64) &&& (1 : Int64)) ||| ((((((q5.toUInt64 >>> (((p1 * (5 : Int32)) &&& (63 : Int32)) &&& 0x3f).toInt64.toUInt64).toInt64).toInt32).toInt8.toInt32) &&& (254 : Int32)).toInt64)).toInt32).toInt8.toInt32)) rfl ?_
        exact g_retN X0 hx (t := .byte) Bd.returns hlk (by simp) rfl (hb hby d1_56) (by decide) (by decide) ⟨(nar .byte ((((((q2.toUInt64 >>> ((63 : Int32) &&& 0x3f).toInt64.toUInt64).toInt64) &&& (1 : Int64)) ||| ((((((q5.toUInt64 >>> (((p1 * (5 : Int32)) &&& (63 : Int32)) &&& 0x3f).toInt64.toUInt64).toInt64).toInt32).toInt8.toInt32) &&& (254 : Int32)).toInt64)).toInt32).toInt8.toInt32)), rfl, (Or.inr (Or.inl ⟨hc21_0, hc27_1, hc37_2, rfl⟩)), N0, e0⟩
      ·
        refine g_icmpYes 57 X0 hx (hb hby d1_37)  (feq hc37_2).2 (by decide) (by decide) ?_
        refine g_lloadN 58 X0 hx (hb hby d1_57) rfl (v := q2) rfl ?_
        refine g_bipush 60 X0 hx (hb hby d1_58) rfl (z := (7 : Int32)) rfl ?_
        refine g_iload 62 X0 hx (hb hby d1_60) rfl (v := (p1 - p4)) rfl ?_
        refine g_imul 63 X0 hx (hb hby d1_62) rfl (z := ((7 : Int32) * (p1 - p4))) rfl ?_
        refine g_lushr 64 X0 hx (hb hby d1_63) rfl (z := ((q2.toUInt64 >>> (((7 : Int32) * (p1 - p4)) &&& 0x3f).toInt64.toUInt64).toInt64)) rfl ?_
        refine g_ldc2 67 X0 hx hZ hown (hw _ (List.mem_of_getElem? (i := 6) rfl)) (hb hby d1_64) rfl ?_
        refine g_land 68 X0 hx (hb hby d1_67) rfl (z := (((q2.toUInt64 >>> (((7 : Int32) * (p1 - p4)) &&& 0x3f).toInt64.toUInt64).toInt64) &&& (127 : Int64))) rfl ?_
        refine g_lstore 70 X0 hx (hb hby d1_68) rfl (Ls' := #[.val (.int p1), .val (.long q2), .second, .val (.int p3), .val (.int p4), .val (.long q5), .second, .val (.int ((((q5.toUInt64 >>> (((p1 * (5 : Int32)) &&& (63 : Int32)) &&& 0x3f).toInt64.toUInt64).toInt64).toInt32).toInt8.toInt32)), .val (.int (p1 - p4)), .val (.long (((q2.toUInt64 >>> (((7 : Int32) * (p1 - p4)) &&& 0x3f).toInt64.toUInt64).toInt64) &&& (127 : Int64))), .second]) rfl ?_
        refine g_iload 72 X0 hx (hb hby d1_70) rfl (v := (p1 - p4)) rfl ?_
        refine g_iloadN 73 X0 hx (hb hby d1_72) rfl (v := p3) rfl ?_
        refine g_iconst 74 X0 hx (hb hby d1_73) rfl (z := (1 : Int32)) rfl ?_
        refine g_isub 75 X0 hx (hb hby d1_74) rfl (z := (p3 - (1 : Int32))) rfl ?_
        by_cases hc75_3 : (p1 - p4) < (p3 - (1 : Int32))
        ·
          refine g_icmpNo 78 X0 hx (hb hby d1_75)  (tlt hc75_3).2.1 rfl ?_
          refine g_lload 80 X0 hx (hb hby d1_78) rfl (v := (((q2.toUInt64 >>> (((7 : Int32) * (p1 - p4)) &&& 0x3f).toInt64.toUInt64).toInt64) &&& (127 : Int64))) rfl ?_
          refine g_ldc2 83 X0 hx hZ hown (hw _ (List.mem_of_getElem? (i := 7) rfl)) (hb hby d1_80) rfl ?_
          refine g_lor 84 X0 hx (hb hby d1_83) rfl (z := ((((q2.toUInt64 >>> (((7 : Int32) * (p1 - p4)) &&& 0x3f).toInt64.toUInt64).toInt64) &&& (127 : Int64)) ||| (128 : Int64))) rfl ?_
          refine g_l2i 85 X0 hx (hb hby d1_84) rfl (z := (((((q2.toUInt64 >>> (((7 : Int32) * (p1 - p4)) &&& 0x3f).toInt64.toUInt64).toInt64) &&& (127 : Int64)) ||| (128 : Int64)).toInt32)) rfl ?_
          refine g_i2b 86 X0 hx (hb hby d1_85) rfl (z := ((((((q2.toUInt64 >>> (((7 : Int32) * (p1 - p4)) &&& 0x3f).toInt64.toUInt64).toInt64) &&& (127 : Int64)) ||| (128 : Int64)).toInt32).toInt8.toInt32)) rfl ?_
          exact g_retN X0 hx (t := .byte) Bd.returns hlk (by simp) rfl (hb hby d1_86) (by decide) (by decide) ⟨(nar .byte ((((((q2.toUInt64 >>> (((7 : Int32) * (p1 - p4)) &&& 0x3f).toInt64.toUInt64).toInt64) &&& (127 : Int64)) ||| (128 : Int64)).toInt32).toInt8.toInt32)), rfl, (Or.inr (Or.inr (Or.inl ⟨hc21_0, hc27_1, hc37_2, hc75_3, rfl⟩))), N0, e0⟩
        ·
          refine g_icmpYes 87 X0 hx (hb hby d1_75)  (flt hc75_3).2.1 (by decide) (by decide) ?_
          refine g_lload 89 X0 hx (hb hby d1_87) rfl (v := (((q2.toUInt64 >>> (((7 : Int32) * (p1 - p4)) &&& 0x3f).toInt64.toUInt64).toInt64) &&& (127 : Int64))) rfl ?_
          refine g_l2i 90 X0 hx (hb hby d1_89) rfl (z := ((((q2.toUInt64 >>> (((7 : Int32) * (p1 - p4)) &&& 0x3f).toInt64.toUInt64).toInt64) &&& (127 : Int64)).toInt32)) rfl ?_
          refine g_i2b 91 X0 hx (hb hby d1_90) rfl (z := (((((q2.toUInt64 >>> (((7 : Int32) * (p1 - p4)) &&& 0x3f).toInt64.toUInt64).toInt64) &&& (127 : Int64)).toInt32).toInt8.toInt32)) rfl ?_
          exact g_retN X0 hx (t := .byte) Bd.returns hlk (by simp) rfl (hb hby d1_91) (by decide) (by decide) ⟨(nar .byte (((((q2.toUInt64 >>> (((7 : Int32) * (p1 - p4)) &&& 0x3f).toInt64.toUInt64).toInt64) &&& (127 : Int64)).toInt32).toInt8.toInt32)), rfl, (Or.inr (Or.inr (Or.inr (Or.inl ⟨hc21_0, hc27_1, hc37_2, hc75_3, rfl⟩)))), N0, e0⟩
    ·
      refine g_icmpNo 30 X0 hx (hb hby d1_27)  (flt hc27_1).1 rfl ?_
      refine g_iload 32 X0 hx (hb hby d1_30) rfl (v := ((((q5.toUInt64 >>> (((p1 * (5 : Int32)) &&& (63 : Int32)) &&& 0x3f).toInt64.toUInt64).toInt64).toInt32).toInt8.toInt32)) rfl ?_
      exact g_retN X0 hx (t := .byte) Bd.returns hlk (by simp) rfl (hb hby d1_32) (by decide) (by decide) ⟨(nar .byte ((((q5.toUInt64 >>> (((p1 * (5 : Int32)) &&& (63 : Int32)) &&& 0x3f).toInt64.toUInt64).toInt64).toInt32).toInt8.toInt32)), rfl, (Or.inr (Or.inr (Or.inr (Or.inr ⟨hc21_0, hc27_1, rfl⟩)))), N0, e0⟩
theorem own_idem (x : Int32) : (x.toInt8.toInt32).toInt8.toInt32 = x.toInt8.toInt32 := by
  have a := c_i2b x
  have b := c_i2b x.toInt8.toInt32
  apply Int32.toInt_inj.mp
  omega
/-- the low a bits of n, and nothing else -/
def own_L (acc n : BitVec 64) (a : Nat) : Prop := ∀ t, t < 64 → acc.getLsbD t = (decide (t < a) && n.getLsbD t)
theorem own_L0 (n : BitVec 64) : own_L 0#64 n 0 := fun t _ => by simp
theorem own_Lstep (acc n G : BitVec 64) (s : Nat) (hs : s ≤ 63) (hG : ∀ t, t < 7 → s + t < 64 → G.getLsbD t = n.getLsbD (s + t)) (hG2 : ∀ t, 7 ≤ t → s + t < 64 → G.getLsbD t = false) (h : own_L acc n s) : own_L (acc ||| (G <<< s)) n (s + 7) := fun t ht => by
  rw [BitVec.getLsbD_or, BitVec.getLsbD_shiftLeft, h t ht]
  by_cases c : t < s
  · have : t < s + 7 := by omega
    simp [c, this]
  · by_cases d : t < s + 7
    · rw [hG (t - s) (by omega) (by omega), show s + (t - s) = t by omega]
      simp [c, d, ht]
    · rw [hG2 (t - s) (by omega) (by omega)]
      simp [c, d]
theorem own_Lmask (acc n : BitVec 64) (s : Nat) (hs : s ≤ 63) (h : own_L acc n s) : acc = n &&& ((1#64 <<< s) - 1#64) := by
  have e : ((1#64 <<< s) - 1#64).toNat = 2 ^ s - 1 := by
    have a : (1#64 <<< s).toNat = 2 ^ s := by
      rw [BitVec.toNat_shiftLeft, Nat.shiftLeft_eq]
      have : 2 ^ s ≤ 2 ^ 63 := Nat.pow_le_pow_right (by decide) hs
      show 1 % 2 ^ 64 * 2 ^ s % 2 ^ 64 = _
      omega
    have b : 0 < 2 ^ s := Nat.two_pow_pos s
    have c : 2 ^ s ≤ 2 ^ 63 := Nat.pow_le_pow_right (by decide) hs
    rw [BitVec.toNat_sub, a]
    show (2 ^ 64 - 1 % 2 ^ 64 + 2 ^ s) % 2 ^ 64 = _
    omega
  apply BitVec.eq_of_getLsbD_eq
  intro t ht
  rw [h t ht, BitVec.getLsbD_and, show ((1#64 <<< s) - 1#64).getLsbD t = decide (t < s) from by rw [BitVec.getLsbD, e, Nat.testBit_two_pow_sub_one], Bool.and_comm]
theorem own_Lall (acc n : BitVec 64) (s : Nat) (hs : 64 ≤ s) (h : own_L acc n s) : acc = n := by
  apply BitVec.eq_of_getLsbD_eq
  intro t ht
  rw [h t ht]
  have : t < s := by omega
  simp [this]
theorem own_sh7 : ∀ j : Fin 10, ((7 : Int32) * Int32.ofNat j).toBitVec.toNat % 64 = 7 * j := by decide
theorem own_grp (n : Int64) (j : Nat) (hj : j < 10) (t : Nat) : ((n.toUInt64 >>> (((7 : Int32) * Int32.ofNat j) &&& 0x3f).toInt64.toUInt64).toInt64 &&& (127 : Int64)).toBitVec.getLsbD t = (decide (t < 7) && n.toBitVec.getLsbD (7 * j + t)) := by
  rw [Int64.toBitVec_and, own_ushrB n _ (7 * j) (own_sh7 ⟨j, hj⟩), BitVec.getLsbD_and, BitVec.getLsbD_ushiftRight]
  have e : (127 : Int64).toBitVec.getLsbD t = decide (t < 7) := by
    show (127#64).getLsbD t = _
    rw [BitVec.getLsbD, show (127#64).toNat = 2 ^ 7 - 1 from rfl, Nat.testBit_two_pow_sub_one]
  rw [e, Bool.and_comm]
/-- what a byte of the number looks like, as read -/
theorem own_low (G : Int64) (h : 0 ≤ G.toInt ∧ G.toInt < 128) (r : Int32) (hr : r = nar .byte ((G.toInt32).toInt8.toInt32)) : ((r.toInt8.toInt32 &&& (127 : Int32)).toInt64 = G) ∧ ¬ r.toInt8.toInt32 < (0 : Int32) := by
  have e : r.toInt8.toInt32 = G.toInt32.toInt8.toInt32 := by rw [hr]; show (G.toInt32.toInt8.toInt32).toInt8.toInt32.toInt8.toInt32 = _; rw [own_idem, own_idem]
  rw [e]
  have a := c_l2i G
  have b := c_i2b G.toInt32
  have c := rng32 G.toInt32
  have m := c_mask G.toInt32.toInt8.toInt32 (127 : Int32) 7 (by decide) (by decide)
  constructor
  · apply Int64.toInt_inj.mp
    rw [c_i2l, m]; omega
  · rw [Int32.lt_iff_toInt_lt]; simp only [Int32.reduceToInt]; omega
theorem own_high (G : Int64) (h : 0 ≤ G.toInt ∧ G.toInt < 128) (r : Int32) (hr : r = nar .byte (((G ||| (128 : Int64)).toInt32).toInt8.toInt32)) : ((r.toInt8.toInt32 &&& (127 : Int32)).toInt64 = G) ∧ r.toInt8.toInt32 < (0 : Int32) := by
  have e : r.toInt8.toInt32 = (G ||| (128 : Int64)).toInt32.toInt8.toInt32 := by rw [hr]; show ((G ||| (128 : Int64)).toInt32.toInt8.toInt32).toInt8.toInt32.toInt8.toInt32 = _; rw [own_idem, own_idem]
  rw [e]
  have o := c_orL' G (128 : Int64) 7 (by decide) 128 rfl (by decide) h.1 h.2
  have o2 := rng64 (G ||| (128 : Int64))
  simp only [Int64.reduceToInt] at o
  have o3 : (G ||| (128 : Int64)).toInt = 128 + G.toInt := by omega
  have a := c_l2i (G ||| (128 : Int64))
  have b := c_i2b (G ||| (128 : Int64)).toInt32
  have c := rng32 (G ||| (128 : Int64)).toInt32
  have m := c_mask (G ||| (128 : Int64)).toInt32.toInt8.toInt32 (127 : Int32) 7 (by decide) (by decide)
  constructor
  · apply Int64.toInt_inj.mp
    rw [c_i2l, m]; omega
  · rw [Int32.lt_iff_toInt_lt]; simp only [Int32.reduceToInt]; omega
theorem own_grng (X : Int64) : 0 ≤ (X &&& (127 : Int64)).toInt ∧ (X &&& (127 : Int64)).toInt < 128 := by
  have m := c_maskL X (127 : Int64) 7 (by decide) (by decide)
  omega
theorem own_even (x : Int32) : (x &&& (254 : Int32)).toInt % 2 = 0 := by
  rw [par]
  have e : (x &&& (254 : Int32)).toBitVec.toNat = x.toBitVec.toNat &&& 254 := by
    rw [Int32.toBitVec_and, BitVec.toNat_and]; rfl
  rw [e]
  have := Nat.and_mod_two_pow (a := x.toBitVec.toNat) (b := 254) (n := 1)
  simp at this
  omega
theorem own_bit0 (x : Int64) : x.toBitVec.getLsbD 0 = decide (x.toInt % 2 = 1) := by
  rw [parL, BitVec.getLsbD, Nat.testBit_zero]
  congr 1
  apply propext
  omega
theorem own_ninth (n : Int64) (J r : Int32) (hr : r = nar .byte ((((((n.toUInt64 >>> ((63 : Int32) &&& 0x3f).toInt64.toUInt64).toInt64) &&& (1 : Int64)) ||| ((J &&& (254 : Int32)).toInt64)).toInt32).toInt8.toInt32)) : ((r.toInt8.toInt32 &&& (127 : Int32)).toInt64).toBitVec.getLsbD 0 = n.toBitVec.getLsbD 63 := by
  generalize hX : (((n.toUInt64 >>> ((63 : Int32) &&& 0x3f).toInt64.toUInt64).toInt64) &&& (1 : Int64)) = X at *
  have hb : n.toBitVec.getLsbD 63 = X.toBitVec.getLsbD 0 := by
    rw [← hX, Int64.toBitVec_and, own_ushrB n (63 : Int32) 63 (by decide), BitVec.getLsbD_and, BitVec.getLsbD_ushiftRight]
    show _ = (n.toBitVec.getLsbD 63 && (1#64).getLsbD 0)
    simp
  have hm := c_maskL (n.toUInt64 >>> ((63 : Int32) &&& 0x3f).toInt64.toUInt64).toInt64 (1 : Int64) 1 (by decide) (by decide)
  rw [hX] at hm
  have e : r.toInt8.toInt32 = (X ||| ((J &&& (254 : Int32)).toInt64)).toInt32.toInt8.toInt32 := by rw [hr]; show ((X ||| ((J &&& (254 : Int32)).toInt64)).toInt32.toInt8.toInt32).toInt8.toInt32.toInt8.toInt32 = _; rw [own_idem, own_idem]
  have ev := own_even J
  have o := c_orL' X ((J &&& (254 : Int32)).toInt64) 1 (by decide) 2 rfl (by rw [c_i2l]; exact ev) (by omega) (by omega)
  rw [c_i2l] at o
  have a := c_l2i (X ||| ((J &&& (254 : Int32)).toInt64))
  have b := c_i2b (X ||| ((J &&& (254 : Int32)).toInt64)).toInt32
  have m := c_mask r.toInt8.toInt32 (127 : Int32) 7 (by decide) (by decide)
  rw [hb, own_bit0, own_bit0, c_i2l, m, e]
  congr 1
  apply propext
  generalize (X ||| ((J &&& (254 : Int32)).toInt64)) = Y at *
  generalize (J &&& (254 : Int32)).toInt = W at *
  have q1 : Y.toInt % 2 = X.toInt % 2 := by omega
  have q2 : Y.toInt32.toInt % 2 = Y.toInt % 2 := by omega
  have q3 : Y.toInt32.toInt8.toInt32.toInt % 2 = Y.toInt32.toInt % 2 := by omega
  generalize Y.toInt32.toInt8.toInt32.toInt = U at *
  omega
def own_rd (bs : List Int32) (a : Int32) : Nat → Int32 → Int64 → Int64
  | 0, _, acc => acc
  | t + 1, i, acc => if bs.getD (a + i).toInt.toNat 0 < (0 : Int32) then own_rd bs a t (i + (1 : Int32)) (acc ||| (((bs.getD (a + i).toInt.toNat 0 &&& (127 : Int32)).toInt64) <<< (((7 : Int32) * i) &&& 0x3f).toInt64)) else (acc ||| (((bs.getD (a + i).toInt.toNat 0 &&& (127 : Int32)).toInt64) <<< (((7 : Int32) * i) &&& 0x3f).toInt64))
theorem own_mapD (rs : List Int32) (p : Nat) : (rs.map fun x => x.toInt8.toInt32).getD p 0 = (rs.getD p 0).toInt8.toInt32 := by
  rw [List.getD_eq_getElem?_getD, List.getD_eq_getElem?_getD, List.getElem?_map]
  cases rs[p]? <;> rfl
theorem own_oN {g : Nat} (h : g < 1000) : (Int32.ofNat g).toInt = g := Int32.toInt_ofNat_small (by omega)
theorem own_addj (a : Int32) (j : Nat) (ha : 0 ≤ a.toInt ∧ a.toInt ≤ 7) (hj : j ≤ 10) : (a + Int32.ofNat j).toInt.toNat = a.toInt.toNat + j := by
  have x := c_iadd a (Int32.ofNat j)
  have y := rng32 (a + Int32.ofNat j)
  rw [own_oN (by omega)] at x
  omega
theorem own_subj (a : Int32) (j : Nat) (ha : 0 ≤ a.toInt ∧ a.toInt ≤ 7) (hj : j ≤ 10) : Int32.ofNat (a.toInt.toNat + j) - a = Int32.ofNat j := by
  have x := c_isub (Int32.ofNat (a.toInt.toNat + j)) a
  have y := rng32 (Int32.ofNat (a.toInt.toNat + j) - a)
  rw [own_oN (by omega)] at x
  apply Int32.toInt_inj.mp
  rw [own_oN (by omega)]
  omega
theorem own_core (rs : List Int32) (n : Int64) (k a : Int32) (g : Int64) (ha : 0 ≤ a.toInt ∧ a.toInt ≤ 7) (hk : 1 ≤ k.toInt ∧ k.toInt ≤ 10) (H : ∀ p, p < 20 → Rel1 (Int32.ofNat p) n k a g (rs.getD p 0)) :
    ∀ (m j : Nat) (acc : Int64), j + m = k.toInt.toNat → 1 ≤ m → own_L acc.toBitVec n.toBitVec (7 * j) → own_L (own_rd (rs.map fun x => x.toInt8.toInt32) a (10 - j) (Int32.ofNat j) acc).toBitVec n.toBitVec (7 * k.toInt.toNat) := by
  intro m
  induction m with
  | zero => intro j acc _ h; omega
  | succ m ih =>
    intro j acc hjm _ hL
    have hR := H (a.toInt.toNat + j) (by omega)
    unfold Rel1 at hR
    rw [own_subj a j ha (by omega)] at hR
    have hs := own_shlB (((rs.getD (a.toInt.toNat + j) 0).toInt8.toInt32 &&& (127 : Int32)).toInt64) ((7 : Int32) * Int32.ofNat j) (7 * j) (own_sh7 ⟨j, by omega⟩)
    rw [show 10 - j = (9 - j) + 1 by omega, own_rd, own_addj a j ha (by omega), own_mapD]
    have kk : (k - (1 : Int32)).toInt = k.toInt - 1 := by
      have x := c_isub k (1 : Int32)
      have y := rng32 (k - (1 : Int32))
      simp only [Int32.reduceToInt] at x
      omega
    simp only [Int32.lt_iff_toInt_lt, own_oN (show j < 1000 by omega), kk] at hR
    simp only [Int32.reduceToInt] at hR
    rcases hR with ⟨x, _⟩ | ⟨_, x, y, z⟩ | ⟨_, x, y, z, w⟩ | ⟨_, x, y, z, w⟩ | ⟨_, x, _⟩
    · omega
    · have j9 : j = 9 := by
        have q := congrArg Int32.toInt y
        rw [own_oN (by omega)] at q
        simp only [Int32.reduceToInt] at q
        omega
      subst j9
      have bb := own_ninth n _ _ z
      have step : own_L (acc ||| (((rs.getD (a.toInt.toNat + 9) 0).toInt8.toInt32 &&& (127 : Int32)).toInt64 <<< (((7 : Int32) * Int32.ofNat 9) &&& 0x3f).toInt64)).toBitVec n.toBitVec (7 * k.toInt.toNat) := by
        rw [Int64.toBitVec_or, hs, show 7 * k.toInt.toNat = 7 * 9 + 7 by omega]
        refine own_Lstep _ _ _ (7 * 9) (by decide) (fun t h1 h2 => ?_) (fun t h1 h2 => by omega) hL
        have : t = 0 := by omega
        subst this
        exact bb
      split
      · exact step
      · exact step
    · obtain ⟨g1, g2⟩ := own_high _ (own_grng _) _ w
      rw [if_pos g2, ← show Int32.ofNat (j + 1) = Int32.ofNat j + (1 : Int32) from Int32.ofNat_add j 1, show 9 - j = 10 - (j + 1) by omega]
      refine ih (j + 1) _ (by omega) (by omega) ?_
      rw [Int64.toBitVec_or, hs, g1, show 7 * (j + 1) = 7 * j + 7 by omega]
      refine own_Lstep _ _ _ (7 * j) (by omega) (fun t h1 h2 => ?_) (fun t h1 h2 => ?_) hL
      · rw [own_grp n j (by omega)]; simp [h1]
      · rw [own_grp n j (by omega)]; have : ¬ t < 7 := by omega
        simp [this]
    · obtain ⟨g1, g2⟩ := own_low _ (own_grng _) _ w
      rw [if_neg g2, Int64.toBitVec_or, hs, g1, show 7 * k.toInt.toNat = 7 * j + 7 by omega]
      refine own_Lstep _ _ _ (7 * j) (by omega) (fun t h1 h2 => ?_) (fun t h1 h2 => ?_) hL
      · rw [own_grp n j (by omega)]; simp [h1]
      · rw [own_grp n j (by omega)]; have : ¬ t < 7 := by omega
        simp [this]
    · omega
theorem own_shk : ∀ k : Fin 10, ((7 : Int32) * Int32.ofNat k).toBitVec.toNat % 64 = 7 * k := by decide
theorem own_whole (rs : List Int32) (n : Int64) (k a : Int32) (g : Int64) (ha : 0 ≤ a.toInt ∧ a.toInt ≤ 7) (hk : 1 ≤ k.toInt ∧ k.toInt ≤ 10) (H : ∀ p, p < 20 → Rel1 (Int32.ofNat p) n k a g (rs.getD p 0)) (e : Int64) (he : (k = (10 : Int32) ∧ e = n) ∨ (¬ (k = (10 : Int32)) ∧ e = (n &&& (((1 : Int64) <<< (((7 : Int32) * k) &&& 0x3f).toInt64) - (1 : Int64))))) : own_rd (rs.map fun x => x.toInt8.toInt32) a 10 0 0 = e := by
  have c := own_core rs n k a g ha hk H k.toInt.toNat 0 0 (by omega) (by omega) (own_L0 _)
  apply Int64.toBitVec_inj.mp
  rcases he with ⟨h1, h2⟩ | ⟨h1, h2⟩
  · subst h1
    rw [h2]
    exact own_Lall _ _ _ (by decide) c
  · have kn : ¬ k.toInt = 10 := fun q => h1 (Int32.toInt_inj.mp (by rw [q]; rfl))
    have ek : k = Int32.ofNat k.toInt.toNat := by
      apply Int32.toInt_inj.mp
      rw [own_oN (by omega)]; omega
    rw [h2, Int64.toBitVec_and, Int64.toBitVec_sub, own_shlB 1 ((7 : Int32) * k) (7 * k.toInt.toNat) (by have q := own_shk ⟨k.toInt.toNat, by omega⟩; rw [← ek] at q; exact q)]
    exact own_Lmask _ _ _ (by omega) c
theorem own_go (bs : List Int32) (a i : Int32) (acc : Int64) (hi : 0 ≤ i.toInt ∧ i.toInt < 10) (h : bs.getD (a + i).toInt.toNat 0 < (0 : Int32)) : own_rd bs a (10 - (i + (1 : Int32)).toInt).toNat (i + (1 : Int32)) (acc ||| (((bs.getD (a + i).toInt.toNat 0 &&& (127 : Int32)).toInt64) <<< (((7 : Int32) * i) &&& 0x3f).toInt64)) = own_rd bs a (10 - i.toInt).toNat i acc := by
  rw [own_inc (by omega), show (10 - i.toInt).toNat = (10 - (i.toInt + 1)).toNat + 1 by omega]
  conv => rhs; rw [own_rd, if_pos h]
theorem own_stop (bs : List Int32) (a i : Int32) (acc : Int64) (hi : 0 ≤ i.toInt ∧ i.toInt < 10) (h : ¬ bs.getD (a + i).toInt.toNat 0 < (0 : Int32)) : (acc ||| (((bs.getD (a + i).toInt.toNat 0 &&& (127 : Int32)).toInt64) <<< (((7 : Int32) * i) &&& 0x3f).toInt64)) = own_rd bs a (10 - i.toInt).toNat i acc := by
  rw [show (10 - i.toInt).toNat = (10 - (i.toInt + 1)).toNat + 1 by omega, own_rd, if_neg h]
theorem own_end (bs : List Int32) (a i : Int32) (acc : Int64) (h : ¬ i < (10 : Int32)) : acc = own_rd bs a (10 - i.toInt).toNat i acc := by
  rw [Int32.lt_iff_toInt_lt] at h
  simp only [Int32.reduceToInt] at h
  rw [show (10 - i.toInt).toNat = 0 by omega, own_rd]

theorem pn_1 : plainName "com/example/rank4/rank4/Varint" = true := by first | (simp [plainName, overriddenIn]; done) | decide +kernel
theorem d2_0 : decode prog_43_method_3_code 0 = .ok (.lconst 0, 1) := by decide +kernel
theorem d2_1 : decode prog_43_method_3_code 1 = .ok (.lstore_n 2, 1) := by decide +kernel
theorem d2_2 : decode prog_43_method_3_code 2 = .ok (.iconst 0, 1) := by decide +kernel
theorem d2_3 : decode prog_43_method_3_code 3 = .ok (.istore 4, 2) := by decide +kernel
theorem d2_5 : decode prog_43_method_3_code 5 = .ok (.iload 4, 2) := by decide +kernel
theorem d2_7 : decode prog_43_method_3_code 7 = .ok (.bipush 10, 2) := by decide +kernel
theorem d2_9 : decode prog_43_method_3_code 9 = .ok (.if_icmp .ge 40, 3) := by decide +kernel
theorem d2_12 : decode prog_43_method_3_code 12 = .ok (.aload_n 0, 1) := by decide +kernel
theorem d2_13 : decode prog_43_method_3_code 13 = .ok (.iload_n 1, 1) := by decide +kernel
theorem d2_14 : decode prog_43_method_3_code 14 = .ok (.iload 4, 2) := by decide +kernel
theorem d2_16 : decode prog_43_method_3_code 16 = .ok (.iadd, 1) := by decide +kernel
theorem d2_17 : decode prog_43_method_3_code 17 = .ok (.baload, 1) := by decide +kernel
theorem d2_18 : decode prog_43_method_3_code 18 = .ok (.istore 5, 2) := by decide +kernel
theorem d2_20 : decode prog_43_method_3_code 20 = .ok (.lload_n 2, 1) := by decide +kernel
theorem d2_21 : decode prog_43_method_3_code 21 = .ok (.iload 5, 2) := by decide +kernel
theorem d2_23 : decode prog_43_method_3_code 23 = .ok (.bipush 127, 2) := by decide +kernel
theorem d2_25 : decode prog_43_method_3_code 25 = .ok (.iand, 1) := by decide +kernel
theorem d2_26 : decode prog_43_method_3_code 26 = .ok (.i2l, 1) := by decide +kernel
theorem d2_27 : decode prog_43_method_3_code 27 = .ok (.bipush 7, 2) := by decide +kernel
theorem d2_29 : decode prog_43_method_3_code 29 = .ok (.iload 4, 2) := by decide +kernel
theorem d2_31 : decode prog_43_method_3_code 31 = .ok (.imul, 1) := by decide +kernel
theorem d2_32 : decode prog_43_method_3_code 32 = .ok (.lshl, 1) := by decide +kernel
theorem d2_33 : decode prog_43_method_3_code 33 = .ok (.lor, 1) := by decide +kernel
theorem d2_34 : decode prog_43_method_3_code 34 = .ok (.lstore_n 2, 1) := by decide +kernel
theorem d2_35 : decode prog_43_method_3_code 35 = .ok (.iload 5, 2) := by decide +kernel
theorem d2_37 : decode prog_43_method_3_code 37 = .ok (.ifCond .lt 6, 3) := by decide +kernel
theorem d2_40 : decode prog_43_method_3_code 40 = .ok (.goto 9, 3) := by decide +kernel
theorem d2_43 : decode prog_43_method_3_code 43 = .ok (.iinc 4 1, 3) := by decide +kernel
theorem d2_46 : decode prog_43_method_3_code 46 = .ok (.goto (-41), 3) := by decide +kernel
theorem d2_49 : decode prog_43_method_3_code 49 = .ok (.lload_n 2, 1) := by decide +kernel
theorem d2_50 : decode prog_43_method_3_code 50 = .ok (.lreturn, 1) := by decide +kernel
def Rel2 (p2 : Int32) (bs1 : List Int32) (r : Int64) : Prop := r = own_rd bs1 p2 10 0 0
def Q2 (Z : State) (a1 : Addr) (p2 : Int32) (bs1 : List Int32) (h0 : Heap) (n0 : Nat) (v : Option Value) (h : Heap) (L : List Loc) : Prop := ∃ r : Int64, v = some (.long r) ∧ Rel2 p2 bs1 r ∧ Fr n0 L ∧ h = h0
theorem ef_rm2 (m : MethodId) (a1 : Addr) (p2 : Int32) : entryFrame m #[(.ref a1), (.int p2)] 6 = mkF m 0 #[.val (.ref a1), .val (.int p2), .unset, .unset, .unset, .unset] [] := by first | (simp [entryFrame, mkF, argsToLocals, Value.category]; done) | rfl
set_option maxRecDepth 65536 in
set_option maxHeartbeats 40000000 in
theorem rm2 (l : Launch) (Z : State) (a0 : Array Value) (hw : ∀ d ∈ tables_1, d.before a0 Z = true) (ws : List Jvm.Cond) (a1 : Addr) (p2 : Int32) (bs1 : List Int32) (h0 : Heap) (n0 : Nat) (Z0 : n0 ≤ h0.size) (A_a1 : AI Z h0 a1 .byte bs1) (hp : 0 ≤ p2.toInt ∧ p2.toInt ≤ 7) (hl : bs1.length = 20) :
    MetFree l (⟨"com/example/rank4/rank4/Varint", "read", "([BI)J"⟩ : MethodName) (head1 (Jvm.Cond.code (⟨"com/example/rank4/rank4/Varint", "read", "([BI)J"⟩ : MethodName) prog_43_method_3_code 6 (some .long) :: ws) ({ frames := 0, cells := 0, slots := 0, locals := 0 } : Room)) (fun a U => a = #[(.ref a1), (.int p2)] ∧ Z.Warmed39 U.vm ∧ U.heap = h0) (fun _ _ _ _ _ => True) (fun _ U o U' => ∃ v L, o = .returned v ∧ (Q2 Z a1 p2 bs1 h0 n0) v U'.heap L ∧ FrameEnd U o U' L ({ frames := 0, cells := 0, slots := 0, locals := 0 } : Room).cells ({ frames := 0, cells := 0, slots := 0, locals := 0 } : Room).slots) := by
  refine MetFree.of_bodySF (plainFor_of_name pn_1) hisR ?_
  intro p e s m args below meth c s₁ Bd hml0 hP hK
  obtain ⟨rfl, hZ, hh⟩ := hP
  have hx := Bd.exec
  have hby := Bd.bytes
  have hml : c.maxLocals = 6 := hml0
  have hown : s.vm.findClass "com/example/rank4/rank4/Varint" = some m.cls := findClass_of_methodNamed Bd.named
  have hnm := (name_of_methodNamed Bd.named Bd.method).1
  have hlk : meth.locks = false := BodyLoose.notSynchronized Bd
  have X0 : Stand p l e ({ frames := 0, cells := 0, slots := 0, locals := 0 } : Room) s m #[(.ref a1), (.int p2)] below meth c s₁ [] 0 0 := Stand.of_body Bd
  have e0 : s₁.heap = h0 := by rw [← hh, Bd.state]; rfl
  have N0 := Fr.nil n0
  show Go p e below s ({ frames := 0, cells := 0, slots := 0, locals := 0 } : Room).cells ({ frames := 0, cells := 0, slots := 0, locals := 0 } : Room).slots (Q2 Z a1 p2 bs1 h0 n0) s₁ (entryFrame m #[(.ref a1), (.int p2)] 6)
  rw [ef_rm2 m a1 p2]
  refine g_lconst 1 X0 hx (hb hby d2_0) rfl (z := (0 : Int64)) rfl ?_
  refine g_lstoreN 2 X0 hx (hb hby d2_1) rfl (Ls' := #[.val (.ref a1), .val (.int p2), .val (.long (0 : Int64)), .second, .unset, .unset]) rfl ?_
  refine g_iconst 3 X0 hx (hb hby d2_2) rfl (z := (0 : Int32)) rfl ?_
  refine g_istore 5 X0 hx (hb hby d2_3) rfl (Ls' := #[.val (.ref a1), .val (.int p2), .val (.long (0 : Int64)), .second, .val (.int (0 : Int32)), .unset]) rfl ?_
  refine g_iload 7 X0 hx (hb hby d2_5) rfl (v := (0 : Int32)) rfl ?_
  refine g_bipush 9 X0 hx (hb hby d2_7) rfl (z := (10 : Int32)) rfl ?_
  refine g_icmpNo 12 X0 hx (hb hby d2_9)  (tlt (by decide : (0 : Int32) < (10 : Int32))).2.1 rfl ?_
  refine g_aloadN 13 X0 hx (hb hby d2_12) rfl (v := (.ref a1)) rfl rfl ?_
  refine g_iloadN 14 X0 hx (hb hby d2_13) rfl (v := p2) rfl ?_
  refine g_iload 16 X0 hx (hb hby d2_14) rfl (v := (0 : Int32)) rfl ?_
  refine g_iadd 17 X0 hx (hb hby d2_16) rfl (z := (p2 + (0 : Int32))) rfl ?_
  refine g_baload 18 X0 hx hZ e0 A_a1 ((p2 + (0 : Int32)).toInt.toNat) (own_nat0 (by rw [own_addi p2 _ hp (by decide)]; simp only [Int32.reduceToInt]; omega)) rfl (z := (bs1.getD (p2 + (0 : Int32)).toInt.toNat 0)) (own_get (by rw [own_addi p2 _ hp (by decide)]; simp only [Int32.reduceToInt]; omega)) (hb hby d2_17) rfl ?_
  refine g_istore 20 X0 hx (hb hby d2_18) rfl (Ls' := #[.val (.ref a1), .val (.int p2), .val (.long (0 : Int64)), .second, .val (.int (0 : Int32)), .val (.int (bs1.getD (p2 + (0 : Int32)).toInt.toNat 0))]) rfl ?_
  refine g_lloadN 21 X0 hx (hb hby d2_20) rfl (v := (0 : Int64)) rfl ?_
  refine g_iload 23 X0 hx (hb hby d2_21) rfl (v := (bs1.getD (p2 + (0 : Int32)).toInt.toNat 0)) rfl ?_
  refine g_bipush 25 X0 hx (hb hby d2_23) rfl (z := (127 : Int32)) rfl ?_
  refine g_iand 26 X0 hx (hb hby d2_25) rfl (z := ((bs1.getD (p2 + (0 : Int32)).toInt.toNat 0) &&& (127 : Int32))) rfl ?_
  refine g_i2l 27 X0 hx (hb hby d2_26) rfl (z := (((bs1.getD (p2 + (0 : Int32)).toInt.toNat 0) &&& (127 : Int32)).toInt64)) rfl ?_
  refine g_bipush 29 X0 hx (hb hby d2_27) rfl (z := (7 : Int32)) rfl ?_
  refine g_iload 31 X0 hx (hb hby d2_29) rfl (v := (0 : Int32)) rfl ?_
  refine g_imul 32 X0 hx (hb hby d2_31) rfl (z := ((7 : Int32) * (0 : Int32))) rfl ?_
  refine g_lshl 33 X0 hx (hb hby d2_32) rfl (z := ((((bs1.getD (p2 + (0 : Int32)).toInt.toNat 0) &&& (127 : Int32)).toInt64) <<< (((7 : Int32) * (0 : Int32)) &&& 0x3f).toInt64)) rfl ?_
  refine g_lor 34 X0 hx (hb hby d2_33) rfl (z := ((0 : Int64) ||| ((((bs1.getD (p2 + (0 : Int32)).toInt.toNat 0) &&& (127 : Int32)).toInt64) <<< (((7 : Int32) * (0 : Int32)) &&& 0x3f).toInt64))) rfl ?_
  refine g_lstoreN 35 X0 hx (hb hby d2_34) rfl (Ls' := #[.val (.ref a1), .val (.int p2), .val (.long ((0 : Int64) ||| ((((bs1.getD (p2 + (0 : Int32)).toInt.toNat 0) &&& (127 : Int32)).toInt64) <<< (((7 : Int32) * (0 : Int32)) &&& 0x3f).toInt64))), .second, .val (.int (0 : Int32)), .val (.int (bs1.getD (p2 + (0 : Int32)).toInt.toNat 0))]) rfl ?_
  refine g_iload 37 X0 hx (hb hby d2_35) rfl (v := (bs1.getD (p2 + (0 : Int32)).toInt.toNat 0)) rfl ?_
  by_cases hc37_0 : (bs1.getD (p2 + (0 : Int32)).toInt.toNat 0) < (0 : Int32)
  ·
    refine g_ifYes 43 X0 hx (hb hby d2_37)  ((if0 _ _).trans (tlt hc37_0).1) (by decide) (by decide) ?_
    refine g_iinc 46 X0 hx (hb hby d2_43) rfl (x := (0 : Int32)) rfl (z := ((0 : Int32) + (1 : Int32))) rfl (Ls' := #[.val (.ref a1), .val (.int p2), .val (.long ((0 : Int64) ||| ((((bs1.getD (p2 + (0 : Int32)).toInt.toNat 0) &&& (127 : Int32)).toInt64) <<< (((7 : Int32) * (0 : Int32)) &&& 0x3f).toInt64))), .second, .val (.int ((0 : Int32) + (1 : Int32))), .val (.int (bs1.getD (p2 + (0 : Int32)).toInt.toNat 0))]) rfl ?_
    refine g_goto 5 X0 hx (hb hby d2_46) (by decide) (by decide) ?_
    have LOOP5 : ∀ (fuel : Nat) (lq : Int64) (li : Int32) (lb : Int32), (10 - li.toInt).toNat < fuel → (0 ≤ li.toInt ∧ li.toInt ≤ 10) → (own_rd bs1 p2 (10 - li.toInt).toNat li lq = own_rd bs1 p2 10 0 0) → Go p e below s ({ frames := 0, cells := 0, slots := 0, locals := 0 } : Room).cells ({ frames := 0, cells := 0, slots := 0, locals := 0 } : Room).slots (Q2 Z a1 p2 bs1 h0 n0) s₁ (mkF m 5 #[.val (.ref a1), .val (.int p2), .val (.long lq), .second, .val (.int li), .val (.int lb)] []) := by
      intro fuel
      induction fuel with
      | zero => intro lq li lb hm; exact absurd hm (Nat.not_lt_zero _)
      | succ fuel ih =>
        intro lq li lb hm hi0 hq
        refine g_iload 7 X0 hx (hb hby d2_5) rfl (v := li) rfl ?_
        refine g_bipush 9 X0 hx (hb hby d2_7) rfl (z := (10 : Int32)) rfl ?_
        by_cases hc9_1 : li < (10 : Int32)
        ·
          refine g_icmpNo 12 X0 hx (hb hby d2_9)  (tlt hc9_1).2.1 rfl ?_
          refine g_aloadN 13 X0 hx (hb hby d2_12) rfl (v := (.ref a1)) rfl rfl ?_
          refine g_iloadN 14 X0 hx (hb hby d2_13) rfl (v := p2) rfl ?_
          refine g_iload 16 X0 hx (hb hby d2_14) rfl (v := li) rfl ?_
          refine g_iadd 17 X0 hx (hb hby d2_16) rfl (z := (p2 + li)) rfl ?_
          refine g_baload 18 X0 hx hZ e0 A_a1 ((p2 + li).toInt.toNat) (own_nat0 (by rw [own_addi p2 _ hp hi0]; omega)) rfl (z := (bs1.getD (p2 + li).toInt.toNat 0)) (own_get (by have q := Int32.lt_iff_toInt_lt.mp hc9_1; simp only [Int32.reduceToInt] at q; rw [own_addi p2 li hp hi0]; omega)) (hb hby d2_17) rfl ?_
          refine g_istore 20 X0 hx (hb hby d2_18) rfl (Ls' := #[.val (.ref a1), .val (.int p2), .val (.long lq), .second, .val (.int li), .val (.int (bs1.getD (p2 + li).toInt.toNat 0))]) rfl ?_
          refine g_lloadN 21 X0 hx (hb hby d2_20) rfl (v := lq) rfl ?_
          refine g_iload 23 X0 hx (hb hby d2_21) rfl (v := (bs1.getD (p2 + li).toInt.toNat 0)) rfl ?_
          refine g_bipush 25 X0 hx (hb hby d2_23) rfl (z := (127 : Int32)) rfl ?_
          refine g_iand 26 X0 hx (hb hby d2_25) rfl (z := ((bs1.getD (p2 + li).toInt.toNat 0) &&& (127 : Int32))) rfl ?_
          refine g_i2l 27 X0 hx (hb hby d2_26) rfl (z := (((bs1.getD (p2 + li).toInt.toNat 0) &&& (127 : Int32)).toInt64)) rfl ?_
          refine g_bipush 29 X0 hx (hb hby d2_27) rfl (z := (7 : Int32)) rfl ?_
          refine g_iload 31 X0 hx (hb hby d2_29) rfl (v := li) rfl ?_
          refine g_imul 32 X0 hx (hb hby d2_31) rfl (z := ((7 : Int32) * li)) rfl ?_
          refine g_lshl 33 X0 hx (hb hby d2_32) rfl (z := ((((bs1.getD (p2 + li).toInt.toNat 0) &&& (127 : Int32)).toInt64) <<< (((7 : Int32) * li) &&& 0x3f).toInt64)) rfl ?_
          refine g_lor 34 X0 hx (hb hby d2_33) rfl (z := (lq ||| ((((bs1.getD (p2 + li).toInt.toNat 0) &&& (127 : Int32)).toInt64) <<< (((7 : Int32) * li) &&& 0x3f).toInt64))) rfl ?_
          refine g_lstoreN 35 X0 hx (hb hby d2_34) rfl (Ls' := #[.val (.ref a1), .val (.int p2), .val (.long (lq ||| ((((bs1.getD (p2 + li).toInt.toNat 0) &&& (127 : Int32)).toInt64) <<< (((7 : Int32) * li) &&& 0x3f).toInt64))), .second, .val (.int li), .val (.int (bs1.getD (p2 + li).toInt.toNat 0))]) rfl ?_
          refine g_iload 37 X0 hx (hb hby d2_35) rfl (v := (bs1.getD (p2 + li).toInt.toNat 0)) rfl ?_
          by_cases hc37_2 : (bs1.getD (p2 + li).toInt.toNat 0) < (0 : Int32)
          ·
            refine g_ifYes 43 X0 hx (hb hby d2_37)  ((if0 _ _).trans (tlt hc37_2).1) (by decide) (by decide) ?_
            refine g_iinc 46 X0 hx (hb hby d2_43) rfl (x := li) rfl (z := (li + (1 : Int32))) rfl (Ls' := #[.val (.ref a1), .val (.int p2), .val (.long (lq ||| ((((bs1.getD (p2 + li).toInt.toNat 0) &&& (127 : Int32)).toInt64) <<< (((7 : Int32) * li) &&& 0x3f).toInt64))), .second, .val (.int (li + (1 : Int32))), .val (.int (bs1.getD (p2 + li).toInt.toNat 0))]) rfl ?_
            refine g_goto 5 X0 hx (hb hby d2_46) (by decide) (by decide) ?_
            exact ih (lq ||| ((((bs1.getD (p2 + li).toInt.toNat 0) &&& (127 : Int32)).toInt64) <<< (((7 : Int32) * li) &&& 0x3f).toInt64)) (li + (1 : Int32)) (bs1.getD (p2 + li).toInt.toNat 0) (by have q := Int32.lt_iff_toInt_lt.mp hc9_1; simp only [Int32.reduceToInt] at q; rw [own_inc (by omega)]; omega) (by rw [own_inc (by omega)]; have q := Int32.lt_iff_toInt_lt.mp hc9_1; simp only [Int32.reduceToInt] at q; omega) ((own_go bs1 p2 li lq (by have q := Int32.lt_iff_toInt_lt.mp hc9_1; simp only [Int32.reduceToInt] at q; omega) hc37_2).trans hq)
          ·
            refine g_ifNo 40 X0 hx (hb hby d2_37)  ((if0 _ _).trans (flt hc37_2).1) rfl ?_
            refine g_goto 49 X0 hx (hb hby d2_40) (by decide) (by decide) ?_
            refine g_lloadN 50 X0 hx (hb hby d2_49) rfl (v := (lq ||| ((((bs1.getD (p2 + li).toInt.toNat 0) &&& (127 : Int32)).toInt64) <<< (((7 : Int32) * li) &&& 0x3f).toInt64))) rfl ?_
            exact g_retJ X0 hx Bd.returns hlk (hb hby d2_50) (by decide) (by decide) ⟨(lq ||| ((((bs1.getD (p2 + li).toInt.toNat 0) &&& (127 : Int32)).toInt64) <<< (((7 : Int32) * li) &&& 0x3f).toInt64)), rfl, ((own_stop bs1 p2 li lq (by have q := Int32.lt_iff_toInt_lt.mp hc9_1; simp only [Int32.reduceToInt] at q; omega) hc37_2).trans hq), N0, e0⟩
        ·
          refine g_icmpYes 49 X0 hx (hb hby d2_9)  (flt hc9_1).2.1 (by decide) (by decide) ?_
          refine g_lloadN 50 X0 hx (hb hby d2_49) rfl (v := lq) rfl ?_
          exact g_retJ X0 hx Bd.returns hlk (hb hby d2_50) (by decide) (by decide) ⟨lq, rfl, ((own_end bs1 p2 li lq hc9_1).trans hq), N0, e0⟩
    exact LOOP5 _ ((0 : Int64) ||| ((((bs1.getD (p2 + (0 : Int32)).toInt.toNat 0) &&& (127 : Int32)).toInt64) <<< (((7 : Int32) * (0 : Int32)) &&& 0x3f).toInt64)) ((0 : Int32) + (1 : Int32)) (bs1.getD (p2 + (0 : Int32)).toInt.toNat 0) (Nat.lt_succ_self _) (by decide) (own_go bs1 p2 (0 : Int32) (0 : Int64) (by decide) hc37_0)
  ·
    refine g_ifNo 40 X0 hx (hb hby d2_37)  ((if0 _ _).trans (flt hc37_0).1) rfl ?_
    refine g_goto 49 X0 hx (hb hby d2_40) (by decide) (by decide) ?_
    refine g_lloadN 50 X0 hx (hb hby d2_49) rfl (v := ((0 : Int64) ||| ((((bs1.getD (p2 + (0 : Int32)).toInt.toNat 0) &&& (127 : Int32)).toInt64) <<< (((7 : Int32) * (0 : Int32)) &&& 0x3f).toInt64))) rfl ?_
    exact g_retJ X0 hx Bd.returns hlk (hb hby d2_50) (by decide) (by decide) ⟨((0 : Int64) ||| ((((bs1.getD (p2 + (0 : Int32)).toInt.toNat 0) &&& (127 : Int32)).toInt64) <<< (((7 : Int32) * (0 : Int32)) &&& 0x3f).toInt64)), rfl, (own_stop bs1 p2 (0 : Int32) (0 : Int64) (by decide) hc37_0), N0, e0⟩
theorem pd_0 : parseMethodDescriptor "(IJIIJ)B" = some ⟨[.int, .long, .int, .int, .long], some .byte⟩ := by decide +kernel
theorem pd_1 : parseMethodDescriptor "([BI)J" = some ⟨[(.array .byte), .int], some .long⟩ := by decide +kernel
theorem sub0_0 (p2 : Int32) (z1 : Int32) (z2 : Int32) (z3 : Int32) (hz1 : p2 &&& (2147483647 : Int32) = z1) (hz2 : z1 % (10 : Int32) = z2) (hz3 : (1 : Int32) + z2 = z3) : 1 ≤ z3.toInt ∧ z3.toInt ≤ 10 := by
  have o0 := rng32 p2
  have o1 := rng32 (p2 &&& (2147483647 : Int32))
  have o2 := c_mask p2 (2147483647 : Int32) 31 (by decide) (by decide)
  have o3 := rng32 z1
  have o4 := rng32 (z1 % (10 : Int32))
  have o5 := c_irem z1 (10 : Int32) 10 (by decide)
  have o6 := rng32 z2
  have o7 := rng32 ((1 : Int32) + z2)
  have o8 := c_iadd (1 : Int32) z2
  have o9 := rng32 z3
  simp only [Int32.lt_iff_toInt_lt, Int64.lt_iff_toInt_lt, Int32.le_iff_toInt_le, Int64.le_iff_toInt_le, ← Int32.toInt_inj, ← Int64.toInt_inj, Int32.reduceToInt, Int64.reduceToInt, Int32.toInt_toInt64, ne_eq] at * <;> omega
theorem sub0_1 (p3 : Int32) (z4 : Int32) (hz4 : p3 &&& (7 : Int32) = z4) : 0 ≤ z4.toInt ∧ z4.toInt ≤ 7 := by
  have o0 := rng32 p3
  have o1 := rng32 (p3 &&& (7 : Int32))
  have o2 := c_mask p3 (7 : Int32) 3 (by decide) (by decide)
  have o3 := rng32 z4
  simp only [Int32.lt_iff_toInt_lt, Int64.lt_iff_toInt_lt, Int32.le_iff_toInt_le, Int64.le_iff_toInt_le, ← Int32.toInt_inj, ← Int64.toInt_inj, Int32.reduceToInt, Int64.reduceToInt, Int32.toInt_toInt64, ne_eq] at * <;> omega
theorem leaf_0 (q1 : Int64) (p2 : Int32) (p3 : Int32) (q4 : Int64) (z3 : Int32) (z4 : Int32) (r7 : Int32) (r11 : Int32) (r15 : Int32) (r19 : Int32) (r23 : Int32) (r27 : Int32) (r31 : Int32) (r35 : Int32) (r39 : Int32) (r43 : Int32) (r47 : Int32) (r51 : Int32) (r55 : Int32) (r59 : Int32) (r63 : Int32) (r67 : Int32) (r71 : Int32) (r75 : Int32) (r79 : Int32) (r83 : Int32) (z88 : Int64) (r90 : Int64) (z94 : Int32) (hK : 1 ≤ z3.toInt ∧ z3.toInt ≤ 10) (hA : 0 ≤ z4.toInt ∧ z4.toInt ≤ 7) (hr7 : Rel1 (0 : Int32) q1 z3 z4 q4 r7) (hr11 : Rel1 (1 : Int32) q1 z3 z4 q4 r11) (hr15 : Rel1 (2 : Int32) q1 z3 z4 q4 r15) (hr19 : Rel1 (3 : Int32) q1 z3 z4 q4 r19) (hr23 : Rel1 (4 : Int32) q1 z3 z4 q4 r23) (hr27 : Rel1 (5 : Int32) q1 z3 z4 q4 r27) (hr31 : Rel1 (6 : Int32) q1 z3 z4 q4 r31) (hr35 : Rel1 (7 : Int32) q1 z3 z4 q4 r35) (hr39 : Rel1 (8 : Int32) q1 z3 z4 q4 r39) (hr43 : Rel1 (9 : Int32) q1 z3 z4 q4 r43) (hr47 : Rel1 (10 : Int32) q1 z3 z4 q4 r47) (hr51 : Rel1 (11 : Int32) q1 z3 z4 q4 r51) (hr55 : Rel1 (12 : Int32) q1 z3 z4 q4 r55) (hr59 : Rel1 (13 : Int32) q1 z3 z4 q4 r59) (hr63 : Rel1 (14 : Int32) q1 z3 z4 q4 r63) (hr67 : Rel1 (15 : Int32) q1 z3 z4 q4 r67) (hr71 : Rel1 (16 : Int32) q1 z3 z4 q4 r71) (hr75 : Rel1 (17 : Int32) q1 z3 z4 q4 r75) (hr79 : Rel1 (18 : Int32) q1 z3 z4 q4 r79) (hr83 : Rel1 (19 : Int32) q1 z3 z4 q4 r83) (hj89 : (z3 = (10 : Int32) ∧ z88 = q1) ∨ (¬ (z3 = (10 : Int32)) ∧ z88 = (q1 &&& (((1 : Int64) <<< (((7 : Int32) * z3) &&& 0x3f).toInt64) - (1 : Int64))))) (hr90 : Rel2 z4 [r7.toInt8.toInt32, r11.toInt8.toInt32, r15.toInt8.toInt32, r19.toInt8.toInt32, r23.toInt8.toInt32, r27.toInt8.toInt32, r31.toInt8.toInt32, r35.toInt8.toInt32, r39.toInt8.toInt32, r43.toInt8.toInt32, r47.toInt8.toInt32, r51.toInt8.toInt32, r55.toInt8.toInt32, r59.toInt8.toInt32, r63.toInt8.toInt32, r67.toInt8.toInt32, r71.toInt8.toInt32, r75.toInt8.toInt32, r79.toInt8.toInt32, r83.toInt8.toInt32] r90) (hj95 : (r90 = z88 ∧ z94 = (1 : Int32)) ∨ (¬ (r90 = z88) ∧ z94 = (0 : Int32))) : z94 = 1 := by
  have H : ∀ p, p < 20 → Rel1 (Int32.ofNat p) q1 z3 z4 q4 ([r7, r11, r15, r19, r23, r27, r31, r35, r39, r43, r47, r51, r55, r59, r63, r67, r71, r75, r79, r83].getD p 0) := by
    intro p hp
    match p, hp with
    | 0, _ => exact hr7
    | 1, _ => exact hr11
    | 2, _ => exact hr15
    | 3, _ => exact hr19
    | 4, _ => exact hr23
    | 5, _ => exact hr27
    | 6, _ => exact hr31
    | 7, _ => exact hr35
    | 8, _ => exact hr39
    | 9, _ => exact hr43
    | 10, _ => exact hr47
    | 11, _ => exact hr51
    | 12, _ => exact hr55
    | 13, _ => exact hr59
    | 14, _ => exact hr63
    | 15, _ => exact hr67
    | 16, _ => exact hr71
    | 17, _ => exact hr75
    | 18, _ => exact hr79
    | 19, _ => exact hr83
    | p + 20, hp => exact absurd hp (by omega)
  have k := own_whole [r7, r11, r15, r19, r23, r27, r31, r35, r39, r43, r47, r51, r55, r59, r63, r67, r71, r75, r79, r83] q1 z3 z4 q4 hA hK H _ hj89
  have r : r90 = _ := hr90.trans k
  rcases hj95 with ⟨_, b⟩ | ⟨d, _⟩
  · exact b
  · exact absurd r d
def Q0 (Z : State) (q1 : Int64) (p2 : Int32) (p3 : Int32) (q4 : Int64) (h0 : Heap) (n0 : Nat) (v : Option Value) (h : Heap) (L : List Loc) : Prop := v = some (.int (1 : Int32)) ∧ Fr n0 L
theorem ef_rm0 (m : MethodId) (q1 : Int64) (p2 : Int32) (p3 : Int32) (q4 : Int64) : entryFrame m #[(.long q1), (.int p2), (.int p3), (.long q4)] maxLocals = mkF m 0 #[.val (.long q1), .second, .val (.int p2), .val (.int p3), .val (.long q4), .second, .unset, .unset, .unset, .unset, .unset] [] := by first | (simp [entryFrame, mkF, argsToLocals, Value.category, maxLocals]; done) | rfl
set_option maxRecDepth 65536 in
set_option maxHeartbeats 40000000 in
theorem rm0 (l : Launch) (Z : State) (a0 : Array Value) (hw : ∀ d ∈ tables_1, d.before a0 Z = true) (ws : List Jvm.Cond) (q1 : Int64) (p2 : Int32) (p3 : Int32) (q4 : Int64) (h0 : Heap) (n0 : Nat) (Z0 : n0 ≤ h0.size)  :
    MetFree l x (head1 (Jvm.Cond.code x code maxLocals ret :: ws) room_1) (fun a U => a = #[(.long q1), (.int p2), (.int p3), (.long q4)] ∧ Z.Warmed39 U.vm ∧ U.heap = h0) (fun _ _ _ _ _ => True) (fun _ U o U' => ∃ v L, o = .returned v ∧ (Q0 Z q1 p2 p3 q4 h0 n0) v U'.heap L ∧ FrameEnd U o U' L 16 128) := by
  refine MetFree.of_bodySF (plainFor_of_name pn_0) hisR ?_
  intro p e s m args below meth c s₁ Bd hml0 hP hK
  obtain ⟨rfl, hZ, hh⟩ := hP
  have hx := Bd.exec
  have hby := Bd.bytes
  have hml : c.maxLocals = 11 := hml0
  have hown : s.vm.findClass "com/example/rank4/rank4/VarintReadPinLaw" = some m.cls := findClass_of_methodNamed Bd.named
  have hnm := (name_of_methodNamed Bd.named Bd.method).1
  have hlk : meth.locks = false := BodyLoose.notSynchronized Bd
  have X0 : Stand p l e room_1 s m #[(.long q1), (.int p2), (.int p3), (.long q4)] below meth c s₁ [] 0 0 := Stand.of_body Bd
  have e0 : s₁.heap = h0 := by rw [← hh, Bd.state]; rfl
  have N0 := Fr.nil n0
  show Go p e below s 16 128 (Q0 Z q1 p2 p3 q4 h0 n0) s₁ (entryFrame m #[(.long q1), (.int p2), (.int p3), (.long q4)] maxLocals)
  rw [ef_rm0 m q1 p2 p3 q4]
  refine g_iconst 1 X0 hx (hb hby at_0) rfl (z := (1 : Int32)) rfl ?_
  refine g_iloadN 2 X0 hx (hb hby at_1) rfl (v := p2) rfl ?_
  refine g_ldc 4 X0 hx hZ hown (hw _ (List.mem_of_getElem? (i := 0) rfl)) (hb hby at_2) rfl ?_
  obtain ⟨z1, hz1⟩ : ∃ z : Int32, p2 &&& (2147483647 : Int32) = z := ⟨_, rfl⟩
  refine g_iand 5 X0 hx (hb hby at_4) rfl (z := z1) hz1 ?_
  refine g_bipush 7 X0 hx (hb hby at_5) rfl (z := (10 : Int32)) rfl ?_
  obtain ⟨z2, hz2⟩ : ∃ z : Int32, z1 % (10 : Int32) = z := ⟨_, rfl⟩
  refine g_irem 8 X0 hx (hb hby at_7) rfl (by decide) (z := z2) hz2 ?_
  obtain ⟨z3, hz3⟩ : ∃ z : Int32, (1 : Int32) + z2 = z := ⟨_, rfl⟩
  refine g_iadd 9 X0 hx (hb hby at_8) rfl (z := z3) hz3 ?_
  refine g_istore 11 X0 hx (hb hby at_9) rfl (Ls' := #[.val (.long q1), .second, .val (.int p2), .val (.int p3), .val (.long q4), .second, .val (.int z3), .unset, .unset, .unset, .unset]) rfl ?_
  refine g_iloadN 12 X0 hx (hb hby at_11) rfl (v := p3) rfl ?_
  refine g_bipush 14 X0 hx (hb hby at_12) rfl (z := (7 : Int32)) rfl ?_
  obtain ⟨z4, hz4⟩ : ∃ z : Int32, p3 &&& (7 : Int32) = z := ⟨_, rfl⟩
  refine g_iand 15 X0 hx (hb hby at_14) rfl (z := z4) hz4 ?_
  refine g_istore 17 X0 hx (hb hby at_15) rfl (Ls' := #[.val (.long q1), .second, .val (.int p2), .val (.int p3), .val (.long q4), .second, .val (.int z3), .val (.int z4), .unset, .unset, .unset]) rfl ?_
  have hK : 1 ≤ z3.toInt ∧ z3.toInt ≤ 10 := (sub0_0 p2 z1 z2 z3 hz1 hz2 hz3)
  have hA : 0 ≤ z4.toInt ∧ z4.toInt ≤ 7 := (sub0_1 p3 z4 hz4)
  refine g_bipush 19 X0 hx (hb hby at_17) rfl (z := (20 : Int32)) rfl ?_
  refine g_new_byte 21 X0 hx hZ (hw _ (List.mem_of_getElem? (i := 1) rfl)) e0 20 20 (by decide) rfl (by decide) (by decide) (by decide) (by decide) (hb hby at_19) rfl ?_
  intro T5 h5 b5 X5 e5 E5 g5 A5
  have Zs6 : n0 ≤ h5.size := (Nat.le_trans Z0 E5.1)
  have g_b5 : n0 ≤ b5 := Nat.le_trans Z0 (Nat.le_of_eq g5.symm)
  have A5' : AI Z h5 b5 .byte [(0 : Int32), (0 : Int32), (0 : Int32), (0 : Int32), (0 : Int32), (0 : Int32), (0 : Int32), (0 : Int32), (0 : Int32), (0 : Int32), (0 : Int32), (0 : Int32), (0 : Int32), (0 : Int32), (0 : Int32), (0 : Int32), (0 : Int32), (0 : Int32), (0 : Int32), (0 : Int32)] := A5
  refine g_dup 22 X5 hx (hb hby at_21) rfl rfl ?_
  refine g_iconst 23 X5 hx (hb hby at_22) rfl (z := (0 : Int32)) rfl ?_
  refine g_iconst 24 X5 hx (hb hby at_23) rfl (z := (0 : Int32)) rfl ?_
  refine g_lloadN 25 X5 hx (hb hby at_24) rfl (v := q1) rfl ?_
  refine g_iload 27 X5 hx (hb hby at_25) rfl (v := z3) rfl ?_
  refine g_iload 29 X5 hx (hb hby at_27) rfl (v := z4) rfl ?_
  refine g_lload 31 X5 hx (hb hby at_29) rfl (v := q4) rfl ?_
  refine g_callS 34 X5 hx hZ (y := (⟨"com/example/rank4/rank4/VarintReadPinLaw", "cell", "(IJIIJ)B"⟩ : MethodName)) hown (hw _ (List.mem_of_getElem? (i := 2) rfl)) (hw _ (List.mem_of_getElem? (i := 3) rfl)) (hw _ (List.mem_of_getElem? (i := 4) rfl)) (hw _ (List.mem_of_getElem? (i := 5) rfl)) (by decide) e5 (rm1 l Z a0 hw [] (0 : Int32) q1 z3 z4 q4  h5 n0 Zs6 ) (by rw [hml]; rfl) [(.int (0 : Int32)), (.long q1), (.int z3), (.int z4), (.long q4)] [(.int (0 : Int32)), (.ref b5), (.ref b5)] rfl rfl (lenOf pd_0 rfl) 3 (Nat.le_of_eq rfl) (hb hby at_31) (by decide) (by decide) (by decide) (by decide) rfl ?_
  intro v7 T7 L7 X7 hQ7
  obtain ⟨r7, rfl, hr7, N7q, e7⟩ := hQ7
  have N7 := Fr.app N0 N7q
  show Go p e below s 16 128 (Q0 Z q1 p2 p3 q4 h0 n0) T7 (mkF m 34 #[.val (.long q1), .second, .val (.int p2), .val (.int p3), .val (.long q4), .second, .val (.int z3), .val (.int z4), .unset, .unset, .unset] [(.int r7), (.int (0 : Int32)), (.ref b5), (.ref b5)])
  refine g_bastore 35 X7 hx hZ e7 A5' 0 (by decide) rfl (Nat.le_of_ble_eq_true rfl) (z := r7.toInt8.toInt32) rfl (hb hby at_34) rfl ?_
  intro T8 h8 X8 e8 W8 A8
  have Zs9 : n0 ≤ h8.size := (Nat.le_trans Zs6 (Keep.of_wr W8).1)
  have A8' : AI Z h8 b5 .byte [r7.toInt8.toInt32, (0 : Int32), (0 : Int32), (0 : Int32), (0 : Int32), (0 : Int32), (0 : Int32), (0 : Int32), (0 : Int32), (0 : Int32), (0 : Int32), (0 : Int32), (0 : Int32), (0 : Int32), (0 : Int32), (0 : Int32), (0 : Int32), (0 : Int32), (0 : Int32), (0 : Int32)] := A8
  have N10 := Fr.snoc X8 N7 g_b5
  refine g_dup 36 X8 hx (hb hby at_35) rfl rfl ?_
  refine g_iconst 37 X8 hx (hb hby at_36) rfl (z := (1 : Int32)) rfl ?_
  refine g_iconst 38 X8 hx (hb hby at_37) rfl (z := (1 : Int32)) rfl ?_
  refine g_lloadN 39 X8 hx (hb hby at_38) rfl (v := q1) rfl ?_
  refine g_iload 41 X8 hx (hb hby at_39) rfl (v := z3) rfl ?_
  refine g_iload 43 X8 hx (hb hby at_41) rfl (v := z4) rfl ?_
  refine g_lload 45 X8 hx (hb hby at_43) rfl (v := q4) rfl ?_
  refine g_callS 48 X8 hx hZ (y := (⟨"com/example/rank4/rank4/VarintReadPinLaw", "cell", "(IJIIJ)B"⟩ : MethodName)) hown (hw _ (List.mem_of_getElem? (i := 2) rfl)) (hw _ (List.mem_of_getElem? (i := 3) rfl)) (hw _ (List.mem_of_getElem? (i := 4) rfl)) (hw _ (List.mem_of_getElem? (i := 5) rfl)) (by decide) e8 (rm1 l Z a0 hw [] (1 : Int32) q1 z3 z4 q4  h8 n0 Zs9 ) (by rw [hml]; rfl) [(.int (1 : Int32)), (.long q1), (.int z3), (.int z4), (.long q4)] [(.int (1 : Int32)), (.ref b5), (.ref b5)] rfl rfl (lenOf pd_0 rfl) 3 (Nat.le_of_eq rfl) (hb hby at_45) (by decide) (by decide) (by decide) (by decide) rfl ?_
  intro v11 T11 L11 X11 hQ11
  obtain ⟨r11, rfl, hr11, N11q, e11⟩ := hQ11
  have N11 := Fr.app N10 N11q
  show Go p e below s 16 128 (Q0 Z q1 p2 p3 q4 h0 n0) T11 (mkF m 48 #[.val (.long q1), .second, .val (.int p2), .val (.int p3), .val (.long q4), .second, .val (.int z3), .val (.int z4), .unset, .unset, .unset] [(.int r11), (.int (1 : Int32)), (.ref b5), (.ref b5)])
  refine g_bastore 49 X11 hx hZ e11 A8' 1 (by decide) rfl (Nat.le_of_ble_eq_true rfl) (z := r11.toInt8.toInt32) rfl (hb hby at_48) rfl ?_
  intro T12 h12 X12 e12 W12 A12
  have Zs13 : n0 ≤ h12.size := (Nat.le_trans Zs9 (Keep.of_wr W12).1)
  have A12' : AI Z h12 b5 .byte [r7.toInt8.toInt32, r11.toInt8.toInt32, (0 : Int32), (0 : Int32), (0 : Int32), (0 : Int32), (0 : Int32), (0 : Int32), (0 : Int32), (0 : Int32), (0 : Int32), (0 : Int32), (0 : Int32), (0 : Int32), (0 : Int32), (0 : Int32), (0 : Int32), (0 : Int32), (0 : Int32), (0 : Int32)] := A12
  have N14 := Fr.snoc X12 N11 g_b5
  refine g_dup 50 X12 hx (hb hby at_49) rfl rfl ?_
  refine g_iconst 51 X12 hx (hb hby at_50) rfl (z := (2 : Int32)) rfl ?_
  refine g_iconst 52 X12 hx (hb hby at_51) rfl (z := (2 : Int32)) rfl ?_
  refine g_lloadN 53 X12 hx (hb hby at_52) rfl (v := q1) rfl ?_
  refine g_iload 55 X12 hx (hb hby at_53) rfl (v := z3) rfl ?_
  refine g_iload 57 X12 hx (hb hby at_55) rfl (v := z4) rfl ?_
  refine g_lload 59 X12 hx (hb hby at_57) rfl (v := q4) rfl ?_
  refine g_callS 62 X12 hx hZ (y := (⟨"com/example/rank4/rank4/VarintReadPinLaw", "cell", "(IJIIJ)B"⟩ : MethodName)) hown (hw _ (List.mem_of_getElem? (i := 2) rfl)) (hw _ (List.mem_of_getElem? (i := 3) rfl)) (hw _ (List.mem_of_getElem? (i := 4) rfl)) (hw _ (List.mem_of_getElem? (i := 5) rfl)) (by decide) e12 (rm1 l Z a0 hw [] (2 : Int32) q1 z3 z4 q4  h12 n0 Zs13 ) (by rw [hml]; rfl) [(.int (2 : Int32)), (.long q1), (.int z3), (.int z4), (.long q4)] [(.int (2 : Int32)), (.ref b5), (.ref b5)] rfl rfl (lenOf pd_0 rfl) 3 (Nat.le_of_eq rfl) (hb hby at_59) (by decide) (by decide) (by decide) (by decide) rfl ?_
  intro v15 T15 L15 X15 hQ15
  obtain ⟨r15, rfl, hr15, N15q, e15⟩ := hQ15
  have N15 := Fr.app N14 N15q
  show Go p e below s 16 128 (Q0 Z q1 p2 p3 q4 h0 n0) T15 (mkF m 62 #[.val (.long q1), .second, .val (.int p2), .val (.int p3), .val (.long q4), .second, .val (.int z3), .val (.int z4), .unset, .unset, .unset] [(.int r15), (.int (2 : Int32)), (.ref b5), (.ref b5)])
  refine g_bastore 63 X15 hx hZ e15 A12' 2 (by decide) rfl (Nat.le_of_ble_eq_true rfl) (z := r15.toInt8.toInt32) rfl (hb hby at_62) rfl ?_
  intro T16 h16 X16 e16 W16 A16
  have Zs17 : n0 ≤ h16.size := (Nat.le_trans Zs13 (Keep.of_wr W16).1)
  have A16' : AI Z h16 b5 .byte [r7.toInt8.toInt32, r11.toInt8.toInt32, r15.toInt8.toInt32, (0 : Int32), (0 : Int32), (0 : Int32), (0 : Int32), (0 : Int32), (0 : Int32), (0 : Int32), (0 : Int32), (0 : Int32), (0 : Int32), (0 : Int32), (0 : Int32), (0 : Int32), (0 : Int32), (0 : Int32), (0 : Int32), (0 : Int32)] := A16
  have N18 := Fr.snoc X16 N15 g_b5
  refine g_dup 64 X16 hx (hb hby at_63) rfl rfl ?_
  refine g_iconst 65 X16 hx (hb hby at_64) rfl (z := (3 : Int32)) rfl ?_
  refine g_iconst 66 X16 hx (hb hby at_65) rfl (z := (3 : Int32)) rfl ?_
  refine g_lloadN 67 X16 hx (hb hby at_66) rfl (v := q1) rfl ?_
  refine g_iload 69 X16 hx (hb hby at_67) rfl (v := z3) rfl ?_
  refine g_iload 71 X16 hx (hb hby at_69) rfl (v := z4) rfl ?_
  refine g_lload 73 X16 hx (hb hby at_71) rfl (v := q4) rfl ?_
  refine g_callS 76 X16 hx hZ (y := (⟨"com/example/rank4/rank4/VarintReadPinLaw", "cell", "(IJIIJ)B"⟩ : MethodName)) hown (hw _ (List.mem_of_getElem? (i := 2) rfl)) (hw _ (List.mem_of_getElem? (i := 3) rfl)) (hw _ (List.mem_of_getElem? (i := 4) rfl)) (hw _ (List.mem_of_getElem? (i := 5) rfl)) (by decide) e16 (rm1 l Z a0 hw [] (3 : Int32) q1 z3 z4 q4  h16 n0 Zs17 ) (by rw [hml]; rfl) [(.int (3 : Int32)), (.long q1), (.int z3), (.int z4), (.long q4)] [(.int (3 : Int32)), (.ref b5), (.ref b5)] rfl rfl (lenOf pd_0 rfl) 3 (Nat.le_of_eq rfl) (hb hby at_73) (by decide) (by decide) (by decide) (by decide) rfl ?_
  intro v19 T19 L19 X19 hQ19
  obtain ⟨r19, rfl, hr19, N19q, e19⟩ := hQ19
  have N19 := Fr.app N18 N19q
  show Go p e below s 16 128 (Q0 Z q1 p2 p3 q4 h0 n0) T19 (mkF m 76 #[.val (.long q1), .second, .val (.int p2), .val (.int p3), .val (.long q4), .second, .val (.int z3), .val (.int z4), .unset, .unset, .unset] [(.int r19), (.int (3 : Int32)), (.ref b5), (.ref b5)])
  refine g_bastore 77 X19 hx hZ e19 A16' 3 (by decide) rfl (Nat.le_of_ble_eq_true rfl) (z := r19.toInt8.toInt32) rfl (hb hby at_76) rfl ?_
  intro T20 h20 X20 e20 W20 A20
  have Zs21 : n0 ≤ h20.size := (Nat.le_trans Zs17 (Keep.of_wr W20).1)
  have A20' : AI Z h20 b5 .byte [r7.toInt8.toInt32, r11.toInt8.toInt32, r15.toInt8.toInt32, r19.toInt8.toInt32, (0 : Int32), (0 : Int32), (0 : Int32), (0 : Int32), (0 : Int32), (0 : Int32), (0 : Int32), (0 : Int32), (0 : Int32), (0 : Int32), (0 : Int32), (0 : Int32), (0 : Int32), (0 : Int32), (0 : Int32), (0 : Int32)] := A20
  have N22 := Fr.snoc X20 N19 g_b5
  refine g_dup 78 X20 hx (hb hby at_77) rfl rfl ?_
  refine g_iconst 79 X20 hx (hb hby at_78) rfl (z := (4 : Int32)) rfl ?_
  refine g_iconst 80 X20 hx (hb hby at_79) rfl (z := (4 : Int32)) rfl ?_
  refine g_lloadN 81 X20 hx (hb hby at_80) rfl (v := q1) rfl ?_
  refine g_iload 83 X20 hx (hb hby at_81) rfl (v := z3) rfl ?_
  refine g_iload 85 X20 hx (hb hby at_83) rfl (v := z4) rfl ?_
  refine g_lload 87 X20 hx (hb hby at_85) rfl (v := q4) rfl ?_
  refine g_callS 90 X20 hx hZ (y := (⟨"com/example/rank4/rank4/VarintReadPinLaw", "cell", "(IJIIJ)B"⟩ : MethodName)) hown (hw _ (List.mem_of_getElem? (i := 2) rfl)) (hw _ (List.mem_of_getElem? (i := 3) rfl)) (hw _ (List.mem_of_getElem? (i := 4) rfl)) (hw _ (List.mem_of_getElem? (i := 5) rfl)) (by decide) e20 (rm1 l Z a0 hw [] (4 : Int32) q1 z3 z4 q4  h20 n0 Zs21 ) (by rw [hml]; rfl) [(.int (4 : Int32)), (.long q1), (.int z3), (.int z4), (.long q4)] [(.int (4 : Int32)), (.ref b5), (.ref b5)] rfl rfl (lenOf pd_0 rfl) 3 (Nat.le_of_eq rfl) (hb hby at_87) (by decide) (by decide) (by decide) (by decide) rfl ?_
  intro v23 T23 L23 X23 hQ23
  obtain ⟨r23, rfl, hr23, N23q, e23⟩ := hQ23
  have N23 := Fr.app N22 N23q
  show Go p e below s 16 128 (Q0 Z q1 p2 p3 q4 h0 n0) T23 (mkF m 90 #[.val (.long q1), .second, .val (.int p2), .val (.int p3), .val (.long q4), .second, .val (.int z3), .val (.int z4), .unset, .unset, .unset] [(.int r23), (.int (4 : Int32)), (.ref b5), (.ref b5)])
  refine g_bastore 91 X23 hx hZ e23 A20' 4 (by decide) rfl (Nat.le_of_ble_eq_true rfl) (z := r23.toInt8.toInt32) rfl (hb hby at_90) rfl ?_
  intro T24 h24 X24 e24 W24 A24
  have Zs25 : n0 ≤ h24.size := (Nat.le_trans Zs21 (Keep.of_wr W24).1)
  have A24' : AI Z h24 b5 .byte [r7.toInt8.toInt32, r11.toInt8.toInt32, r15.toInt8.toInt32, r19.toInt8.toInt32, r23.toInt8.toInt32, (0 : Int32), (0 : Int32), (0 : Int32), (0 : Int32), (0 : Int32), (0 : Int32), (0 : Int32), (0 : Int32), (0 : Int32), (0 : Int32), (0 : Int32), (0 : Int32), (0 : Int32), (0 : Int32), (0 : Int32)] := A24
  have N26 := Fr.snoc X24 N23 g_b5
  refine g_dup 92 X24 hx (hb hby at_91) rfl rfl ?_
  refine g_iconst 93 X24 hx (hb hby at_92) rfl (z := (5 : Int32)) rfl ?_
  refine g_iconst 94 X24 hx (hb hby at_93) rfl (z := (5 : Int32)) rfl ?_
  refine g_lloadN 95 X24 hx (hb hby at_94) rfl (v := q1) rfl ?_
  refine g_iload 97 X24 hx (hb hby at_95) rfl (v := z3) rfl ?_
  refine g_iload 99 X24 hx (hb hby at_97) rfl (v := z4) rfl ?_
  refine g_lload 101 X24 hx (hb hby at_99) rfl (v := q4) rfl ?_
  refine g_callS 104 X24 hx hZ (y := (⟨"com/example/rank4/rank4/VarintReadPinLaw", "cell", "(IJIIJ)B"⟩ : MethodName)) hown (hw _ (List.mem_of_getElem? (i := 2) rfl)) (hw _ (List.mem_of_getElem? (i := 3) rfl)) (hw _ (List.mem_of_getElem? (i := 4) rfl)) (hw _ (List.mem_of_getElem? (i := 5) rfl)) (by decide) e24 (rm1 l Z a0 hw [] (5 : Int32) q1 z3 z4 q4  h24 n0 Zs25 ) (by rw [hml]; rfl) [(.int (5 : Int32)), (.long q1), (.int z3), (.int z4), (.long q4)] [(.int (5 : Int32)), (.ref b5), (.ref b5)] rfl rfl (lenOf pd_0 rfl) 3 (Nat.le_of_eq rfl) (hb hby at_101) (by decide) (by decide) (by decide) (by decide) rfl ?_
  intro v27 T27 L27 X27 hQ27
  obtain ⟨r27, rfl, hr27, N27q, e27⟩ := hQ27
  have N27 := Fr.app N26 N27q
  show Go p e below s 16 128 (Q0 Z q1 p2 p3 q4 h0 n0) T27 (mkF m 104 #[.val (.long q1), .second, .val (.int p2), .val (.int p3), .val (.long q4), .second, .val (.int z3), .val (.int z4), .unset, .unset, .unset] [(.int r27), (.int (5 : Int32)), (.ref b5), (.ref b5)])
  refine g_bastore 105 X27 hx hZ e27 A24' 5 (by decide) rfl (Nat.le_of_ble_eq_true rfl) (z := r27.toInt8.toInt32) rfl (hb hby at_104) rfl ?_
  intro T28 h28 X28 e28 W28 A28
  have Zs29 : n0 ≤ h28.size := (Nat.le_trans Zs25 (Keep.of_wr W28).1)
  have A28' : AI Z h28 b5 .byte [r7.toInt8.toInt32, r11.toInt8.toInt32, r15.toInt8.toInt32, r19.toInt8.toInt32, r23.toInt8.toInt32, r27.toInt8.toInt32, (0 : Int32), (0 : Int32), (0 : Int32), (0 : Int32), (0 : Int32), (0 : Int32), (0 : Int32), (0 : Int32), (0 : Int32), (0 : Int32), (0 : Int32), (0 : Int32), (0 : Int32), (0 : Int32)] := A28
  have N30 := Fr.snoc X28 N27 g_b5
  refine g_dup 106 X28 hx (hb hby at_105) rfl rfl ?_
  refine g_bipush 108 X28 hx (hb hby at_106) rfl (z := (6 : Int32)) rfl ?_
  refine g_bipush 110 X28 hx (hb hby at_108) rfl (z := (6 : Int32)) rfl ?_
  refine g_lloadN 111 X28 hx (hb hby at_110) rfl (v := q1) rfl ?_
  refine g_iload 113 X28 hx (hb hby at_111) rfl (v := z3) rfl ?_
  refine g_iload 115 X28 hx (hb hby at_113) rfl (v := z4) rfl ?_
  refine g_lload 117 X28 hx (hb hby at_115) rfl (v := q4) rfl ?_
  refine g_callS 120 X28 hx hZ (y := (⟨"com/example/rank4/rank4/VarintReadPinLaw", "cell", "(IJIIJ)B"⟩ : MethodName)) hown (hw _ (List.mem_of_getElem? (i := 2) rfl)) (hw _ (List.mem_of_getElem? (i := 3) rfl)) (hw _ (List.mem_of_getElem? (i := 4) rfl)) (hw _ (List.mem_of_getElem? (i := 5) rfl)) (by decide) e28 (rm1 l Z a0 hw [] (6 : Int32) q1 z3 z4 q4  h28 n0 Zs29 ) (by rw [hml]; rfl) [(.int (6 : Int32)), (.long q1), (.int z3), (.int z4), (.long q4)] [(.int (6 : Int32)), (.ref b5), (.ref b5)] rfl rfl (lenOf pd_0 rfl) 3 (Nat.le_of_eq rfl) (hb hby at_117) (by decide) (by decide) (by decide) (by decide) rfl ?_
  intro v31 T31 L31 X31 hQ31
  obtain ⟨r31, rfl, hr31, N31q, e31⟩ := hQ31
  have N31 := Fr.app N30 N31q
  show Go p e below s 16 128 (Q0 Z q1 p2 p3 q4 h0 n0) T31 (mkF m 120 #[.val (.long q1), .second, .val (.int p2), .val (.int p3), .val (.long q4), .second, .val (.int z3), .val (.int z4), .unset, .unset, .unset] [(.int r31), (.int (6 : Int32)), (.ref b5), (.ref b5)])
  refine g_bastore 121 X31 hx hZ e31 A28' 6 (by decide) rfl (Nat.le_of_ble_eq_true rfl) (z := r31.toInt8.toInt32) rfl (hb hby at_120) rfl ?_
  intro T32 h32 X32 e32 W32 A32
  have Zs33 : n0 ≤ h32.size := (Nat.le_trans Zs29 (Keep.of_wr W32).1)
  have A32' : AI Z h32 b5 .byte [r7.toInt8.toInt32, r11.toInt8.toInt32, r15.toInt8.toInt32, r19.toInt8.toInt32, r23.toInt8.toInt32, r27.toInt8.toInt32, r31.toInt8.toInt32, (0 : Int32), (0 : Int32), (0 : Int32), (0 : Int32), (0 : Int32), (0 : Int32), (0 : Int32), (0 : Int32), (0 : Int32), (0 : Int32), (0 : Int32), (0 : Int32), (0 : Int32)] := A32
  have N34 := Fr.snoc X32 N31 g_b5
  refine g_dup 122 X32 hx (hb hby at_121) rfl rfl ?_
  refine g_bipush 124 X32 hx (hb hby at_122) rfl (z := (7 : Int32)) rfl ?_
  refine g_bipush 126 X32 hx (hb hby at_124) rfl (z := (7 : Int32)) rfl ?_
  refine g_lloadN 127 X32 hx (hb hby at_126) rfl (v := q1) rfl ?_
  refine g_iload 129 X32 hx (hb hby at_127) rfl (v := z3) rfl ?_
  refine g_iload 131 X32 hx (hb hby at_129) rfl (v := z4) rfl ?_
  refine g_lload 133 X32 hx (hb hby at_131) rfl (v := q4) rfl ?_
  refine g_callS 136 X32 hx hZ (y := (⟨"com/example/rank4/rank4/VarintReadPinLaw", "cell", "(IJIIJ)B"⟩ : MethodName)) hown (hw _ (List.mem_of_getElem? (i := 2) rfl)) (hw _ (List.mem_of_getElem? (i := 3) rfl)) (hw _ (List.mem_of_getElem? (i := 4) rfl)) (hw _ (List.mem_of_getElem? (i := 5) rfl)) (by decide) e32 (rm1 l Z a0 hw [] (7 : Int32) q1 z3 z4 q4  h32 n0 Zs33 ) (by rw [hml]; rfl) [(.int (7 : Int32)), (.long q1), (.int z3), (.int z4), (.long q4)] [(.int (7 : Int32)), (.ref b5), (.ref b5)] rfl rfl (lenOf pd_0 rfl) 3 (Nat.le_of_eq rfl) (hb hby at_133) (by decide) (by decide) (by decide) (by decide) rfl ?_
  intro v35 T35 L35 X35 hQ35
  obtain ⟨r35, rfl, hr35, N35q, e35⟩ := hQ35
  have N35 := Fr.app N34 N35q
  show Go p e below s 16 128 (Q0 Z q1 p2 p3 q4 h0 n0) T35 (mkF m 136 #[.val (.long q1), .second, .val (.int p2), .val (.int p3), .val (.long q4), .second, .val (.int z3), .val (.int z4), .unset, .unset, .unset] [(.int r35), (.int (7 : Int32)), (.ref b5), (.ref b5)])
  refine g_bastore 137 X35 hx hZ e35 A32' 7 (by decide) rfl (Nat.le_of_ble_eq_true rfl) (z := r35.toInt8.toInt32) rfl (hb hby at_136) rfl ?_
  intro T36 h36 X36 e36 W36 A36
  have Zs37 : n0 ≤ h36.size := (Nat.le_trans Zs33 (Keep.of_wr W36).1)
  have A36' : AI Z h36 b5 .byte [r7.toInt8.toInt32, r11.toInt8.toInt32, r15.toInt8.toInt32, r19.toInt8.toInt32, r23.toInt8.toInt32, r27.toInt8.toInt32, r31.toInt8.toInt32, r35.toInt8.toInt32, (0 : Int32), (0 : Int32), (0 : Int32), (0 : Int32), (0 : Int32), (0 : Int32), (0 : Int32), (0 : Int32), (0 : Int32), (0 : Int32), (0 : Int32), (0 : Int32)] := A36
  have N38 := Fr.snoc X36 N35 g_b5
  refine g_dup 138 X36 hx (hb hby at_137) rfl rfl ?_
  refine g_bipush 140 X36 hx (hb hby at_138) rfl (z := (8 : Int32)) rfl ?_
  refine g_bipush 142 X36 hx (hb hby at_140) rfl (z := (8 : Int32)) rfl ?_
  refine g_lloadN 143 X36 hx (hb hby at_142) rfl (v := q1) rfl ?_
  refine g_iload 145 X36 hx (hb hby at_143) rfl (v := z3) rfl ?_
  refine g_iload 147 X36 hx (hb hby at_145) rfl (v := z4) rfl ?_
  refine g_lload 149 X36 hx (hb hby at_147) rfl (v := q4) rfl ?_
  refine g_callS 152 X36 hx hZ (y := (⟨"com/example/rank4/rank4/VarintReadPinLaw", "cell", "(IJIIJ)B"⟩ : MethodName)) hown (hw _ (List.mem_of_getElem? (i := 2) rfl)) (hw _ (List.mem_of_getElem? (i := 3) rfl)) (hw _ (List.mem_of_getElem? (i := 4) rfl)) (hw _ (List.mem_of_getElem? (i := 5) rfl)) (by decide) e36 (rm1 l Z a0 hw [] (8 : Int32) q1 z3 z4 q4  h36 n0 Zs37 ) (by rw [hml]; rfl) [(.int (8 : Int32)), (.long q1), (.int z3), (.int z4), (.long q4)] [(.int (8 : Int32)), (.ref b5), (.ref b5)] rfl rfl (lenOf pd_0 rfl) 3 (Nat.le_of_eq rfl) (hb hby at_149) (by decide) (by decide) (by decide) (by decide) rfl ?_
  intro v39 T39 L39 X39 hQ39
  obtain ⟨r39, rfl, hr39, N39q, e39⟩ := hQ39
  have N39 := Fr.app N38 N39q
  show Go p e below s 16 128 (Q0 Z q1 p2 p3 q4 h0 n0) T39 (mkF m 152 #[.val (.long q1), .second, .val (.int p2), .val (.int p3), .val (.long q4), .second, .val (.int z3), .val (.int z4), .unset, .unset, .unset] [(.int r39), (.int (8 : Int32)), (.ref b5), (.ref b5)])
  refine g_bastore 153 X39 hx hZ e39 A36' 8 (by decide) rfl (Nat.le_of_ble_eq_true rfl) (z := r39.toInt8.toInt32) rfl (hb hby at_152) rfl ?_
  intro T40 h40 X40 e40 W40 A40
  have Zs41 : n0 ≤ h40.size := (Nat.le_trans Zs37 (Keep.of_wr W40).1)
  have A40' : AI Z h40 b5 .byte [r7.toInt8.toInt32, r11.toInt8.toInt32, r15.toInt8.toInt32, r19.toInt8.toInt32, r23.toInt8.toInt32, r27.toInt8.toInt32, r31.toInt8.toInt32, r35.toInt8.toInt32, r39.toInt8.toInt32, (0 : Int32), (0 : Int32), (0 : Int32), (0 : Int32), (0 : Int32), (0 : Int32), (0 : Int32), (0 : Int32), (0 : Int32), (0 : Int32), (0 : Int32)] := A40
  have N42 := Fr.snoc X40 N39 g_b5
  refine g_dup 154 X40 hx (hb hby at_153) rfl rfl ?_
  refine g_bipush 156 X40 hx (hb hby at_154) rfl (z := (9 : Int32)) rfl ?_
  refine g_bipush 158 X40 hx (hb hby at_156) rfl (z := (9 : Int32)) rfl ?_
  refine g_lloadN 159 X40 hx (hb hby at_158) rfl (v := q1) rfl ?_
  refine g_iload 161 X40 hx (hb hby at_159) rfl (v := z3) rfl ?_
  refine g_iload 163 X40 hx (hb hby at_161) rfl (v := z4) rfl ?_
  refine g_lload 165 X40 hx (hb hby at_163) rfl (v := q4) rfl ?_
  refine g_callS 168 X40 hx hZ (y := (⟨"com/example/rank4/rank4/VarintReadPinLaw", "cell", "(IJIIJ)B"⟩ : MethodName)) hown (hw _ (List.mem_of_getElem? (i := 2) rfl)) (hw _ (List.mem_of_getElem? (i := 3) rfl)) (hw _ (List.mem_of_getElem? (i := 4) rfl)) (hw _ (List.mem_of_getElem? (i := 5) rfl)) (by decide) e40 (rm1 l Z a0 hw [] (9 : Int32) q1 z3 z4 q4  h40 n0 Zs41 ) (by rw [hml]; rfl) [(.int (9 : Int32)), (.long q1), (.int z3), (.int z4), (.long q4)] [(.int (9 : Int32)), (.ref b5), (.ref b5)] rfl rfl (lenOf pd_0 rfl) 3 (Nat.le_of_eq rfl) (hb hby at_165) (by decide) (by decide) (by decide) (by decide) rfl ?_
  intro v43 T43 L43 X43 hQ43
  obtain ⟨r43, rfl, hr43, N43q, e43⟩ := hQ43
  have N43 := Fr.app N42 N43q
  show Go p e below s 16 128 (Q0 Z q1 p2 p3 q4 h0 n0) T43 (mkF m 168 #[.val (.long q1), .second, .val (.int p2), .val (.int p3), .val (.long q4), .second, .val (.int z3), .val (.int z4), .unset, .unset, .unset] [(.int r43), (.int (9 : Int32)), (.ref b5), (.ref b5)])
  refine g_bastore 169 X43 hx hZ e43 A40' 9 (by decide) rfl (Nat.le_of_ble_eq_true rfl) (z := r43.toInt8.toInt32) rfl (hb hby at_168) rfl ?_
  intro T44 h44 X44 e44 W44 A44
  have Zs45 : n0 ≤ h44.size := (Nat.le_trans Zs41 (Keep.of_wr W44).1)
  have A44' : AI Z h44 b5 .byte [r7.toInt8.toInt32, r11.toInt8.toInt32, r15.toInt8.toInt32, r19.toInt8.toInt32, r23.toInt8.toInt32, r27.toInt8.toInt32, r31.toInt8.toInt32, r35.toInt8.toInt32, r39.toInt8.toInt32, r43.toInt8.toInt32, (0 : Int32), (0 : Int32), (0 : Int32), (0 : Int32), (0 : Int32), (0 : Int32), (0 : Int32), (0 : Int32), (0 : Int32), (0 : Int32)] := A44
  have N46 := Fr.snoc X44 N43 g_b5
  refine g_dup 170 X44 hx (hb hby at_169) rfl rfl ?_
  refine g_bipush 172 X44 hx (hb hby at_170) rfl (z := (10 : Int32)) rfl ?_
  refine g_bipush 174 X44 hx (hb hby at_172) rfl (z := (10 : Int32)) rfl ?_
  refine g_lloadN 175 X44 hx (hb hby at_174) rfl (v := q1) rfl ?_
  refine g_iload 177 X44 hx (hb hby at_175) rfl (v := z3) rfl ?_
  refine g_iload 179 X44 hx (hb hby at_177) rfl (v := z4) rfl ?_
  refine g_lload 181 X44 hx (hb hby at_179) rfl (v := q4) rfl ?_
  refine g_callS 184 X44 hx hZ (y := (⟨"com/example/rank4/rank4/VarintReadPinLaw", "cell", "(IJIIJ)B"⟩ : MethodName)) hown (hw _ (List.mem_of_getElem? (i := 2) rfl)) (hw _ (List.mem_of_getElem? (i := 3) rfl)) (hw _ (List.mem_of_getElem? (i := 4) rfl)) (hw _ (List.mem_of_getElem? (i := 5) rfl)) (by decide) e44 (rm1 l Z a0 hw [] (10 : Int32) q1 z3 z4 q4  h44 n0 Zs45 ) (by rw [hml]; rfl) [(.int (10 : Int32)), (.long q1), (.int z3), (.int z4), (.long q4)] [(.int (10 : Int32)), (.ref b5), (.ref b5)] rfl rfl (lenOf pd_0 rfl) 3 (Nat.le_of_eq rfl) (hb hby at_181) (by decide) (by decide) (by decide) (by decide) rfl ?_
  intro v47 T47 L47 X47 hQ47
  obtain ⟨r47, rfl, hr47, N47q, e47⟩ := hQ47
  have N47 := Fr.app N46 N47q
  show Go p e below s 16 128 (Q0 Z q1 p2 p3 q4 h0 n0) T47 (mkF m 184 #[.val (.long q1), .second, .val (.int p2), .val (.int p3), .val (.long q4), .second, .val (.int z3), .val (.int z4), .unset, .unset, .unset] [(.int r47), (.int (10 : Int32)), (.ref b5), (.ref b5)])
  refine g_bastore 185 X47 hx hZ e47 A44' 10 (by decide) rfl (Nat.le_of_ble_eq_true rfl) (z := r47.toInt8.toInt32) rfl (hb hby at_184) rfl ?_
  intro T48 h48 X48 e48 W48 A48
  have Zs49 : n0 ≤ h48.size := (Nat.le_trans Zs45 (Keep.of_wr W48).1)
  have A48' : AI Z h48 b5 .byte [r7.toInt8.toInt32, r11.toInt8.toInt32, r15.toInt8.toInt32, r19.toInt8.toInt32, r23.toInt8.toInt32, r27.toInt8.toInt32, r31.toInt8.toInt32, r35.toInt8.toInt32, r39.toInt8.toInt32, r43.toInt8.toInt32, r47.toInt8.toInt32, (0 : Int32), (0 : Int32), (0 : Int32), (0 : Int32), (0 : Int32), (0 : Int32), (0 : Int32), (0 : Int32), (0 : Int32)] := A48
  have N50 := Fr.snoc X48 N47 g_b5
  refine g_dup 186 X48 hx (hb hby at_185) rfl rfl ?_
  refine g_bipush 188 X48 hx (hb hby at_186) rfl (z := (11 : Int32)) rfl ?_
  refine g_bipush 190 X48 hx (hb hby at_188) rfl (z := (11 : Int32)) rfl ?_
  refine g_lloadN 191 X48 hx (hb hby at_190) rfl (v := q1) rfl ?_
  refine g_iload 193 X48 hx (hb hby at_191) rfl (v := z3) rfl ?_
  refine g_iload 195 X48 hx (hb hby at_193) rfl (v := z4) rfl ?_
  refine g_lload 197 X48 hx (hb hby at_195) rfl (v := q4) rfl ?_
  refine g_callS 200 X48 hx hZ (y := (⟨"com/example/rank4/rank4/VarintReadPinLaw", "cell", "(IJIIJ)B"⟩ : MethodName)) hown (hw _ (List.mem_of_getElem? (i := 2) rfl)) (hw _ (List.mem_of_getElem? (i := 3) rfl)) (hw _ (List.mem_of_getElem? (i := 4) rfl)) (hw _ (List.mem_of_getElem? (i := 5) rfl)) (by decide) e48 (rm1 l Z a0 hw [] (11 : Int32) q1 z3 z4 q4  h48 n0 Zs49 ) (by rw [hml]; rfl) [(.int (11 : Int32)), (.long q1), (.int z3), (.int z4), (.long q4)] [(.int (11 : Int32)), (.ref b5), (.ref b5)] rfl rfl (lenOf pd_0 rfl) 3 (Nat.le_of_eq rfl) (hb hby at_197) (by decide) (by decide) (by decide) (by decide) rfl ?_
  intro v51 T51 L51 X51 hQ51
  obtain ⟨r51, rfl, hr51, N51q, e51⟩ := hQ51
  have N51 := Fr.app N50 N51q
  show Go p e below s 16 128 (Q0 Z q1 p2 p3 q4 h0 n0) T51 (mkF m 200 #[.val (.long q1), .second, .val (.int p2), .val (.int p3), .val (.long q4), .second, .val (.int z3), .val (.int z4), .unset, .unset, .unset] [(.int r51), (.int (11 : Int32)), (.ref b5), (.ref b5)])
  refine g_bastore 201 X51 hx hZ e51 A48' 11 (by decide) rfl (Nat.le_of_ble_eq_true rfl) (z := r51.toInt8.toInt32) rfl (hb hby at_200) rfl ?_
  intro T52 h52 X52 e52 W52 A52
  have Zs53 : n0 ≤ h52.size := (Nat.le_trans Zs49 (Keep.of_wr W52).1)
  have A52' : AI Z h52 b5 .byte [r7.toInt8.toInt32, r11.toInt8.toInt32, r15.toInt8.toInt32, r19.toInt8.toInt32, r23.toInt8.toInt32, r27.toInt8.toInt32, r31.toInt8.toInt32, r35.toInt8.toInt32, r39.toInt8.toInt32, r43.toInt8.toInt32, r47.toInt8.toInt32, r51.toInt8.toInt32, (0 : Int32), (0 : Int32), (0 : Int32), (0 : Int32), (0 : Int32), (0 : Int32), (0 : Int32), (0 : Int32)] := A52
  have N54 := Fr.snoc X52 N51 g_b5
  refine g_dup 202 X52 hx (hb hby at_201) rfl rfl ?_
  refine g_bipush 204 X52 hx (hb hby at_202) rfl (z := (12 : Int32)) rfl ?_
  refine g_bipush 206 X52 hx (hb hby at_204) rfl (z := (12 : Int32)) rfl ?_
  refine g_lloadN 207 X52 hx (hb hby at_206) rfl (v := q1) rfl ?_
  refine g_iload 209 X52 hx (hb hby at_207) rfl (v := z3) rfl ?_
  refine g_iload 211 X52 hx (hb hby at_209) rfl (v := z4) rfl ?_
  refine g_lload 213 X52 hx (hb hby at_211) rfl (v := q4) rfl ?_
  refine g_callS 216 X52 hx hZ (y := (⟨"com/example/rank4/rank4/VarintReadPinLaw", "cell", "(IJIIJ)B"⟩ : MethodName)) hown (hw _ (List.mem_of_getElem? (i := 2) rfl)) (hw _ (List.mem_of_getElem? (i := 3) rfl)) (hw _ (List.mem_of_getElem? (i := 4) rfl)) (hw _ (List.mem_of_getElem? (i := 5) rfl)) (by decide) e52 (rm1 l Z a0 hw [] (12 : Int32) q1 z3 z4 q4  h52 n0 Zs53 ) (by rw [hml]; rfl) [(.int (12 : Int32)), (.long q1), (.int z3), (.int z4), (.long q4)] [(.int (12 : Int32)), (.ref b5), (.ref b5)] rfl rfl (lenOf pd_0 rfl) 3 (Nat.le_of_eq rfl) (hb hby at_213) (by decide) (by decide) (by decide) (by decide) rfl ?_
  intro v55 T55 L55 X55 hQ55
  obtain ⟨r55, rfl, hr55, N55q, e55⟩ := hQ55
  have N55 := Fr.app N54 N55q
  show Go p e below s 16 128 (Q0 Z q1 p2 p3 q4 h0 n0) T55 (mkF m 216 #[.val (.long q1), .second, .val (.int p2), .val (.int p3), .val (.long q4), .second, .val (.int z3), .val (.int z4), .unset, .unset, .unset] [(.int r55), (.int (12 : Int32)), (.ref b5), (.ref b5)])
  refine g_bastore 217 X55 hx hZ e55 A52' 12 (by decide) rfl (Nat.le_of_ble_eq_true rfl) (z := r55.toInt8.toInt32) rfl (hb hby at_216) rfl ?_
  intro T56 h56 X56 e56 W56 A56
  have Zs57 : n0 ≤ h56.size := (Nat.le_trans Zs53 (Keep.of_wr W56).1)
  have A56' : AI Z h56 b5 .byte [r7.toInt8.toInt32, r11.toInt8.toInt32, r15.toInt8.toInt32, r19.toInt8.toInt32, r23.toInt8.toInt32, r27.toInt8.toInt32, r31.toInt8.toInt32, r35.toInt8.toInt32, r39.toInt8.toInt32, r43.toInt8.toInt32, r47.toInt8.toInt32, r51.toInt8.toInt32, r55.toInt8.toInt32, (0 : Int32), (0 : Int32), (0 : Int32), (0 : Int32), (0 : Int32), (0 : Int32), (0 : Int32)] := A56
  have N58 := Fr.snoc X56 N55 g_b5
  refine g_dup 218 X56 hx (hb hby at_217) rfl rfl ?_
  refine g_bipush 220 X56 hx (hb hby at_218) rfl (z := (13 : Int32)) rfl ?_
  refine g_bipush 222 X56 hx (hb hby at_220) rfl (z := (13 : Int32)) rfl ?_
  refine g_lloadN 223 X56 hx (hb hby at_222) rfl (v := q1) rfl ?_
  refine g_iload 225 X56 hx (hb hby at_223) rfl (v := z3) rfl ?_
  refine g_iload 227 X56 hx (hb hby at_225) rfl (v := z4) rfl ?_
  refine g_lload 229 X56 hx (hb hby at_227) rfl (v := q4) rfl ?_
  refine g_callS 232 X56 hx hZ (y := (⟨"com/example/rank4/rank4/VarintReadPinLaw", "cell", "(IJIIJ)B"⟩ : MethodName)) hown (hw _ (List.mem_of_getElem? (i := 2) rfl)) (hw _ (List.mem_of_getElem? (i := 3) rfl)) (hw _ (List.mem_of_getElem? (i := 4) rfl)) (hw _ (List.mem_of_getElem? (i := 5) rfl)) (by decide) e56 (rm1 l Z a0 hw [] (13 : Int32) q1 z3 z4 q4  h56 n0 Zs57 ) (by rw [hml]; rfl) [(.int (13 : Int32)), (.long q1), (.int z3), (.int z4), (.long q4)] [(.int (13 : Int32)), (.ref b5), (.ref b5)] rfl rfl (lenOf pd_0 rfl) 3 (Nat.le_of_eq rfl) (hb hby at_229) (by decide) (by decide) (by decide) (by decide) rfl ?_
  intro v59 T59 L59 X59 hQ59
  obtain ⟨r59, rfl, hr59, N59q, e59⟩ := hQ59
  have N59 := Fr.app N58 N59q
  show Go p e below s 16 128 (Q0 Z q1 p2 p3 q4 h0 n0) T59 (mkF m 232 #[.val (.long q1), .second, .val (.int p2), .val (.int p3), .val (.long q4), .second, .val (.int z3), .val (.int z4), .unset, .unset, .unset] [(.int r59), (.int (13 : Int32)), (.ref b5), (.ref b5)])
  refine g_bastore 233 X59 hx hZ e59 A56' 13 (by decide) rfl (Nat.le_of_ble_eq_true rfl) (z := r59.toInt8.toInt32) rfl (hb hby at_232) rfl ?_
  intro T60 h60 X60 e60 W60 A60
  have Zs61 : n0 ≤ h60.size := (Nat.le_trans Zs57 (Keep.of_wr W60).1)
  have A60' : AI Z h60 b5 .byte [r7.toInt8.toInt32, r11.toInt8.toInt32, r15.toInt8.toInt32, r19.toInt8.toInt32, r23.toInt8.toInt32, r27.toInt8.toInt32, r31.toInt8.toInt32, r35.toInt8.toInt32, r39.toInt8.toInt32, r43.toInt8.toInt32, r47.toInt8.toInt32, r51.toInt8.toInt32, r55.toInt8.toInt32, r59.toInt8.toInt32, (0 : Int32), (0 : Int32), (0 : Int32), (0 : Int32), (0 : Int32), (0 : Int32)] := A60
  have N62 := Fr.snoc X60 N59 g_b5
  refine g_dup 234 X60 hx (hb hby at_233) rfl rfl ?_
  refine g_bipush 236 X60 hx (hb hby at_234) rfl (z := (14 : Int32)) rfl ?_
  refine g_bipush 238 X60 hx (hb hby at_236) rfl (z := (14 : Int32)) rfl ?_
  refine g_lloadN 239 X60 hx (hb hby at_238) rfl (v := q1) rfl ?_
  refine g_iload 241 X60 hx (hb hby at_239) rfl (v := z3) rfl ?_
  refine g_iload 243 X60 hx (hb hby at_241) rfl (v := z4) rfl ?_
  refine g_lload 245 X60 hx (hb hby at_243) rfl (v := q4) rfl ?_
  refine g_callS 248 X60 hx hZ (y := (⟨"com/example/rank4/rank4/VarintReadPinLaw", "cell", "(IJIIJ)B"⟩ : MethodName)) hown (hw _ (List.mem_of_getElem? (i := 2) rfl)) (hw _ (List.mem_of_getElem? (i := 3) rfl)) (hw _ (List.mem_of_getElem? (i := 4) rfl)) (hw _ (List.mem_of_getElem? (i := 5) rfl)) (by decide) e60 (rm1 l Z a0 hw [] (14 : Int32) q1 z3 z4 q4  h60 n0 Zs61 ) (by rw [hml]; rfl) [(.int (14 : Int32)), (.long q1), (.int z3), (.int z4), (.long q4)] [(.int (14 : Int32)), (.ref b5), (.ref b5)] rfl rfl (lenOf pd_0 rfl) 3 (Nat.le_of_eq rfl) (hb hby at_245) (by decide) (by decide) (by decide) (by decide) rfl ?_
  intro v63 T63 L63 X63 hQ63
  obtain ⟨r63, rfl, hr63, N63q, e63⟩ := hQ63
  have N63 := Fr.app N62 N63q
  show Go p e below s 16 128 (Q0 Z q1 p2 p3 q4 h0 n0) T63 (mkF m 248 #[.val (.long q1), .second, .val (.int p2), .val (.int p3), .val (.long q4), .second, .val (.int z3), .val (.int z4), .unset, .unset, .unset] [(.int r63), (.int (14 : Int32)), (.ref b5), (.ref b5)])
  refine g_bastore 249 X63 hx hZ e63 A60' 14 (by decide) rfl (Nat.le_of_ble_eq_true rfl) (z := r63.toInt8.toInt32) rfl (hb hby at_248) rfl ?_
  intro T64 h64 X64 e64 W64 A64
  have Zs65 : n0 ≤ h64.size := (Nat.le_trans Zs61 (Keep.of_wr W64).1)
  have A64' : AI Z h64 b5 .byte [r7.toInt8.toInt32, r11.toInt8.toInt32, r15.toInt8.toInt32, r19.toInt8.toInt32, r23.toInt8.toInt32, r27.toInt8.toInt32, r31.toInt8.toInt32, r35.toInt8.toInt32, r39.toInt8.toInt32, r43.toInt8.toInt32, r47.toInt8.toInt32, r51.toInt8.toInt32, r55.toInt8.toInt32, r59.toInt8.toInt32, r63.toInt8.toInt32, (0 : Int32), (0 : Int32), (0 : Int32), (0 : Int32), (0 : Int32)] := A64
  have N66 := Fr.snoc X64 N63 g_b5
  refine g_dup 250 X64 hx (hb hby at_249) rfl rfl ?_
  refine g_bipush 252 X64 hx (hb hby at_250) rfl (z := (15 : Int32)) rfl ?_
  refine g_bipush 254 X64 hx (hb hby at_252) rfl (z := (15 : Int32)) rfl ?_
  refine g_lloadN 255 X64 hx (hb hby at_254) rfl (v := q1) rfl ?_
  refine g_iload 257 X64 hx (hb hby at_255) rfl (v := z3) rfl ?_
  refine g_iload 259 X64 hx (hb hby at_257) rfl (v := z4) rfl ?_
  refine g_lload 261 X64 hx (hb hby at_259) rfl (v := q4) rfl ?_
  refine g_callS 264 X64 hx hZ (y := (⟨"com/example/rank4/rank4/VarintReadPinLaw", "cell", "(IJIIJ)B"⟩ : MethodName)) hown (hw _ (List.mem_of_getElem? (i := 2) rfl)) (hw _ (List.mem_of_getElem? (i := 3) rfl)) (hw _ (List.mem_of_getElem? (i := 4) rfl)) (hw _ (List.mem_of_getElem? (i := 5) rfl)) (by decide) e64 (rm1 l Z a0 hw [] (15 : Int32) q1 z3 z4 q4  h64 n0 Zs65 ) (by rw [hml]; rfl) [(.int (15 : Int32)), (.long q1), (.int z3), (.int z4), (.long q4)] [(.int (15 : Int32)), (.ref b5), (.ref b5)] rfl rfl (lenOf pd_0 rfl) 3 (Nat.le_of_eq rfl) (hb hby at_261) (by decide) (by decide) (by decide) (by decide) rfl ?_
  intro v67 T67 L67 X67 hQ67
  obtain ⟨r67, rfl, hr67, N67q, e67⟩ := hQ67
  have N67 := Fr.app N66 N67q
  show Go p e below s 16 128 (Q0 Z q1 p2 p3 q4 h0 n0) T67 (mkF m 264 #[.val (.long q1), .second, .val (.int p2), .val (.int p3), .val (.long q4), .second, .val (.int z3), .val (.int z4), .unset, .unset, .unset] [(.int r67), (.int (15 : Int32)), (.ref b5), (.ref b5)])
  refine g_bastore 265 X67 hx hZ e67 A64' 15 (by decide) rfl (Nat.le_of_ble_eq_true rfl) (z := r67.toInt8.toInt32) rfl (hb hby at_264) rfl ?_
  intro T68 h68 X68 e68 W68 A68
  have Zs69 : n0 ≤ h68.size := (Nat.le_trans Zs65 (Keep.of_wr W68).1)
  have A68' : AI Z h68 b5 .byte [r7.toInt8.toInt32, r11.toInt8.toInt32, r15.toInt8.toInt32, r19.toInt8.toInt32, r23.toInt8.toInt32, r27.toInt8.toInt32, r31.toInt8.toInt32, r35.toInt8.toInt32, r39.toInt8.toInt32, r43.toInt8.toInt32, r47.toInt8.toInt32, r51.toInt8.toInt32, r55.toInt8.toInt32, r59.toInt8.toInt32, r63.toInt8.toInt32, r67.toInt8.toInt32, (0 : Int32), (0 : Int32), (0 : Int32), (0 : Int32)] := A68
  have N70 := Fr.snoc X68 N67 g_b5
  refine g_dup 266 X68 hx (hb hby at_265) rfl rfl ?_
  refine g_bipush 268 X68 hx (hb hby at_266) rfl (z := (16 : Int32)) rfl ?_
  refine g_bipush 270 X68 hx (hb hby at_268) rfl (z := (16 : Int32)) rfl ?_
  refine g_lloadN 271 X68 hx (hb hby at_270) rfl (v := q1) rfl ?_
  refine g_iload 273 X68 hx (hb hby at_271) rfl (v := z3) rfl ?_
  refine g_iload 275 X68 hx (hb hby at_273) rfl (v := z4) rfl ?_
  refine g_lload 277 X68 hx (hb hby at_275) rfl (v := q4) rfl ?_
  refine g_callS 280 X68 hx hZ (y := (⟨"com/example/rank4/rank4/VarintReadPinLaw", "cell", "(IJIIJ)B"⟩ : MethodName)) hown (hw _ (List.mem_of_getElem? (i := 2) rfl)) (hw _ (List.mem_of_getElem? (i := 3) rfl)) (hw _ (List.mem_of_getElem? (i := 4) rfl)) (hw _ (List.mem_of_getElem? (i := 5) rfl)) (by decide) e68 (rm1 l Z a0 hw [] (16 : Int32) q1 z3 z4 q4  h68 n0 Zs69 ) (by rw [hml]; rfl) [(.int (16 : Int32)), (.long q1), (.int z3), (.int z4), (.long q4)] [(.int (16 : Int32)), (.ref b5), (.ref b5)] rfl rfl (lenOf pd_0 rfl) 3 (Nat.le_of_eq rfl) (hb hby at_277) (by decide) (by decide) (by decide) (by decide) rfl ?_
  intro v71 T71 L71 X71 hQ71
  obtain ⟨r71, rfl, hr71, N71q, e71⟩ := hQ71
  have N71 := Fr.app N70 N71q
  show Go p e below s 16 128 (Q0 Z q1 p2 p3 q4 h0 n0) T71 (mkF m 280 #[.val (.long q1), .second, .val (.int p2), .val (.int p3), .val (.long q4), .second, .val (.int z3), .val (.int z4), .unset, .unset, .unset] [(.int r71), (.int (16 : Int32)), (.ref b5), (.ref b5)])
  refine g_bastore 281 X71 hx hZ e71 A68' 16 (by decide) rfl (Nat.le_of_ble_eq_true rfl) (z := r71.toInt8.toInt32) rfl (hb hby at_280) rfl ?_
  intro T72 h72 X72 e72 W72 A72
  have Zs73 : n0 ≤ h72.size := (Nat.le_trans Zs69 (Keep.of_wr W72).1)
  have A72' : AI Z h72 b5 .byte [r7.toInt8.toInt32, r11.toInt8.toInt32, r15.toInt8.toInt32, r19.toInt8.toInt32, r23.toInt8.toInt32, r27.toInt8.toInt32, r31.toInt8.toInt32, r35.toInt8.toInt32, r39.toInt8.toInt32, r43.toInt8.toInt32, r47.toInt8.toInt32, r51.toInt8.toInt32, r55.toInt8.toInt32, r59.toInt8.toInt32, r63.toInt8.toInt32, r67.toInt8.toInt32, r71.toInt8.toInt32, (0 : Int32), (0 : Int32), (0 : Int32)] := A72
  have N74 := Fr.snoc X72 N71 g_b5
  refine g_dup 282 X72 hx (hb hby at_281) rfl rfl ?_
  refine g_bipush 284 X72 hx (hb hby at_282) rfl (z := (17 : Int32)) rfl ?_
  refine g_bipush 286 X72 hx (hb hby at_284) rfl (z := (17 : Int32)) rfl ?_
  refine g_lloadN 287 X72 hx (hb hby at_286) rfl (v := q1) rfl ?_
  refine g_iload 289 X72 hx (hb hby at_287) rfl (v := z3) rfl ?_
  refine g_iload 291 X72 hx (hb hby at_289) rfl (v := z4) rfl ?_
  refine g_lload 293 X72 hx (hb hby at_291) rfl (v := q4) rfl ?_
  refine g_callS 296 X72 hx hZ (y := (⟨"com/example/rank4/rank4/VarintReadPinLaw", "cell", "(IJIIJ)B"⟩ : MethodName)) hown (hw _ (List.mem_of_getElem? (i := 2) rfl)) (hw _ (List.mem_of_getElem? (i := 3) rfl)) (hw _ (List.mem_of_getElem? (i := 4) rfl)) (hw _ (List.mem_of_getElem? (i := 5) rfl)) (by decide) e72 (rm1 l Z a0 hw [] (17 : Int32) q1 z3 z4 q4  h72 n0 Zs73 ) (by rw [hml]; rfl) [(.int (17 : Int32)), (.long q1), (.int z3), (.int z4), (.long q4)] [(.int (17 : Int32)), (.ref b5), (.ref b5)] rfl rfl (lenOf pd_0 rfl) 3 (Nat.le_of_eq rfl) (hb hby at_293) (by decide) (by decide) (by decide) (by decide) rfl ?_
  intro v75 T75 L75 X75 hQ75
  obtain ⟨r75, rfl, hr75, N75q, e75⟩ := hQ75
  have N75 := Fr.app N74 N75q
  show Go p e below s 16 128 (Q0 Z q1 p2 p3 q4 h0 n0) T75 (mkF m 296 #[.val (.long q1), .second, .val (.int p2), .val (.int p3), .val (.long q4), .second, .val (.int z3), .val (.int z4), .unset, .unset, .unset] [(.int r75), (.int (17 : Int32)), (.ref b5), (.ref b5)])
  refine g_bastore 297 X75 hx hZ e75 A72' 17 (by decide) rfl (Nat.le_of_ble_eq_true rfl) (z := r75.toInt8.toInt32) rfl (hb hby at_296) rfl ?_
  intro T76 h76 X76 e76 W76 A76
  have Zs77 : n0 ≤ h76.size := (Nat.le_trans Zs73 (Keep.of_wr W76).1)
  have A76' : AI Z h76 b5 .byte [r7.toInt8.toInt32, r11.toInt8.toInt32, r15.toInt8.toInt32, r19.toInt8.toInt32, r23.toInt8.toInt32, r27.toInt8.toInt32, r31.toInt8.toInt32, r35.toInt8.toInt32, r39.toInt8.toInt32, r43.toInt8.toInt32, r47.toInt8.toInt32, r51.toInt8.toInt32, r55.toInt8.toInt32, r59.toInt8.toInt32, r63.toInt8.toInt32, r67.toInt8.toInt32, r71.toInt8.toInt32, r75.toInt8.toInt32, (0 : Int32), (0 : Int32)] := A76
  have N78 := Fr.snoc X76 N75 g_b5
  refine g_dup 298 X76 hx (hb hby at_297) rfl rfl ?_
  refine g_bipush 300 X76 hx (hb hby at_298) rfl (z := (18 : Int32)) rfl ?_
  refine g_bipush 302 X76 hx (hb hby at_300) rfl (z := (18 : Int32)) rfl ?_
  refine g_lloadN 303 X76 hx (hb hby at_302) rfl (v := q1) rfl ?_
  refine g_iload 305 X76 hx (hb hby at_303) rfl (v := z3) rfl ?_
  refine g_iload 307 X76 hx (hb hby at_305) rfl (v := z4) rfl ?_
  refine g_lload 309 X76 hx (hb hby at_307) rfl (v := q4) rfl ?_
  refine g_callS 312 X76 hx hZ (y := (⟨"com/example/rank4/rank4/VarintReadPinLaw", "cell", "(IJIIJ)B"⟩ : MethodName)) hown (hw _ (List.mem_of_getElem? (i := 2) rfl)) (hw _ (List.mem_of_getElem? (i := 3) rfl)) (hw _ (List.mem_of_getElem? (i := 4) rfl)) (hw _ (List.mem_of_getElem? (i := 5) rfl)) (by decide) e76 (rm1 l Z a0 hw [] (18 : Int32) q1 z3 z4 q4  h76 n0 Zs77 ) (by rw [hml]; rfl) [(.int (18 : Int32)), (.long q1), (.int z3), (.int z4), (.long q4)] [(.int (18 : Int32)), (.ref b5), (.ref b5)] rfl rfl (lenOf pd_0 rfl) 3 (Nat.le_of_eq rfl) (hb hby at_309) (by decide) (by decide) (by decide) (by decide) rfl ?_
  intro v79 T79 L79 X79 hQ79
  obtain ⟨r79, rfl, hr79, N79q, e79⟩ := hQ79
  have N79 := Fr.app N78 N79q
  show Go p e below s 16 128 (Q0 Z q1 p2 p3 q4 h0 n0) T79 (mkF m 312 #[.val (.long q1), .second, .val (.int p2), .val (.int p3), .val (.long q4), .second, .val (.int z3), .val (.int z4), .unset, .unset, .unset] [(.int r79), (.int (18 : Int32)), (.ref b5), (.ref b5)])
  refine g_bastore 313 X79 hx hZ e79 A76' 18 (by decide) rfl (Nat.le_of_ble_eq_true rfl) (z := r79.toInt8.toInt32) rfl (hb hby at_312) rfl ?_
  intro T80 h80 X80 e80 W80 A80
  have Zs81 : n0 ≤ h80.size := (Nat.le_trans Zs77 (Keep.of_wr W80).1)
  have A80' : AI Z h80 b5 .byte [r7.toInt8.toInt32, r11.toInt8.toInt32, r15.toInt8.toInt32, r19.toInt8.toInt32, r23.toInt8.toInt32, r27.toInt8.toInt32, r31.toInt8.toInt32, r35.toInt8.toInt32, r39.toInt8.toInt32, r43.toInt8.toInt32, r47.toInt8.toInt32, r51.toInt8.toInt32, r55.toInt8.toInt32, r59.toInt8.toInt32, r63.toInt8.toInt32, r67.toInt8.toInt32, r71.toInt8.toInt32, r75.toInt8.toInt32, r79.toInt8.toInt32, (0 : Int32)] := A80
  have N82 := Fr.snoc X80 N79 g_b5
  refine g_dup 314 X80 hx (hb hby at_313) rfl rfl ?_
  refine g_bipush 316 X80 hx (hb hby at_314) rfl (z := (19 : Int32)) rfl ?_
  refine g_bipush 318 X80 hx (hb hby at_316) rfl (z := (19 : Int32)) rfl ?_
  refine g_lloadN 319 X80 hx (hb hby at_318) rfl (v := q1) rfl ?_
  refine g_iload 321 X80 hx (hb hby at_319) rfl (v := z3) rfl ?_
  refine g_iload 323 X80 hx (hb hby at_321) rfl (v := z4) rfl ?_
  refine g_lload 325 X80 hx (hb hby at_323) rfl (v := q4) rfl ?_
  refine g_callS 328 X80 hx hZ (y := (⟨"com/example/rank4/rank4/VarintReadPinLaw", "cell", "(IJIIJ)B"⟩ : MethodName)) hown (hw _ (List.mem_of_getElem? (i := 2) rfl)) (hw _ (List.mem_of_getElem? (i := 3) rfl)) (hw _ (List.mem_of_getElem? (i := 4) rfl)) (hw _ (List.mem_of_getElem? (i := 5) rfl)) (by decide) e80 (rm1 l Z a0 hw [] (19 : Int32) q1 z3 z4 q4  h80 n0 Zs81 ) (by rw [hml]; rfl) [(.int (19 : Int32)), (.long q1), (.int z3), (.int z4), (.long q4)] [(.int (19 : Int32)), (.ref b5), (.ref b5)] rfl rfl (lenOf pd_0 rfl) 3 (Nat.le_of_eq rfl) (hb hby at_325) (by decide) (by decide) (by decide) (by decide) rfl ?_
  intro v83 T83 L83 X83 hQ83
  obtain ⟨r83, rfl, hr83, N83q, e83⟩ := hQ83
  have N83 := Fr.app N82 N83q
  show Go p e below s 16 128 (Q0 Z q1 p2 p3 q4 h0 n0) T83 (mkF m 328 #[.val (.long q1), .second, .val (.int p2), .val (.int p3), .val (.long q4), .second, .val (.int z3), .val (.int z4), .unset, .unset, .unset] [(.int r83), (.int (19 : Int32)), (.ref b5), (.ref b5)])
  refine g_bastore 329 X83 hx hZ e83 A80' 19 (by decide) rfl (Nat.le_of_ble_eq_true rfl) (z := r83.toInt8.toInt32) rfl (hb hby at_328) rfl ?_
  intro T84 h84 X84 e84 W84 A84
  have Zs85 : n0 ≤ h84.size := (Nat.le_trans Zs81 (Keep.of_wr W84).1)
  have A84' : AI Z h84 b5 .byte [r7.toInt8.toInt32, r11.toInt8.toInt32, r15.toInt8.toInt32, r19.toInt8.toInt32, r23.toInt8.toInt32, r27.toInt8.toInt32, r31.toInt8.toInt32, r35.toInt8.toInt32, r39.toInt8.toInt32, r43.toInt8.toInt32, r47.toInt8.toInt32, r51.toInt8.toInt32, r55.toInt8.toInt32, r59.toInt8.toInt32, r63.toInt8.toInt32, r67.toInt8.toInt32, r71.toInt8.toInt32, r75.toInt8.toInt32, r79.toInt8.toInt32, r83.toInt8.toInt32] := A84
  have N86 := Fr.snoc X84 N83 g_b5
  refine g_astore 331 X84 hx (hb hby at_329) rfl (Ls' := #[.val (.long q1), .second, .val (.int p2), .val (.int p3), .val (.long q4), .second, .val (.int z3), .val (.int z4), .val (.ref b5), .unset, .unset]) rfl rfl ?_
  refine g_iload 333 X84 hx (hb hby at_331) rfl (v := z3) rfl ?_
  refine g_bipush 335 X84 hx (hb hby at_333) rfl (z := (10 : Int32)) rfl ?_
  suffices Jhj89 : ∀ (z88 : Int64), ((z3 = (10 : Int32) ∧ z88 = q1) ∨ (¬ (z3 = (10 : Int32)) ∧ z88 = (q1 &&& (((1 : Int64) <<< (((7 : Int32) * z3) &&& 0x3f).toInt64) - (1 : Int64))))) → Go p e below s 16 128 (Q0 Z q1 p2 p3 q4 h0 n0) T84 (mkF m 357 #[.val (.long q1), .second, .val (.int p2), .val (.int p3), .val (.long q4), .second, .val (.int z3), .val (.int z4), .val (.ref b5), .val (.long z88), .second] []) by
    by_cases hc335_86 : z3 = (10 : Int32)
    ·
      refine g_icmpNo 338 X84 hx (hb hby at_335)  (teq hc335_86).2 rfl ?_
      refine g_lloadN 339 X84 hx (hb hby at_338) rfl (v := q1) rfl ?_
      refine g_lstore 341 X84 hx (hb hby at_339) rfl (Ls' := #[.val (.long q1), .second, .val (.int p2), .val (.int p3), .val (.long q4), .second, .val (.int z3), .val (.int z4), .val (.ref b5), .val (.long q1), .second]) rfl ?_
      refine g_goto 357 X84 hx (hb hby at_341) (by decide) (by decide) ?_
      exact Jhj89 q1 (Or.inl ⟨hc335_86, rfl⟩)
    ·
      refine g_icmpYes 344 X84 hx (hb hby at_335)  (feq hc335_86).2 (by decide) (by decide) ?_
      refine g_lloadN 345 X84 hx (hb hby at_344) rfl (v := q1) rfl ?_
      refine g_lconst 346 X84 hx (hb hby at_345) rfl (z := (1 : Int64)) rfl ?_
      refine g_bipush 348 X84 hx (hb hby at_346) rfl (z := (7 : Int32)) rfl ?_
      refine g_iload 350 X84 hx (hb hby at_348) rfl (v := z3) rfl ?_
      refine g_imul 351 X84 hx (hb hby at_350) rfl (z := ((7 : Int32) * z3)) rfl ?_
      refine g_lshl 352 X84 hx (hb hby at_351) rfl (z := ((1 : Int64) <<< (((7 : Int32) * z3) &&& 0x3f).toInt64)) rfl ?_
      refine g_lconst 353 X84 hx (hb hby at_352) rfl (z := (1 : Int64)) rfl ?_
      refine g_lsub 354 X84 hx (hb hby at_353) rfl (z := (((1 : Int64) <<< (((7 : Int32) * z3) &&& 0x3f).toInt64) - (1 : Int64))) rfl ?_
      refine g_land 355 X84 hx (hb hby at_354) rfl (z := (q1 &&& (((1 : Int64) <<< (((7 : Int32) * z3) &&& 0x3f).toInt64) - (1 : Int64)))) rfl ?_
      refine g_lstore 357 X84 hx (hb hby at_355) rfl (Ls' := #[.val (.long q1), .second, .val (.int p2), .val (.int p3), .val (.long q4), .second, .val (.int z3), .val (.int z4), .val (.ref b5), .val (.long (q1 &&& (((1 : Int64) <<< (((7 : Int32) * z3) &&& 0x3f).toInt64) - (1 : Int64)))), .second]) rfl ?_
      exact Jhj89 (q1 &&& (((1 : Int64) <<< (((7 : Int32) * z3) &&& 0x3f).toInt64) - (1 : Int64))) (Or.inr (⟨hc335_86, rfl⟩))
  intro z88 hj89
  refine g_aload 359 X84 hx (hb hby at_357) rfl (v := (.ref b5)) rfl rfl ?_
  refine g_iload 361 X84 hx (hb hby at_359) rfl (v := z4) rfl ?_
  have hq361_hp_90 : 0 ≤ z4.toInt ∧ z4.toInt ≤ 7 := hA
  have hq361_hl_91 : [r7.toInt8.toInt32, r11.toInt8.toInt32, r15.toInt8.toInt32, r19.toInt8.toInt32, r23.toInt8.toInt32, r27.toInt8.toInt32, r31.toInt8.toInt32, r35.toInt8.toInt32, r39.toInt8.toInt32, r43.toInt8.toInt32, r47.toInt8.toInt32, r51.toInt8.toInt32, r55.toInt8.toInt32, r59.toInt8.toInt32, r63.toInt8.toInt32, r67.toInt8.toInt32, r71.toInt8.toInt32, r75.toInt8.toInt32, r79.toInt8.toInt32, r83.toInt8.toInt32].length = 20 := rfl
  refine g_callS 364 X84 hx hZ (y := (⟨"com/example/rank4/rank4/Varint", "read", "([BI)J"⟩ : MethodName)) hown (hw _ (List.mem_of_getElem? (i := 8) rfl)) (hw _ (List.mem_of_getElem? (i := 9) rfl)) (hw _ (List.mem_of_getElem? (i := 10) rfl)) (hw _ (List.mem_of_getElem? (i := 11) rfl)) (by decide) e84 (rm2 l Z a0 hw [] b5 z4 [r7.toInt8.toInt32, r11.toInt8.toInt32, r15.toInt8.toInt32, r19.toInt8.toInt32, r23.toInt8.toInt32, r27.toInt8.toInt32, r31.toInt8.toInt32, r35.toInt8.toInt32, r39.toInt8.toInt32, r43.toInt8.toInt32, r47.toInt8.toInt32, r51.toInt8.toInt32, r55.toInt8.toInt32, r59.toInt8.toInt32, r63.toInt8.toInt32, r67.toInt8.toInt32, r71.toInt8.toInt32, r75.toInt8.toInt32, r79.toInt8.toInt32, r83.toInt8.toInt32] h84 n0 Zs85 A84' hq361_hp_90 hq361_hl_91) (by rw [hml]; rfl) [(.ref b5), (.int z4)] [] rfl rfl (lenOf pd_1 rfl) 0 (Nat.le_of_eq rfl) (hb hby at_361) (by decide) (by decide) (by decide) (by decide) rfl ?_
  intro v90 T90 L90 X90 hQ90
  obtain ⟨r90, rfl, hr90, N90q, e90⟩ := hQ90
  have N90 := Fr.app N86 N90q
  show Go p e below s 16 128 (Q0 Z q1 p2 p3 q4 h0 n0) T90 (mkF m 364 #[.val (.long q1), .second, .val (.int p2), .val (.int p3), .val (.long q4), .second, .val (.int z3), .val (.int z4), .val (.ref b5), .val (.long z88), .second] [(.long r90)])
  refine g_lload 366 X90 hx (hb hby at_364) rfl (v := z88) rfl ?_
  suffices Jhj95 : ∀ (z94 : Int32), ((r90 = z88 ∧ z94 = (1 : Int32)) ∨ (¬ (r90 = z88) ∧ z94 = (0 : Int32))) → Go p e below s 16 128 (Q0 Z q1 p2 p3 q4 h0 n0) T90 (mkF m 375 #[.val (.long q1), .second, .val (.int p2), .val (.int p3), .val (.long q4), .second, .val (.int z3), .val (.int z4), .val (.ref b5), .val (.long z88), .second] [(.int z94)]) by
    by_cases hc366_92 : r90 = z88
    ·
      refine g_lcmpNo 370 X90 hx (hb hby at_366) rfl (hb hby at_367) (teqL hc366_92).2 rfl ?_
      refine g_iconst 371 X90 hx (hb hby at_370) rfl (z := (1 : Int32)) rfl ?_
      refine g_goto 375 X90 hx (hb hby at_371) (by decide) (by decide) ?_
      exact Jhj95 (1 : Int32) (Or.inl ⟨hc366_92, rfl⟩)
    ·
      refine g_lcmpYes 374 X90 hx (hb hby at_366) rfl (hb hby at_367) (feqL hc366_92).2 (by decide) (by decide) ?_
      refine g_iconst 375 X90 hx (hb hby at_374) rfl (z := (0 : Int32)) rfl ?_
      exact Jhj95 (0 : Int32) (Or.inr (⟨hc366_92, rfl⟩))
  intro z94 hj95
  have hl0 : z94 = 1 := leaf_0 q1 p2 p3 q4 z3 z4 r7 r11 r15 r19 r23 r27 r31 r35 r39 r43 r47 r51 r55 r59 r63 r67 r71 r75 r79 r83 z88 r90 z94 hK hA hr7 hr11 hr15 hr19 hr23 hr27 hr31 hr35 hr39 hr43 hr47 hr51 hr55 hr59 hr63 hr67 hr71 hr75 hr79 hr83 hj89 hr90 hj95
  subst hl0
  exact g_retN X90 hx (t := .boolean) Bd.returns hlk (by simp) rfl (hb hby at_375) (by decide) (by decide) ⟨rfl, N90⟩
set_option maxRecDepth 65536 in
set_option maxHeartbeats 40000000 in
theorem comes_1 {Post : Tables → Env → Array Value → State → Outcome → State → Prop} (hpost : ∀ tb e args s v u, (limb_1_1.after args s (.returned v) u = true ∧ limb_1_2.after args s (.returned v) u = true ∧ True) → FrameEnd s (.returned v) u (Jvm.fieldLocs frame_1_writes args s ++ Jvm.arrayLocs frame_1_arrays args s ++ Jvm.staticLocs frame_1_statics s) 16 128 → Post tb e args s (.returned v) u) :
    ArmFor flags0 classFile x code maxLocals ret World_1 tables_1 room_1 Calls_1 rest_1 Pre_1 Post := by
  intro l hfl _ _ p e ha hc hk s m args below hf hA hF happ hP
  obtain ⟨hcalls, hrest, hpre⟩ := hP
  obtain ⟨-, -, -, hnamed, -, -, -, hat⟩ := (Spec.applies_iff hf).mp happ
  obtain ⟨hg, hn⟩ := and_e (Cond.before_iff.mp (show (Jvm.Cond.and given_1 narrow_1).before args s = true from hpre))
  obtain ⟨hcount, r0⟩ := and_e hg
  obtain ⟨ga0, r1⟩ := and_e r0
  obtain ⟨ga1, r2⟩ := and_e r1
  obtain ⟨ga2, r3⟩ := and_e r2
  obtain ⟨w0, w1, w2, w3, rfl⟩ : ∃ w0 w1 w2 w3 : Value, args = #[w0, w1, w2, w3] := by
    have hs : args.size = 4 := by simpa [Cond.value, given_1] using hcount
    obtain ⟨L⟩ := args
    match L, hs with
    | [w0, w1, w2, w3], _ => exact ⟨w0, w1, w2, w3, rfl⟩
  have hw := fun d (hd : d ∈ tables_1) => atoms_spec (ws := Jvm.Cond.code x code maxLocals ret :: tables_1) hat d (List.mem_cons_of_mem _ hd)
  obtain ⟨i0, ei0⟩ := isL_v ga0
  obtain rfl : w0 = (.long i0) := Option.some.inj ei0
  obtain ⟨i1, ei1⟩ := is_v ga1
  obtain rfl : w1 = (.int i1) := Option.some.inj ei1
  obtain ⟨i2, ei2⟩ := is_v ga2
  obtain rfl : w2 = (.int i2) := Option.some.inj ei2
  obtain ⟨i3, ei3⟩ := isL_v r3
  obtain rfl : w3 = (.long i3) := Option.some.inj ei3
  obtain ⟨n, o, h1, h2, h3, _, L, rfl, ⟨rfl, N⟩, hq⟩ := rm0 l s _ hw tables_1 i0 i1 i2 i3 s.heap s.heap.size (Nat.le_refl _)  p e ha hc hk s m _ below hf ((Spec.applies_iff_loose hf).mp happ).1 ⟨rfl, State.Warmed39.refl s, rfl⟩ trivial
  exact ⟨n, _, h1, h2, h3, hpost _ _ _ _ _ _ ⟨Cond.after_iff.mpr rfl, Cond.after_iff.mpr (eq_i res_at (Term.int_eval (1)) rfl), trivial⟩ ⟨hq.1, hq.2.1, (hq.2.2.sift fun y hy => Or.inr (N y hy)).mono (by decide) (by decide)⟩⟩
theorem main_1_1 : Claimed_1_1 := comes_1 fun _ _ _ _ _ _ h hF => ⟨h.1, hF⟩
theorem main_1_2 : Claimed_1_2 := comes_1 fun _ _ _ _ _ _ h hF => ⟨h.2.1, hF⟩
end Jvm.Pilot.@@N@@
namespace Jvm.Pilot.@@N@@
open Jvm Jvm.ClassFile Sem Op Lib Jvm.Free Jvm.Stand Jvm.Pilot.@@N@@.Jvm.D
/-! MADE BY PROGRAM (witnessworld.py) out of the Statement's table words and the real class files: 9 classes; the members and pool entries that the words name. The judged class is class 1, her method 2. -/
namespace start1
open Jvm.ClassFile
def u (s : String) : CpInfo := .utf8 (stringToUtf16 s)
/-- a pool by its gaps: so many unusable entries, then the entry; so many at the end -/
def gap : Nat → List CpInfo → List CpInfo
  | 0, r => r
  | n + 1, r => .unusable :: gap n r
def poolList (es : List (Nat × CpInfo)) (last : Nat) : List CpInfo := es.foldr (fun e r => gap e.1 (e.2 :: r)) (gap last [])
def pool (es : List (Nat × CpInfo)) (last : Nat) : Array CpInfo := ⟨poolList es last⟩
def fileOf (pool : Array CpInfo) (this : Nat) (attrs : Array Attribute := #[]) (ms : Array MethodInfo := #[]) (fl : Nat := 33) (sup : Nat := 0) (ifs : Array Nat := #[]) (fds : Array FieldInfo := #[]) : ClassFile where
  minorVersion := 0
  majorVersion := 65
  constantPool := pool
  accessFlags := fl
  thisClass := this
  superClass := sup
  interfaces := ifs
  fields := fds
  methods := ms
  attributes := attrs
def plain (name : String) (sup : Option ClassId) : Class where
  name := name
  kind := .ordinary
  loader := none
  accessFlags := 33
  super := sup
  interfaces := #[]
  cf := none
  fields := #[]
  methods := #[]
  instanceTypes := #[]
  staticTypes := #[]
  resolved := #[]
  callSites := []
  init := .initialized
  statics := none
  mirror := none

def pool0 : Array CpInfo := pool [(5, u "<init>"), (0, u "()V"), (1, .class_ 10), (1, u "java/lang/Object")] 113

def k0m0 : Method := { name := "<init>", desc := "()V", sig := { parameters := [], returnType := none }, accessFlags := 1, code := none }
/-- java/lang/Object -/
def k0 : Class := { plain "java/lang/Object" none with
  accessFlags := 33
  interfaces := #[]
  cf := some (fileOf pool0 8 #[] #[{ accessFlags := 1, nameIndex := 5, descriptorIndex := 6, attributes := #[] }] 33 0 #[] #[])
  fields := #[]
  methods := #[k0m0]
  instanceTypes := #[]
  staticTypes := #[]
  resolved := Array.replicate 124 none
  statics := none }

def pool1 : Array CpInfo := pool [(2, .class_ 4), (1, u "java/lang/Object"), (0, u "<init>"), (0, u "()V"), (0, .long 127), (1, .long 128), (1, .integer 2147483647), (0, .methodref 13 14), (0, .class_ 15), (0, .nameAndType 16 17), (0, u "com/example/rank4/rank4/VarintReadPinLaw"), (0, u "cell"), (0, u "(IJIIJ)B"), (0, .methodref 19 20), (0, .class_ 21), (0, .nameAndType 22 23), (0, u "com/example/rank4/rank4/Varint"), (0, u "read"), (0, u "([BI)J"), (3, u "law"), (0, u "(JIIJ)Z")] 4

def k1m0 : Method := { name := "<init>", desc := "()V", sig := { parameters := [], returnType := none }, accessFlags := 2, code := none }
def k1c1 : Code := { maxStack := 4, maxLocals := 11, code := method_2_code, exceptionTable := #[], attributes := #[] }
def k1m1 : Method := { name := "cell", desc := "(IJIIJ)B", sig := { parameters := [.int, .long, .int, .int, .long], returnType := some .byte }, accessFlags := 10, code := some k1c1 }
def k1c2 : Code := { maxStack := 10, maxLocals := 11, code := code, exceptionTable := #[], attributes := #[] }
def k1m2 : Method := { name := "law", desc := "(JIIJ)Z", sig := { parameters := [.long, .int, .int, .long], returnType := some .boolean }, accessFlags := 9, code := some k1c2 }
/-- com/example/rank4/rank4/VarintReadPinLaw -/
def k1 : Class := { plain "com/example/rank4/rank4/VarintReadPinLaw" (some 0) with
  accessFlags := 49
  interfaces := #[]
  cf := some (fileOf pool1 13 #[] #[{ accessFlags := 2, nameIndex := 5, descriptorIndex := 6, attributes := #[] }, { accessFlags := 10, nameIndex := 16, descriptorIndex := 17, attributes := #[] }, { accessFlags := 9, nameIndex := 27, descriptorIndex := 28, attributes := #[] }] 49 2 #[] #[])
  fields := #[]
  methods := #[k1m0, k1m1, k1m2]
  instanceTypes := #[]
  staticTypes := #[]
  resolved := Array.replicate 33 none
  statics := none }

def pool2 : Array CpInfo := pool [(2, .class_ 4), (1, u "java/lang/Object"), (0, u "<init>"), (0, u "()V"), (4, .class_ 12), (0, u "com/example/rank4/rank4/Varint"), (0, u "LONGEST"), (0, u "I"), (7, u "read"), (0, u "([BI)J")] 4

def k2m0 : Method := { name := "<init>", desc := "()V", sig := { parameters := [], returnType := none }, accessFlags := 2, code := none }
def k2c1 : Code := { maxStack := 6, maxLocals := 6, code := prog_43_method_3_code, exceptionTable := #[], attributes := #[] }
def k2m1 : Method := { name := "read", desc := "([BI)J", sig := { parameters := [(.array .byte), .int], returnType := some .long }, accessFlags := 8, code := some k2c1 }
/-- com/example/rank4/rank4/Varint -/
def k2 : Class := { plain "com/example/rank4/rank4/Varint" (some 0) with
  accessFlags := 48
  interfaces := #[]
  cf := some (fileOf pool2 11 #[] #[{ accessFlags := 2, nameIndex := 5, descriptorIndex := 6, attributes := #[] }, { accessFlags := 8, nameIndex := 22, descriptorIndex := 23, attributes := #[] }] 48 2 #[] #[{ accessFlags := 24, nameIndex := 13, descriptorIndex := 14, attributes := #[] }])
  fields := #[{ name := "LONGEST", type := .int, accessFlags := 24, slot := 0, constantValue := 0 }]
  methods := #[k2m0, k2m1]
  instanceTypes := #[]
  staticTypes := #[.int]
  resolved := Array.replicate 28 none
  statics := none }

def pool3 : Array CpInfo := pool [(1, u "java/lang/Cloneable"), (0, .class_ 1), (0, u "java/lang/Object"), (0, .class_ 3)] 3

/-- java/lang/Cloneable -/
def k3 : Class := { plain "java/lang/Cloneable" (some 0) with
  accessFlags := 1537
  interfaces := #[]
  cf := some (fileOf pool3 2 #[] #[] 1537 4 #[] #[])
  fields := #[]
  methods := #[]
  instanceTypes := #[]
  staticTypes := #[]
  resolved := Array.replicate 8 none
  statics := none }

def pool4 : Array CpInfo := pool [(1, u "java/io/Serializable"), (0, .class_ 1), (0, u "java/lang/Object"), (0, .class_ 3)] 3

/-- java/io/Serializable -/
def k4 : Class := { plain "java/io/Serializable" (some 0) with
  accessFlags := 1537
  interfaces := #[]
  cf := some (fileOf pool4 2 #[] #[] 1537 4 #[] #[])
  fields := #[]
  methods := #[]
  instanceTypes := #[]
  staticTypes := #[]
  resolved := Array.replicate 8 none
  statics := none }

/-- the primitive byte -/
def k5 : Class := { plain "byte" none with kind := .primitive 'B', accessFlags := 0x411 }
/-- [B -/
def k6 : Class := { plain "[B" (some 0) with kind := .array 5 .byte, interfaces := #[3, 4], accessFlags := 1041 }

/-- the primitive int -/
def k7 : Class := { plain "int" none with kind := .primitive 'I', accessFlags := 0x411 }
/-- [I -/
def k8 : Class := { plain "[I" (some 0) with kind := .array 7 .int, interfaces := #[3, 4], accessFlags := 1041 }

def heap : Heap := #[]
def classes : Array Class := #[k0, k1, k2, k3, k4, k5, k6, k7, k8]
def interned : List (Array UInt16 × Addr) := []
def slotsUsed : Nat := 0
def theMethod : MethodId := ⟨1, 2⟩
def args0 : Array Value := #[.long 5, .int 7, .int 9, .long 11]
def aboutOver (below : List Frame) : State where
  vm := { classes := classes, interned := interned.toArray }
  heap := heap
  slotsUsed := slotsUsed
  threads := #[{ frames := .invoking theMethod args0 :: below }]
def below0 : List Frame := [.native { method := ⟨0, 0⟩, args := #[] }]
def about1 : State := aboutOver below0
def p0 : Program := .bare "" "" ""
def e0 : Env := launch0.env 0 0 0
theorem w_frames : about1.frames = Frame.invoking theMethod args0 :: below0 := rfl
set_option maxRecDepth 65536 in
theorem w_args : argsFit about1.vm theMethod args0 = true := by decide +kernel
set_option maxRecDepth 65536 in
theorem w_heap : heapFits about1 = true := by decide +kernel
set_option maxRecDepth 65536 in
theorem w_runnable : about1.curStatus? = some .runnable := by decide +kernel
set_option maxRecDepth 65536 in
theorem w_alone : about1.alone = true := by decide +kernel
set_option maxRecDepth 65536 in
theorem w_named : about1.methodNamed? x = some theMethod := by decide +kernel
set_option maxRecDepth 65536 in
theorem w_hears : about1.hears theMethod below0 = true := by decide +kernel
set_option maxRecDepth 65536 in
theorem w_ripe : about1.ripe theMethod args0 below0 = true := by decide +kernel
theorem w_running : about1.status = .running := rfl
set_option maxRecDepth 65536 in
theorem w_room : about1.hasRoom e0.platform room_1 = true :=
  launch0.hasRoom_least _ room_1 (by decide +kernel) (by decide +kernel) (by decide +kernel) (by decide +kernel) (by decide +kernel) (by decide +kernel)
theorem allAtoms_all (ts : List Jvm.Cond) (a : Array Jvm.Value) (st : Jvm.State) : (allAtoms ts).before a st = ts.all (fun c => c.before a st) := by
  induction ts with
  | nil => rfl
  | cons c t ih =>
    show (Jvm.Cond.and c (allAtoms t)).before a st = _
    rw [Jvm.Cond.before_and, ih, List.all_cons]
def words1 : List Jvm.Cond := Jvm.Cond.code x code maxLocals ret :: tables_1
/-- a 'code' word, met by the world's own term for the bytes: nothing is compared byte by byte -/
theorem code_word {y : MethodName} {bytes : ByteArray} {mx : Nat} {rt : Option FieldType} {a : Array Value} {s : State} {m : MethodId} {meth : Method} {c : Code} (h1 : s.methodNamed? y = some m) (h2 : s.vm.method? m = some meth) (h3 : meth.code = some c) (h4 : c.code = bytes)
    (h5 : (c.maxLocals == mx && c.exceptionTable.isEmpty && decide (c.maxStack ≤ mostOperands) && decide (meth.sig.returnType = rt) && !meth.locks && decide (parseMethodDescriptor y.desc = some meth.sig)) = true) : (Jvm.Cond.code y bytes mx rt).before a s = true := by
  simp only [Bool.and_eq_true, beq_iff_eq, Bool.not_eq_true', decide_eq_true_eq] at h5
  obtain ⟨⟨⟨⟨⟨g1, g2⟩, g3⟩, g4⟩, g5⟩, g6⟩ := h5
  simp [Cond.before, Cond.holds, Cond.value, h1, h2, h3, h4, g1, g2, g3, g4, g5, g6]
def isCode : Jvm.Cond → Bool
  | .code _ _ _ _ => true
  | _ => false
theorem all_split {L : List Jvm.Cond} {P : Jvm.Cond → Bool} (h1 : L.all (fun c => isCode c || P c) = true) (h2 : ∀ c ∈ L.filter isCode, P c = true) : L.all P = true := by
  refine List.all_eq_true.mpr fun c hc => ?_
  have h := List.all_eq_true.mp h1 c hc
  rcases Bool.eq_false_or_eq_true (isCode c) with hi | hi
  · exact h2 c (List.mem_filter.mpr ⟨hc, hi⟩)
  · simpa [hi] using h
set_option maxRecDepth 65536 in
theorem w_c0 : (Jvm.Cond.code x code maxLocals ret).before args0 about1 = true := code_word (m := ⟨1, 2⟩) (meth := k1m2) (c := k1c2) (by decide +kernel) rfl rfl rfl (by decide +kernel)
set_option maxRecDepth 65536 in
theorem w_c1 : (Jvm.Cond.code ({ cls := "com/example/rank4/rank4/VarintReadPinLaw", name := "cell", desc := "(IJIIJ)B" } : Jvm.MethodName) method_2_code (11 : Nat) (Option.some Jvm.ClassFile.FieldType.byte)).before args0 about1 = true := code_word (m := ⟨1, 1⟩) (meth := k1m1) (c := k1c1) (by decide +kernel) rfl rfl rfl (by decide +kernel)
set_option maxRecDepth 65536 in
theorem w_c2 : (Jvm.Cond.code ({ cls := "com/example/rank4/rank4/Varint", name := "read", desc := "([BI)J" } : Jvm.MethodName) prog_43_method_3_code (6 : Nat) (Option.some Jvm.ClassFile.FieldType.long)).before args0 about1 = true := code_word (m := ⟨2, 1⟩) (meth := k2m1) (c := k2c1) (by decide +kernel) rfl rfl rfl (by decide +kernel)
def codes1 : List Jvm.Cond := [Jvm.Cond.code x code maxLocals ret, Jvm.Cond.code ({ cls := "com/example/rank4/rank4/VarintReadPinLaw", name := "cell", desc := "(IJIIJ)B" } : Jvm.MethodName) method_2_code (11 : Nat) (Option.some Jvm.ClassFile.FieldType.byte), Jvm.Cond.code ({ cls := "com/example/rank4/rank4/Varint", name := "read", desc := "([BI)J" } : Jvm.MethodName) prog_43_method_3_code (6 : Nat) (Option.some Jvm.ClassFile.FieldType.long)]
set_option maxRecDepth 65536 in
theorem codes_eq : words1.filter isCode = codes1 := rfl
theorem w_codes : ∀ c ∈ words1.filter isCode, c.before args0 about1 = true := by
  rw [codes_eq]
  intro c hc
  simp only [codes1, List.mem_cons, List.not_mem_nil, or_false] at hc
  rcases hc with rfl | rfl | rfl
  · exact w_c0
  · exact w_c1
  · exact w_c2
set_option maxRecDepth 65536 in
theorem w_t1 : words1.all (fun c => isCode c || c.before args0 about1) = true := by decide +kernel
theorem w_tables : (allAtoms (Jvm.Cond.code x code maxLocals ret :: tables_1)).before args0 about1 = true := by
  rw [allAtoms_all]
  show words1.all (fun c => c.before args0 about1) = true
  refine all_split ?_ w_codes
  rw [w_t1]
set_option maxRecDepth 65536 in
theorem w_case : (Jvm.Cond.and given_1 narrow_1).before args0 about1 = true := by decide +kernel
theorem w_applies : (headSpec (Jvm.Cond.code x code maxLocals ret :: tables_1) room_1).applies x e0.platform about1 = true :=
  (Spec.applies_iff w_frames).mpr ⟨w_running, w_runnable, w_alone, w_named, w_hears, w_ripe, w_room, w_tables⟩
theorem atStart : AtStart classFile x code maxLocals ret World_1 tables_1 room_1 Calls_1 rest_1 Pre_1 launch0 p0 e0 about1 theMethod args0 below0 :=
  ⟨lists_1, trivial, launch0.admits_env _ _ _, launch0.least_env, fairChoices_fair.cas, fairChoices_fair.clock, w_frames, w_args, w_heap, w_applies, trivial, trivial, w_case⟩
end start1
theorem witness_1 : WitnessClaimed_1 := ⟨start1.p0, start1.e0, start1.about1, start1.theMethod, start1.args0, start1.below0, start1.atStart⟩
end Jvm.Pilot.@@N@@
