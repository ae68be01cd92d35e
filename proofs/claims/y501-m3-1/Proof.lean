import JvmDerived
import JvmDerived.Pilot.@@N@@Statement
import JvmDerived.Pilot.@@N@@Code
set_option linter.unusedVariables false
set_option linter.unusedSimpArgs false
namespace Jvm.Pilot.@@N@@
open Jvm Jvm.ClassFile Sem Op Lib Jvm.Free Jvm.Stand Jvm.LawKit Jvm.RoadKit Bundle Jvm.Pilot.@@N@@.Jvm.D
section OwnKit
variable {p : Program} {l : Launch} {e : Env} {R : Room} {s : State} {m : MethodId} {args : Array Value} {below : List Frame} {meth : Method} {c : Code} {T T' : State} {locs : List Loc} {cells slots kc kn : Nat} {Q : Option Value → Heap → List Loc → Prop} {f f' : JFrame} {pc q q' : Nat} {Ls Ls' : Array Slot} {st : List Value} {Z : State} {a0 : Array Value} {h : Heap} {by' : ByteArray} {ml : Nat} {own nm : String} {ret : Option FieldType}
/-- from this state, with this frame on top, the body returns as Q says -/
def Run (p : Program) (e : Env) (below : List Frame) (s : State) (kc kn : Nat) (Q : Option Value → Heap → List Loc → Prop) (T : State) (f : JFrame) : Prop :=
  ∃ t o, Steps p.tables e below (T.setTop f) t ∧ t.status = .running ∧ Ended t below o ∧ ∃ v L, o = .returned v ∧ Q v t.heap L ∧ FrameEnd s o t L kc kn
theorem Run.by (st : ∀ t, Steps p.tables e below (T'.setTop f') t → Steps p.tables e below (T.setTop f) t) (k : Run p e below s kc kn Q T' f') : Run p e below s kc kn Q T f := by
  obtain ⟨t, o, h1, r⟩ := k
  exact ⟨t, o, st t h1, r⟩
theorem Run.on (k : Run p e below s kc kn Q T' f') (st : Steps p.tables e below (T.setTop f) (T'.setTop f')) : Run p e below s kc kn Q T f := k.by fun _ h1 => st.trans h1
/-- what a walk knows of its method throughout -/
def Fx (p : Program) (s : State) (m : MethodId) (meth : Method) (c : Code) (by' : ByteArray) (ml : Nat) (own nm : String) (ret : Option FieldType) (Z : State) : Prop :=
  p.tables.exec = Jvm.exec ∧ c.code = by' ∧ c.maxLocals = ml ∧ s.vm.findClass own = some m.cls ∧ Z.Warmed39 s.vm ∧ meth.sig.returnType = ret ∧ meth.locks = false ∧ meth.name = nm
def ushrI (x k : Int32) : Int32 := (x.toUInt32 >>> (k &&& 31).toUInt32).toInt32
def i2c (x : Int32) : Int32 := x.toUInt32.toUInt16.toUInt32.toInt32
theorem k_iloadN (K : Fx p s m meth c by' ml own nm ret Z) (X : Stand p l e R s m args below meth c T locs cells slots) {k' : Fin 4} {v : Int32} (hd : decode by' pc = .ok (.iload_n k', 1)) (hl : Ls[k'.val]? = some (.val (.int v))) (hq : pc + 1 = q) (k : Run p e below s kc kn Q T (mkF m q Ls (.int v :: st))) : Run p e below s kc kn Q T (mkF m pc Ls st) := by
  subst hq; exact k.by fun t => XS.iloadN X.here K.1 rfl (hb K.2.1 hd) hl
theorem k_iload (K : Fx p s m meth c by' ml own nm ret Z) (X : Stand p l e R s m args below meth c T locs cells slots) {k' : Nat} {v : Int32} (hd : decode by' pc = .ok (.iload k', 2)) (hl : Ls[k']? = some (.val (.int v))) (hq : pc + 2 = q) (k : Run p e below s kc kn Q T (mkF m q Ls (.int v :: st))) : Run p e below s kc kn Q T (mkF m pc Ls st) := by
  subst hq; exact k.by fun t => XS.iload X.here K.1 rfl (hb K.2.1 hd) hl
theorem k_istoreN (K : Fx p s m meth c by' ml own nm ret Z) (X : Stand p l e R s m args below meth c T locs cells slots) {k' : Fin 4} {v x : Int32} (hd : decode by' pc = .ok (.istore_n k', 1)) (hv : x = v) (hl : storeLocals Ls k'.val (.int v) = some Ls') (hq : pc + 1 = q) (k : Run p e below s kc kn Q T (mkF m q Ls' st)) : Run p e below s kc kn Q T (mkF m pc Ls (.int x :: st)) := by
  subst hq hv; exact k.by fun t => XS.istoreN X.here K.1 rfl (hb K.2.1 hd) rfl hl
theorem k_istore (K : Fx p s m meth c by' ml own nm ret Z) (X : Stand p l e R s m args below meth c T locs cells slots) {k' : Nat} {v x : Int32} (hd : decode by' pc = .ok (.istore k', 2)) (hv : x = v) (hl : storeLocals Ls k' (.int v) = some Ls') (hq : pc + 2 = q) (k : Run p e below s kc kn Q T (mkF m q Ls' st)) : Run p e below s kc kn Q T (mkF m pc Ls (.int x :: st)) := by
  subst hq hv; exact k.by fun t => XS.istore X.here K.1 rfl (hb K.2.1 hd) rfl hl
theorem k_iconst (K : Fx p s m meth c by' ml own nm ret Z) (X : Stand p l e R s m args below meth c T locs cells slots) {i : Int} {v : Int32} (hd : decode by' pc = .ok (.iconst i, 1)) (hv : Int32.ofInt i = v) (hq : pc + 1 = q) (k : Run p e below s kc kn Q T (mkF m q Ls (.int v :: st))) : Run p e below s kc kn Q T (mkF m pc Ls st) := by
  subst hq hv; exact k.by fun t => XS.iconst X.here K.1 rfl (hb K.2.1 hd)
theorem k_bipush (K : Fx p s m meth c by' ml own nm ret Z) (X : Stand p l e R s m args below meth c T locs cells slots) {i : Int} {v : Int32} (hd : decode by' pc = .ok (.bipush i, 2)) (hv : (Int8.ofInt i).toInt32 = v) (hq : pc + 2 = q) (k : Run p e below s kc kn Q T (mkF m q Ls (.int v :: st))) : Run p e below s kc kn Q T (mkF m pc Ls st) := by
  subst hq hv; exact k.by fun t => XS.bipush X.here K.1 rfl (hb K.2.1 hd)
theorem k_iadd (K : Fx p s m meth c by' ml own nm ret Z) (X : Stand p l e R s m args below meth c T locs cells slots) {x y : Int32} (hd : decode by' pc = .ok (.iadd, 1)) (hq : pc + 1 = q) (k : Run p e below s kc kn Q T (mkF m q Ls (.int (x + y) :: st))) : Run p e below s kc kn Q T (mkF m pc Ls (.int y :: .int x :: st)) := by
  subst hq; exact k.by fun t => XS.iadd X.here K.1 rfl (hb K.2.1 hd) rfl
theorem k_isub (K : Fx p s m meth c by' ml own nm ret Z) (X : Stand p l e R s m args below meth c T locs cells slots) {x y : Int32} (hd : decode by' pc = .ok (.isub, 1)) (hq : pc + 1 = q) (k : Run p e below s kc kn Q T (mkF m q Ls (.int (x - y) :: st))) : Run p e below s kc kn Q T (mkF m pc Ls (.int y :: .int x :: st)) := by
  subst hq; exact k.by fun t => XS.isub X.here K.1 rfl (hb K.2.1 hd) rfl
theorem k_iand (K : Fx p s m meth c by' ml own nm ret Z) (X : Stand p l e R s m args below meth c T locs cells slots) {x y : Int32} (hd : decode by' pc = .ok (.iand, 1)) (hq : pc + 1 = q) (k : Run p e below s kc kn Q T (mkF m q Ls (.int (x &&& y) :: st))) : Run p e below s kc kn Q T (mkF m pc Ls (.int y :: .int x :: st)) := by
  subst hq; exact k.by fun t => XS.iand X.here K.1 rfl (hb K.2.1 hd) rfl
theorem k_iushr (K : Fx p s m meth c by' ml own nm ret Z) (X : Stand p l e R s m args below meth c T locs cells slots) {x y : Int32} (hd : decode by' pc = .ok (.iushr, 1)) (hq : pc + 1 = q) (k : Run p e below s kc kn Q T (mkF m q Ls (.int (ushrI x y) :: st))) : Run p e below s kc kn Q T (mkF m pc Ls (.int y :: .int x :: st)) := by
  subst hq; exact k.by fun t => XS.iushr X.here K.1 rfl (hb K.2.1 hd) rfl
theorem k_i2c (K : Fx p s m meth c by' ml own nm ret Z) (X : Stand p l e R s m args below meth c T locs cells slots) {x : Int32} (hd : decode by' pc = .ok (.i2c, 1)) (hq : pc + 1 = q) (k : Run p e below s kc kn Q T (mkF m q Ls (.int (i2c x) :: st))) : Run p e below s kc kn Q T (mkF m pc Ls (.int x :: st)) := by
  subst hq; exact k.by fun t => XS.i2c X.here K.1 rfl (hb K.2.1 hd) rfl
theorem k_irem (K : Fx p s m meth c by' ml own nm ret Z) (X : Stand p l e R s m args below meth c T locs cells slots) {x y : Int32} (hd : decode by' pc = .ok (.irem, 1)) (hy : y ≠ 0) (hq : pc + 1 = q) (k : Run p e below s kc kn Q T (mkF m q Ls (.int (x % y) :: st))) : Run p e below s kc kn Q T (mkF m pc Ls (.int y :: .int x :: st)) := by
  subst hq; exact k.by fun t => iremM X K.1 rfl (hb K.2.1 hd) rfl hy
theorem k_goto (K : Fx p s m meth c by' ml own nm ret Z) (X : Stand p l e R s m args below meth c T locs cells slots) {o : Int} (hd : decode by' pc = .ok (.goto o, 3)) (ho : 0 ≤ (pc : Int) + o) (hq : ((pc : Int) + o).toNat = q) (k : Run p e below s kc kn Q T (mkF m q Ls st)) : Run p e below s kc kn Q T (mkF m pc Ls st) := k.by fun t => XS.goto X.here K.1 rfl rfl (hb K.2.1 hd) ho hq
theorem k_nameI {x v : Int32} (hv : x = v) (k : Run p e below s kc kn Q T (mkF m pc Ls (.int v :: st))) : Run p e below s kc kn Q T (mkF m pc Ls (.int x :: st)) := by
  subst hv; exact k
theorem k_if_eq_y (K : Fx p s m meth c by' ml own nm ret Z) (X : Stand p l e R s m args below meth c T locs cells slots) {x : Int32} {o : Int} (hd : decode by' pc = .ok (.ifCond .eq o, 3)) (hc : x = 0) (ho : 0 ≤ (pc : Int) + o) (hq : ((pc : Int) + o).toNat = q) (k : Run p e below s kc kn Q T (mkF m q Ls st)) : Run p e below s kc kn Q T (mkF m pc Ls (.int x :: st)) := k.by fun t => XS.ifYes X.here K.1 rfl rfl (hb K.2.1 hd) rfl ((if0 _ _).trans (teq hc).1) ho hq
theorem k_if_eq_n (K : Fx p s m meth c by' ml own nm ret Z) (X : Stand p l e R s m args below meth c T locs cells slots) {x : Int32} {o : Int} (hd : decode by' pc = .ok (.ifCond .eq o, 3)) (hc : ¬ x = 0) (hq : pc + 3 = q) (k : Run p e below s kc kn Q T (mkF m q Ls st)) : Run p e below s kc kn Q T (mkF m pc Ls (.int x :: st)) := by
  subst hq; exact k.by fun t => XS.ifNo X.here K.1 rfl (hb K.2.1 hd) rfl ((if0 _ _).trans (feq hc).1)
theorem k_if_eq (K : Fx p s m meth c by' ml own nm ret Z) (X : Stand p l e R s m args below meth c T locs cells slots) {x : Int32} {o : Int} (hd : decode by' pc = .ok (.ifCond .eq o, 3)) (ho : 0 ≤ (pc : Int) + o) (hq : ((pc : Int) + o).toNat = q) (hq' : pc + 3 = q') (ky : x = 0 → Run p e below s kc kn Q T (mkF m q Ls st)) (kno : ¬ x = 0 → Run p e below s kc kn Q T (mkF m q' Ls st)) : Run p e below s kc kn Q T (mkF m pc Ls (.int x :: st)) := by
  by_cases hc : x = 0
  · exact k_if_eq_y K X hd hc ho hq (ky hc)
  · exact k_if_eq_n K X hd hc hq' (kno hc)
theorem k_icmp_eq_y (K : Fx p s m meth c by' ml own nm ret Z) (X : Stand p l e R s m args below meth c T locs cells slots) {x y : Int32} {o : Int} (hd : decode by' pc = .ok (.if_icmp .eq o, 3)) (hc : x = y) (ho : 0 ≤ (pc : Int) + o) (hq : ((pc : Int) + o).toNat = q) (k : Run p e below s kc kn Q T (mkF m q Ls st)) : Run p e below s kc kn Q T (mkF m pc Ls (.int y :: .int x :: st)) := k.by fun t => XS.icmpYes X.here K.1 rfl rfl (hb K.2.1 hd) rfl (teq hc).1 ho hq
theorem k_icmp_eq_n (K : Fx p s m meth c by' ml own nm ret Z) (X : Stand p l e R s m args below meth c T locs cells slots) {x y : Int32} {o : Int} (hd : decode by' pc = .ok (.if_icmp .eq o, 3)) (hc : ¬ x = y) (hq : pc + 3 = q) (k : Run p e below s kc kn Q T (mkF m q Ls st)) : Run p e below s kc kn Q T (mkF m pc Ls (.int y :: .int x :: st)) := by
  subst hq; exact k.by fun t => XS.icmpNo X.here K.1 rfl (hb K.2.1 hd) rfl (feq hc).1
theorem k_icmp_eq (K : Fx p s m meth c by' ml own nm ret Z) (X : Stand p l e R s m args below meth c T locs cells slots) {x y : Int32} {o : Int} (hd : decode by' pc = .ok (.if_icmp .eq o, 3)) (ho : 0 ≤ (pc : Int) + o) (hq : ((pc : Int) + o).toNat = q) (hq' : pc + 3 = q') (ky : x = y → Run p e below s kc kn Q T (mkF m q Ls st)) (kno : ¬ x = y → Run p e below s kc kn Q T (mkF m q' Ls st)) : Run p e below s kc kn Q T (mkF m pc Ls (.int y :: .int x :: st)) := by
  by_cases hc : x = y
  · exact k_icmp_eq_y K X hd hc ho hq (ky hc)
  · exact k_icmp_eq_n K X hd hc hq' (kno hc)
theorem k_if_ne_y (K : Fx p s m meth c by' ml own nm ret Z) (X : Stand p l e R s m args below meth c T locs cells slots) {x : Int32} {o : Int} (hd : decode by' pc = .ok (.ifCond .ne o, 3)) (hc : ¬ x = 0) (ho : 0 ≤ (pc : Int) + o) (hq : ((pc : Int) + o).toNat = q) (k : Run p e below s kc kn Q T (mkF m q Ls st)) : Run p e below s kc kn Q T (mkF m pc Ls (.int x :: st)) := k.by fun t => XS.ifYes X.here K.1 rfl rfl (hb K.2.1 hd) rfl ((if0 _ _).trans (feq hc).2) ho hq
theorem k_if_ne_n (K : Fx p s m meth c by' ml own nm ret Z) (X : Stand p l e R s m args below meth c T locs cells slots) {x : Int32} {o : Int} (hd : decode by' pc = .ok (.ifCond .ne o, 3)) (hc : x = 0) (hq : pc + 3 = q) (k : Run p e below s kc kn Q T (mkF m q Ls st)) : Run p e below s kc kn Q T (mkF m pc Ls (.int x :: st)) := by
  subst hq; exact k.by fun t => XS.ifNo X.here K.1 rfl (hb K.2.1 hd) rfl ((if0 _ _).trans (teq hc).2)
theorem k_if_ne (K : Fx p s m meth c by' ml own nm ret Z) (X : Stand p l e R s m args below meth c T locs cells slots) {x : Int32} {o : Int} (hd : decode by' pc = .ok (.ifCond .ne o, 3)) (ho : 0 ≤ (pc : Int) + o) (hq : ((pc : Int) + o).toNat = q) (hq' : pc + 3 = q') (ky : ¬ x = 0 → Run p e below s kc kn Q T (mkF m q Ls st)) (kno : x = 0 → Run p e below s kc kn Q T (mkF m q' Ls st)) : Run p e below s kc kn Q T (mkF m pc Ls (.int x :: st)) := by
  by_cases hc : x = 0
  · exact k_if_ne_n K X hd hc hq' (kno hc)
  · exact k_if_ne_y K X hd hc ho hq (ky hc)
theorem k_icmp_ne_y (K : Fx p s m meth c by' ml own nm ret Z) (X : Stand p l e R s m args below meth c T locs cells slots) {x y : Int32} {o : Int} (hd : decode by' pc = .ok (.if_icmp .ne o, 3)) (hc : ¬ x = y) (ho : 0 ≤ (pc : Int) + o) (hq : ((pc : Int) + o).toNat = q) (k : Run p e below s kc kn Q T (mkF m q Ls st)) : Run p e below s kc kn Q T (mkF m pc Ls (.int y :: .int x :: st)) := k.by fun t => XS.icmpYes X.here K.1 rfl rfl (hb K.2.1 hd) rfl (feq hc).2 ho hq
theorem k_icmp_ne_n (K : Fx p s m meth c by' ml own nm ret Z) (X : Stand p l e R s m args below meth c T locs cells slots) {x y : Int32} {o : Int} (hd : decode by' pc = .ok (.if_icmp .ne o, 3)) (hc : x = y) (hq : pc + 3 = q) (k : Run p e below s kc kn Q T (mkF m q Ls st)) : Run p e below s kc kn Q T (mkF m pc Ls (.int y :: .int x :: st)) := by
  subst hq; exact k.by fun t => XS.icmpNo X.here K.1 rfl (hb K.2.1 hd) rfl (teq hc).2
theorem k_icmp_ne (K : Fx p s m meth c by' ml own nm ret Z) (X : Stand p l e R s m args below meth c T locs cells slots) {x y : Int32} {o : Int} (hd : decode by' pc = .ok (.if_icmp .ne o, 3)) (ho : 0 ≤ (pc : Int) + o) (hq : ((pc : Int) + o).toNat = q) (hq' : pc + 3 = q') (ky : ¬ x = y → Run p e below s kc kn Q T (mkF m q Ls st)) (kno : x = y → Run p e below s kc kn Q T (mkF m q' Ls st)) : Run p e below s kc kn Q T (mkF m pc Ls (.int y :: .int x :: st)) := by
  by_cases hc : x = y
  · exact k_icmp_ne_n K X hd hc hq' (kno hc)
  · exact k_icmp_ne_y K X hd hc ho hq (ky hc)
theorem k_icmp_lt_y (K : Fx p s m meth c by' ml own nm ret Z) (X : Stand p l e R s m args below meth c T locs cells slots) {x y : Int32} {o : Int} (hd : decode by' pc = .ok (.if_icmp .lt o, 3)) (hc : x < y) (ho : 0 ≤ (pc : Int) + o) (hq : ((pc : Int) + o).toNat = q) (k : Run p e below s kc kn Q T (mkF m q Ls st)) : Run p e below s kc kn Q T (mkF m pc Ls (.int y :: .int x :: st)) := k.by fun t => XS.icmpYes X.here K.1 rfl rfl (hb K.2.1 hd) rfl (tlt hc).1 ho hq
theorem k_icmp_lt_n (K : Fx p s m meth c by' ml own nm ret Z) (X : Stand p l e R s m args below meth c T locs cells slots) {x y : Int32} {o : Int} (hd : decode by' pc = .ok (.if_icmp .lt o, 3)) (hc : ¬ x < y) (hq : pc + 3 = q) (k : Run p e below s kc kn Q T (mkF m q Ls st)) : Run p e below s kc kn Q T (mkF m pc Ls (.int y :: .int x :: st)) := by
  subst hq; exact k.by fun t => XS.icmpNo X.here K.1 rfl (hb K.2.1 hd) rfl (flt hc).1
theorem k_icmp_lt (K : Fx p s m meth c by' ml own nm ret Z) (X : Stand p l e R s m args below meth c T locs cells slots) {x y : Int32} {o : Int} (hd : decode by' pc = .ok (.if_icmp .lt o, 3)) (ho : 0 ≤ (pc : Int) + o) (hq : ((pc : Int) + o).toNat = q) (hq' : pc + 3 = q') (ky : x < y → Run p e below s kc kn Q T (mkF m q Ls st)) (kno : ¬ x < y → Run p e below s kc kn Q T (mkF m q' Ls st)) : Run p e below s kc kn Q T (mkF m pc Ls (.int y :: .int x :: st)) := by
  by_cases hc : x < y
  · exact k_icmp_lt_y K X hd hc ho hq (ky hc)
  · exact k_icmp_lt_n K X hd hc hq' (kno hc)
theorem k_icmp_gt_y (K : Fx p s m meth c by' ml own nm ret Z) (X : Stand p l e R s m args below meth c T locs cells slots) {x y : Int32} {o : Int} (hd : decode by' pc = .ok (.if_icmp .gt o, 3)) (hc : y < x) (ho : 0 ≤ (pc : Int) + o) (hq : ((pc : Int) + o).toNat = q) (k : Run p e below s kc kn Q T (mkF m q Ls st)) : Run p e below s kc kn Q T (mkF m pc Ls (.int y :: .int x :: st)) := k.by fun t => XS.icmpYes X.here K.1 rfl rfl (hb K.2.1 hd) rfl (tlt hc).2.2.1 ho hq
theorem k_icmp_gt_n (K : Fx p s m meth c by' ml own nm ret Z) (X : Stand p l e R s m args below meth c T locs cells slots) {x y : Int32} {o : Int} (hd : decode by' pc = .ok (.if_icmp .gt o, 3)) (hc : ¬ y < x) (hq : pc + 3 = q) (k : Run p e below s kc kn Q T (mkF m q Ls st)) : Run p e below s kc kn Q T (mkF m pc Ls (.int y :: .int x :: st)) := by
  subst hq; exact k.by fun t => XS.icmpNo X.here K.1 rfl (hb K.2.1 hd) rfl (flt hc).2.2.1
theorem k_icmp_gt (K : Fx p s m meth c by' ml own nm ret Z) (X : Stand p l e R s m args below meth c T locs cells slots) {x y : Int32} {o : Int} (hd : decode by' pc = .ok (.if_icmp .gt o, 3)) (ho : 0 ≤ (pc : Int) + o) (hq : ((pc : Int) + o).toNat = q) (hq' : pc + 3 = q') (ky : y < x → Run p e below s kc kn Q T (mkF m q Ls st)) (kno : ¬ y < x → Run p e below s kc kn Q T (mkF m q' Ls st)) : Run p e below s kc kn Q T (mkF m pc Ls (.int y :: .int x :: st)) := by
  by_cases hc : y < x
  · exact k_icmp_gt_y K X hd hc ho hq (ky hc)
  · exact k_icmp_gt_n K X hd hc hq' (kno hc)
theorem k_icmp_le_y (K : Fx p s m meth c by' ml own nm ret Z) (X : Stand p l e R s m args below meth c T locs cells slots) {x y : Int32} {o : Int} (hd : decode by' pc = .ok (.if_icmp .le o, 3)) (hc : ¬ y < x) (ho : 0 ≤ (pc : Int) + o) (hq : ((pc : Int) + o).toNat = q) (k : Run p e below s kc kn Q T (mkF m q Ls st)) : Run p e below s kc kn Q T (mkF m pc Ls (.int y :: .int x :: st)) := k.by fun t => XS.icmpYes X.here K.1 rfl rfl (hb K.2.1 hd) rfl (flt hc).2.2.2 ho hq
theorem k_icmp_le_n (K : Fx p s m meth c by' ml own nm ret Z) (X : Stand p l e R s m args below meth c T locs cells slots) {x y : Int32} {o : Int} (hd : decode by' pc = .ok (.if_icmp .le o, 3)) (hc : y < x) (hq : pc + 3 = q) (k : Run p e below s kc kn Q T (mkF m q Ls st)) : Run p e below s kc kn Q T (mkF m pc Ls (.int y :: .int x :: st)) := by
  subst hq; exact k.by fun t => XS.icmpNo X.here K.1 rfl (hb K.2.1 hd) rfl (tlt hc).2.2.2
theorem k_icmp_le (K : Fx p s m meth c by' ml own nm ret Z) (X : Stand p l e R s m args below meth c T locs cells slots) {x y : Int32} {o : Int} (hd : decode by' pc = .ok (.if_icmp .le o, 3)) (ho : 0 ≤ (pc : Int) + o) (hq : ((pc : Int) + o).toNat = q) (hq' : pc + 3 = q') (ky : ¬ y < x → Run p e below s kc kn Q T (mkF m q Ls st)) (kno : y < x → Run p e below s kc kn Q T (mkF m q' Ls st)) : Run p e below s kc kn Q T (mkF m pc Ls (.int y :: .int x :: st)) := by
  by_cases hc : y < x
  · exact k_icmp_le_n K X hd hc hq' (kno hc)
  · exact k_icmp_le_y K X hd hc ho hq (ky hc)
theorem k_ldc (K : Fx p s m meth c by' ml own nm ret Z) (X : Stand p l e R s m args below meth c T locs cells slots) {i : Nat} {v : Int32} (hd : decode by' pc = .ok (.ldc i, 2)) (w : (Cond.constant own i v).before a0 Z = true) (hq : pc + 2 = q) (k : Run p e below s kc kn Q T (mkF m q Ls (.int v :: st))) : Run p e below s kc kn Q T (mkF m pc Ls st) := by
  subst hq; exact k.by fun t => X.ldcInt K.1 K.2.2.2.1 (mvT K.2.2.2.2.1 w) (g := mkF m pc Ls st) rfl (hb K.2.1 hd) t
theorem k_reti (K : Fx p s m meth c by' ml own nm (some .int) Z) (X : Stand p l e R s m args below meth c T locs cells slots) {x : Int32} (eT : T.heap = h) (hd : decode by' pc = .ok (.ireturn, 1)) (hc : cells ≤ kc) (hn : slots ≤ kn) (hQ : Q (some (.int x)) h locs) : Run p e below s kc kn Q T (mkF m pc Ls [.int x]) := by
  subst eT
  have hlk := K.2.2.2.2.2.2.1
  obtain ⟨fs, hr, hrun, hended, hW, hsame⟩ := X.leave (v := (some (.int x))) (fun z => by rw [K.2.2.2.2.2.1] at z; cases z)
  exact ⟨_, _, X.ireturnOut K.1 K.2.2.2.2.2.1 rfl (Or.inl rfl) (hb K.2.1 hd) hr, hrun, hended, _, _, rfl, hQ, ⟨_, rfl⟩, hW, hsame.mono hc hn⟩
theorem k_retz (K : Fx p s m meth c by' ml own nm (some .boolean) Z) (X : Stand p l e R s m args below meth c T locs cells slots) {x : Int32} (eT : T.heap = h) (hd : decode by' pc = .ok (.ireturn, 1)) (hc : cells ≤ kc) (hn : slots ≤ kn) (hQ : Q (some (.int (nar .boolean x))) h locs) : Run p e below s kc kn Q T (mkF m pc Ls [.int x]) := by
  subst eT
  have hlk := K.2.2.2.2.2.2.1
  obtain ⟨fs, hr, hrun, hended, hW, hsame⟩ := X.leave (v := (some (.int (nar .boolean x)))) (fun z => by rw [K.2.2.2.2.2.1] at z; cases z)
  exact ⟨_, _, retN X K.1 K.2.2.2.2.2.1 (by simp) (hb K.2.1 hd) hr, hrun, hended, _, _, rfl, hQ, ⟨_, rfl⟩, hW, hsame.mono hc hn⟩
/-- a contract: with these arguments over this heap the body returns as Q says, within the room -/
abbrev Met (l : Launch) (y : MethodName) (bytes : ByteArray) (maxL : Nat) (ret : Option FieldType) (ws : List Jvm.Cond) (rm : Room) (Z : State) (as' : Array Value) (h0 : Heap) (Q : Option Value → Heap → List Loc → Prop) : Prop :=
  MetFree l y (head1 (Jvm.Cond.code y bytes maxL ret :: ws) rm) (fun a U => a = as' ∧ Z.Warmed39 U.vm ∧ U.heap = h0) (fun _ _ _ _ _ => True) (fun _ U o U' => ∃ v L, o = .returned v ∧ Q v U'.heap L ∧ FrameEnd U o U' L rm.cells rm.slots)
theorem enter {y : MethodName} {bytes : ByteArray} {maxL : Nat} {ws : List Jvm.Cond} {rm : Room} {as' : Array Value} {h0 : Heap} (hpl : plainFor y = true) (hef : ∀ m, entryFrame m as' maxL = mkF m 0 Ls [])
    (body : ∀ p e s m below meth c T kc kn Q', rm.cells ≤ kc → rm.slots ≤ kn → (∀ v h L, Q v h L → Q' v h L) → Fx p s m meth c bytes maxL y.cls y.name ret Z → Stand p l e rm s m as' below meth c T [] 0 0 → T.heap = h0 → Run p e below s kc kn Q' T (mkF m 0 Ls [])) : Met l y bytes maxL ret ws rm Z as' h0 Q := by
  refine MetFree.of_bodySF hpl hisR ?_
  intro p e s m args below meth c s₁ Bd hml0 hP hK
  obtain ⟨rfl, hZ, hh⟩ := hP
  obtain ⟨t, o, h1, h2, h3, v, L, h4, h5, h6⟩ := body p e s m below meth c s₁ _ _ Q (Nat.le_refl _) (Nat.le_refl _) (fun _ _ _ z => z) ⟨Bd.exec, Bd.bytes, hml0, findClass_of_methodNamed Bd.named, hZ, Bd.returns, BodyLoose.notSynchronized Bd, (name_of_methodNamed Bd.named Bd.method).1⟩ (Stand.of_body Bd) (by rw [← hh, Bd.state]; rfl)
  exact ⟨t, o, castTop (hef m) h1, h2, h3, v, L, h4, h5, h6⟩
theorem k_static (K : Fx p s m meth c by' ml own nm ret Z) (X : Stand p l e R s m args below meth c T locs cells slots) (eT : T.heap = h) {y : MethodName} {bytes : ByteArray} {maxL i W : Nat} {rt : Option FieldType} {rm : Room} {as' : Array Value} {Q' : Option Value → Heap → List Loc → Prop}
    (hd : decode by' pc = .ok (.invokestatic i, 3)) (w1 : (Cond.methodLink own i y).before a0 Z = true) (w2 : (Cond.static y).before a0 Z = true) (w3 : (Cond.initialized y.cls).before a0 Z = true) (w4 : (Cond.code y bytes maxL rt).before a0 Z = true) (hy : y.cls ≠ "java/lang/invoke/MethodHandle" ∧ y.cls ≠ "java/lang/invoke/VarHandle")
    (hM : Met l y bytes maxL rt [] rm Z as' h Q') (hf : rm.frames + 1 ≤ R.frames) (hl : W + (maxL + 11) + rm.locals ≤ R.locals) (hc : cells + rm.cells ≤ R.cells) (hn : slots + rm.slots ≤ R.slots) (hsz : Ls.size = ml)
    {sig : MethodDescriptor} (hdesc : parseMethodDescriptor y.desc = some sig) {argsL rest : List Value} (ha : as' = argsL.toArray) (hlen : argsL.length = sig.parameters.length) (hst : st = argsL.reverse ++ rest) (hW : (rest.map fun v => v.category).sum ≤ W) (hq : pc + 3 = q)
    (k : ∀ v T' L, Stand p l e R s m args below meth c T' (locs ++ L) (cells + rm.cells) (slots + rm.slots) → Q' v T'.heap L → Run p e below s kc kn Q T' (mkF m q Ls (v.toList ++ rest))) : Run p e below s kc kn Q T (mkF m pc Ls st) := by
  have hZ := K.2.2.2.2.1
  subst hq
  obtain ⟨v, _, ⟨T2, L2, k2, n2⟩, -, X2, ⟨Lc, hQ2, l2, y2, z2⟩, st2⟩ := Jvm.LawKit.callS X K.1 (y := y) K.2.2.2.1 (mvT hZ w1) (mvT hZ w2) (mvT hZ w3) (mvT hZ w4) hy (backOf (W := W) hM hZ w4 w3 hf hl) (g := mkF m pc Ls st) rfl (by rw [K.2.2.1]; exact hsz) (argsL := argsL) (rest := rest) (fun sg hs => by cases hdesc.symm.trans hs; exact hlen) hst (by show 2 * 0 + _ ≤ _; omega) (hb K.2.1 hd) (fun _ _ => ⟨ha.symm, eT, hc, hn⟩)
  dsimp only [Pt.U, Pt.locs, Pt.cells, Pt.slots] at X2 l2 y2 z2 st2 hQ2
  subst l2 y2 z2
  exact (k v T2 Lc X2 hQ2).by st2
/-- a static callee that leaves the heap as it was -/
theorem k_staticP (K : Fx p s m meth c by' ml own nm ret Z) (X : Stand p l e R s m args below meth c T locs cells slots) (eT : T.heap = h) {y : MethodName} {bytes : ByteArray} {maxL i W fr lo : Nat} {rt : Option FieldType} {as' : Array Value} {w : Value}
    (hd : decode by' pc = .ok (.invokestatic i, 3)) (w1 : (Cond.methodLink own i y).before a0 Z = true) (w2 : (Cond.static y).before a0 Z = true) (w3 : (Cond.initialized y.cls).before a0 Z = true) (w4 : (Cond.code y bytes maxL rt).before a0 Z = true) (hy : y.cls ≠ "java/lang/invoke/MethodHandle" ∧ y.cls ≠ "java/lang/invoke/VarHandle")
    (hM : Met l y bytes maxL rt [] { frames := fr, cells := 0, slots := 0, locals := lo } Z as' h (fun v h' L => v = some w ∧ h' = h ∧ L = [])) (hf : fr + 1 ≤ R.frames) (hl : W + (maxL + 11) + lo ≤ R.locals) (hc : cells ≤ R.cells) (hn : slots ≤ R.slots) (hsz : Ls.size = ml)
    {sig : MethodDescriptor} (hdesc : parseMethodDescriptor y.desc = some sig) {argsL rest : List Value} (ha : as' = argsL.toArray) (hlen : argsL.length = sig.parameters.length) (hst : st = argsL.reverse ++ rest) (hW : (rest.map fun v => v.category).sum ≤ W) (hq : pc + 3 = q)
    (k : ∀ T', Stand p l e R s m args below meth c T' locs cells slots → T'.heap = h → Run p e below s kc kn Q T' (mkF m q Ls (w :: rest))) : Run p e below s kc kn Q T (mkF m pc Ls st) := by
  refine k_static K X eT hd w1 w2 w3 w4 hy hM hf hl hc hn hsz hdesc ha hlen hst hW hq ?_
  rintro v T' L X' ⟨rfl, h2, rfl⟩
  rw [List.append_nil] at X'
  exact k T' X' h2
/-- an array of n places; place i holds g i -/
def Ary (Z : State) (h : Heap) (a : Addr) (ty : FieldType) (n : Nat) (g : Nat → Value) : Prop := ∃ c : Cell, Arr Z h a c ty ∧ c.slots.size = n ∧ n < 2147483648 ∧ (∀ i, i < n → c.slots[i]? = some (g i)) ∧ ∀ i, i < n → fits ty (g i) = true
theorem Ary.lt {a : Addr} {ty : FieldType} {n : Nat} {g : Nat → Value} (F : Ary Z h a ty n g) : a < h.size := by obtain ⟨c, A, -⟩ := F; exact A.lt
/-- the int j is the place i -/
def Ix (j : Int32) (i : Nat) : Prop := ¬ j < 0 ∧ j.toNatClampNeg = i
theorem Ix.of {j : Int32} {i : Nat} (h : j.toInt = i) : Ix j i := by
  refine ⟨?_, ?_⟩
  · rw [Int32.lt_iff_toInt_lt, h]; have : (0 : Int32).toInt = 0 := rfl
    omega
  · simp only [Int32.toNatClampNeg, h]; omega
end OwnKit

theorem wd {Z : State} {az : Array Value} (hw : ∀ d ∈ tables_1, d.before az Z = true) (k : Nat) {d : Jvm.Cond} (h : tables_1[k]? = some d) : d.before az Z = true := hw _ (List.mem_of_getElem? h)
theorem d1_0 : decode prog_5_method_5_code 0 = .ok (.iload_n 1, 1) := by decide +kernel
theorem d1_1 : decode prog_5_method_5_code 1 = .ok (.bipush 48, 2) := by decide +kernel
theorem d1_3 : decode prog_5_method_5_code 3 = .ok (.if_icmp .lt 63, 3) := by decide +kernel
theorem d1_66 : decode prog_5_method_5_code 66 = .ok (.iload_n 1, 1) := by decide +kernel
theorem d1_67 : decode prog_5_method_5_code 67 = .ok (.bipush 45, 2) := by decide +kernel
theorem d1_69 : decode prog_5_method_5_code 69 = .ok (.if_icmp .ne 9, 3) := by decide +kernel
theorem d1_78 : decode prog_5_method_5_code 78 = .ok (.iload_n 1, 1) := by decide +kernel
theorem d1_79 : decode prog_5_method_5_code 79 = .ok (.bipush 46, 2) := by decide +kernel
theorem d1_81 : decode prog_5_method_5_code 81 = .ok (.if_icmp .ne 19, 3) := by decide +kernel
theorem d1_100 : decode prog_5_method_5_code 100 = .ok (.iload_n 1, 1) := by decide +kernel
theorem d1_101 : decode prog_5_method_5_code 101 = .ok (.bipush 101, 2) := by decide +kernel
theorem d1_103 : decode prog_5_method_5_code 103 = .ok (.if_icmp .eq 9, 3) := by decide +kernel
theorem d1_112 : decode prog_5_method_5_code 112 = .ok (.iload_n 0, 1) := by decide +kernel
theorem d1_113 : decode prog_5_method_5_code 113 = .ok (.iconst 2, 1) := by decide +kernel
theorem d1_114 : decode prog_5_method_5_code 114 = .ok (.if_icmp .eq 13, 3) := by decide +kernel
theorem d1_133 : decode prog_5_method_5_code 133 = .ok (.ireturn, 1) := by decide +kernel
theorem d1_127 : decode prog_5_method_5_code 127 = .ok (.bipush 6, 2) := by decide +kernel
theorem d1_129 : decode prog_5_method_5_code 129 = .ok (.goto 4, 3) := by decide +kernel
theorem d1_117 : decode prog_5_method_5_code 117 = .ok (.iload_n 0, 1) := by decide +kernel
theorem d1_118 : decode prog_5_method_5_code 118 = .ok (.iconst 3, 1) := by decide +kernel
theorem d1_119 : decode prog_5_method_5_code 119 = .ok (.if_icmp .eq 8, 3) := by decide +kernel
theorem d1_122 : decode prog_5_method_5_code 122 = .ok (.iload_n 0, 1) := by decide +kernel
theorem d1_123 : decode prog_5_method_5_code 123 = .ok (.iconst 5, 1) := by decide +kernel
theorem d1_124 : decode prog_5_method_5_code 124 = .ok (.if_icmp .ne 8, 3) := by decide +kernel
theorem d1_132 : decode prog_5_method_5_code 132 = .ok (.iconst (-1), 1) := by decide +kernel
theorem d1_106 : decode prog_5_method_5_code 106 = .ok (.iload_n 1, 1) := by decide +kernel
theorem d1_107 : decode prog_5_method_5_code 107 = .ok (.bipush 69, 2) := by decide +kernel
theorem d1_109 : decode prog_5_method_5_code 109 = .ok (.if_icmp .ne 25, 3) := by decide +kernel
theorem d1_134 : decode prog_5_method_5_code 134 = .ok (.iload_n 1, 1) := by decide +kernel
theorem d1_135 : decode prog_5_method_5_code 135 = .ok (.bipush 45, 2) := by decide +kernel
theorem d1_137 : decode prog_5_method_5_code 137 = .ok (.if_icmp .eq 9, 3) := by decide +kernel
theorem d1_140 : decode prog_5_method_5_code 140 = .ok (.iload_n 1, 1) := by decide +kernel
theorem d1_141 : decode prog_5_method_5_code 141 = .ok (.bipush 43, 2) := by decide +kernel
theorem d1_143 : decode prog_5_method_5_code 143 = .ok (.if_icmp .ne 16, 3) := by decide +kernel
theorem d1_159 : decode prog_5_method_5_code 159 = .ok (.iconst (-1), 1) := by decide +kernel
theorem d1_160 : decode prog_5_method_5_code 160 = .ok (.ireturn, 1) := by decide +kernel
theorem d1_146 : decode prog_5_method_5_code 146 = .ok (.iload_n 0, 1) := by decide +kernel
theorem d1_147 : decode prog_5_method_5_code 147 = .ok (.bipush 6, 2) := by decide +kernel
theorem d1_149 : decode prog_5_method_5_code 149 = .ok (.if_icmp .ne 8, 3) := by decide +kernel
theorem d1_158 : decode prog_5_method_5_code 158 = .ok (.ireturn, 1) := by decide +kernel
theorem d1_157 : decode prog_5_method_5_code 157 = .ok (.iconst (-1), 1) := by decide +kernel
theorem d1_152 : decode prog_5_method_5_code 152 = .ok (.bipush 7, 2) := by decide +kernel
theorem d1_154 : decode prog_5_method_5_code 154 = .ok (.goto 4, 3) := by decide +kernel
theorem d1_84 : decode prog_5_method_5_code 84 = .ok (.iload_n 0, 1) := by decide +kernel
theorem d1_85 : decode prog_5_method_5_code 85 = .ok (.iconst 2, 1) := by decide +kernel
theorem d1_86 : decode prog_5_method_5_code 86 = .ok (.if_icmp .eq 8, 3) := by decide +kernel
theorem d1_99 : decode prog_5_method_5_code 99 = .ok (.ireturn, 1) := by decide +kernel
theorem d1_94 : decode prog_5_method_5_code 94 = .ok (.iconst 4, 1) := by decide +kernel
theorem d1_95 : decode prog_5_method_5_code 95 = .ok (.goto 4, 3) := by decide +kernel
theorem d1_89 : decode prog_5_method_5_code 89 = .ok (.iload_n 0, 1) := by decide +kernel
theorem d1_90 : decode prog_5_method_5_code 90 = .ok (.iconst 3, 1) := by decide +kernel
theorem d1_91 : decode prog_5_method_5_code 91 = .ok (.if_icmp .ne 7, 3) := by decide +kernel
theorem d1_98 : decode prog_5_method_5_code 98 = .ok (.iconst (-1), 1) := by decide +kernel
theorem d1_72 : decode prog_5_method_5_code 72 = .ok (.iload_n 0, 1) := by decide +kernel
theorem d1_73 : decode prog_5_method_5_code 73 = .ok (.ifCond .ne 5, 3) := by decide +kernel
theorem d1_76 : decode prog_5_method_5_code 76 = .ok (.iconst 1, 1) := by decide +kernel
theorem d1_77 : decode prog_5_method_5_code 77 = .ok (.ireturn, 1) := by decide +kernel
theorem d1_6 : decode prog_5_method_5_code 6 = .ok (.iload_n 1, 1) := by decide +kernel
theorem d1_7 : decode prog_5_method_5_code 7 = .ok (.bipush 57, 2) := by decide +kernel
theorem d1_9 : decode prog_5_method_5_code 9 = .ok (.if_icmp .gt 57, 3) := by decide +kernel
theorem d1_12 : decode prog_5_method_5_code 12 = .ok (.iload_n 0, 1) := by decide +kernel
theorem d1_13 : decode prog_5_method_5_code 13 = .ok (.ifCond .eq 8, 3) := by decide +kernel
theorem d1_21 : decode prog_5_method_5_code 21 = .ok (.iload_n 1, 1) := by decide +kernel
theorem d1_22 : decode prog_5_method_5_code 22 = .ok (.bipush 48, 2) := by decide +kernel
theorem d1_24 : decode prog_5_method_5_code 24 = .ok (.if_icmp .ne 7, 3) := by decide +kernel
theorem d1_32 : decode prog_5_method_5_code 32 = .ok (.ireturn, 1) := by decide +kernel
theorem d1_31 : decode prog_5_method_5_code 31 = .ok (.iconst 3, 1) := by decide +kernel
theorem d1_27 : decode prog_5_method_5_code 27 = .ok (.iconst 2, 1) := by decide +kernel
theorem d1_28 : decode prog_5_method_5_code 28 = .ok (.goto 4, 3) := by decide +kernel
theorem d1_16 : decode prog_5_method_5_code 16 = .ok (.iload_n 0, 1) := by decide +kernel
theorem d1_17 : decode prog_5_method_5_code 17 = .ok (.iconst 1, 1) := by decide +kernel
theorem d1_18 : decode prog_5_method_5_code 18 = .ok (.if_icmp .ne 15, 3) := by decide +kernel
theorem d1_33 : decode prog_5_method_5_code 33 = .ok (.iload_n 0, 1) := by decide +kernel
theorem d1_34 : decode prog_5_method_5_code 34 = .ok (.iconst 4, 1) := by decide +kernel
theorem d1_35 : decode prog_5_method_5_code 35 = .ok (.if_icmp .ne 5, 3) := by decide +kernel
theorem d1_40 : decode prog_5_method_5_code 40 = .ok (.iload_n 0, 1) := by decide +kernel
theorem d1_41 : decode prog_5_method_5_code 41 = .ok (.bipush 6, 2) := by decide +kernel
theorem d1_43 : decode prog_5_method_5_code 43 = .ok (.if_icmp .eq 9, 3) := by decide +kernel
theorem d1_52 : decode prog_5_method_5_code 52 = .ok (.bipush 8, 2) := by decide +kernel
theorem d1_54 : decode prog_5_method_5_code 54 = .ok (.ireturn, 1) := by decide +kernel
theorem d1_46 : decode prog_5_method_5_code 46 = .ok (.iload_n 0, 1) := by decide +kernel
theorem d1_47 : decode prog_5_method_5_code 47 = .ok (.bipush 7, 2) := by decide +kernel
theorem d1_49 : decode prog_5_method_5_code 49 = .ok (.if_icmp .ne 6, 3) := by decide +kernel
theorem d1_55 : decode prog_5_method_5_code 55 = .ok (.iload_n 0, 1) := by decide +kernel
theorem d1_56 : decode prog_5_method_5_code 56 = .ok (.iconst 2, 1) := by decide +kernel
theorem d1_57 : decode prog_5_method_5_code 57 = .ok (.if_icmp .ne 7, 3) := by decide +kernel
theorem d1_65 : decode prog_5_method_5_code 65 = .ok (.ireturn, 1) := by decide +kernel
theorem d1_64 : decode prog_5_method_5_code 64 = .ok (.iload_n 0, 1) := by decide +kernel
theorem d1_60 : decode prog_5_method_5_code 60 = .ok (.iconst (-1), 1) := by decide +kernel
theorem d1_61 : decode prog_5_method_5_code 61 = .ok (.goto 4, 3) := by decide +kernel
theorem d1_38 : decode prog_5_method_5_code 38 = .ok (.iconst 5, 1) := by decide +kernel
theorem d1_39 : decode prog_5_method_5_code 39 = .ok (.ireturn, 1) := by decide +kernel
theorem ef_1 (p0 : Int32) (p1 : Int32) : ∀ m : MethodId, entryFrame m #[(.int p0), (.int p1)] 2 = mkF m 0 #[.val (.int p0), .val (.int p1)] [] := by intro m; first | (simp [entryFrame, mkF, argsToLocals, Value.category]; done) | rfl
theorem pn_0 : plainName "com/example/centime/centime/DecimalText" = true := by first | (simp [plainName, overriddenIn]; done) | decide +kernel
def F_after (p0 : Int32) (p1 : Int32) : Int32 :=
  if p1 < (48 : Int32) then
    if p1 = (45 : Int32) then
      if p0 = (0 : Int32) then
        (1 : Int32)
      else
        if p1 = (46 : Int32) then
          let d59 : Int32 := (if p0 = (2 : Int32) then (4 : Int32) else (if p0 = (3 : Int32) then (4 : Int32) else (-1 : Int32)))
          d59
        else
          if p1 = (101 : Int32) then
            let d39 : Int32 := (if p0 = (2 : Int32) then (6 : Int32) else (if p0 = (3 : Int32) then (6 : Int32) else (if p0 = (5 : Int32) then (6 : Int32) else (-1 : Int32))))
            d39
          else
            if p1 = (69 : Int32) then
              let d52 : Int32 := (if p0 = (2 : Int32) then (6 : Int32) else (if p0 = (3 : Int32) then (6 : Int32) else (if p0 = (5 : Int32) then (6 : Int32) else (-1 : Int32))))
              d52
            else
              let d46 : Int32 := (if p0 = (6 : Int32) then (7 : Int32) else (-1 : Int32))
              d46
    else
      if p1 = (46 : Int32) then
        let d29 : Int32 := (if p0 = (2 : Int32) then (4 : Int32) else (if p0 = (3 : Int32) then (4 : Int32) else (-1 : Int32)))
        d29
      else
        if p1 = (101 : Int32) then
          let d8 : Int32 := (if p0 = (2 : Int32) then (6 : Int32) else (if p0 = (3 : Int32) then (6 : Int32) else (if p0 = (5 : Int32) then (6 : Int32) else (-1 : Int32))))
          d8
        else
          if p1 = (69 : Int32) then
            let d22 : Int32 := (if p0 = (2 : Int32) then (6 : Int32) else (if p0 = (3 : Int32) then (6 : Int32) else (if p0 = (5 : Int32) then (6 : Int32) else (-1 : Int32))))
            d22
          else
            if p1 = (43 : Int32) then
              let d16 : Int32 := (if p0 = (6 : Int32) then (7 : Int32) else (-1 : Int32))
              d16
            else
              (-1 : Int32)
  else
    if (57 : Int32) < p1 then
      if p1 = (45 : Int32) then
        if p0 = (0 : Int32) then
          (1 : Int32)
        else
          if p1 = (46 : Int32) then
            let d121 : Int32 := (if p0 = (2 : Int32) then (4 : Int32) else (if p0 = (3 : Int32) then (4 : Int32) else (-1 : Int32)))
            d121
          else
            if p1 = (101 : Int32) then
              let d101 : Int32 := (if p0 = (2 : Int32) then (6 : Int32) else (if p0 = (3 : Int32) then (6 : Int32) else (if p0 = (5 : Int32) then (6 : Int32) else (-1 : Int32))))
              d101
            else
              if p1 = (69 : Int32) then
                let d114 : Int32 := (if p0 = (2 : Int32) then (6 : Int32) else (if p0 = (3 : Int32) then (6 : Int32) else (if p0 = (5 : Int32) then (6 : Int32) else (-1 : Int32))))
                d114
              else
                let d108 : Int32 := (if p0 = (6 : Int32) then (7 : Int32) else (-1 : Int32))
                d108
      else
        if p1 = (46 : Int32) then
          let d91 : Int32 := (if p0 = (2 : Int32) then (4 : Int32) else (if p0 = (3 : Int32) then (4 : Int32) else (-1 : Int32)))
          d91
        else
          if p1 = (101 : Int32) then
            let d70 : Int32 := (if p0 = (2 : Int32) then (6 : Int32) else (if p0 = (3 : Int32) then (6 : Int32) else (if p0 = (5 : Int32) then (6 : Int32) else (-1 : Int32))))
            d70
          else
            if p1 = (69 : Int32) then
              let d84 : Int32 := (if p0 = (2 : Int32) then (6 : Int32) else (if p0 = (3 : Int32) then (6 : Int32) else (if p0 = (5 : Int32) then (6 : Int32) else (-1 : Int32))))
              d84
            else
              if p1 = (43 : Int32) then
                let d78 : Int32 := (if p0 = (6 : Int32) then (7 : Int32) else (-1 : Int32))
                d78
              else
                (-1 : Int32)
    else
      if p0 = (0 : Int32) then
        let d127 : Int32 := (if p1 = (48 : Int32) then (2 : Int32) else (3 : Int32))
        d127
      else
        if p0 = (1 : Int32) then
          let d139 : Int32 := (if p1 = (48 : Int32) then (2 : Int32) else (3 : Int32))
          d139
        else
          if p0 = (4 : Int32) then
            (5 : Int32)
          else
            if p0 = (6 : Int32) then
              (8 : Int32)
            else
              if p0 = (7 : Int32) then
                (8 : Int32)
              else
                let d135 : Int32 := (if p0 = (2 : Int32) then (-1 : Int32) else p0)
                d135
set_option maxRecDepth 65536 in
set_option maxHeartbeats 40000000 in
theorem rm1 (l : Launch) (Z : State) (az : Array Value) (hw : ∀ d ∈ tables_1, d.before az Z = true) (ws : List Jvm.Cond) (p0 : Int32) (p1 : Int32) (h0 : Heap) :
    Met l (⟨"com/example/centime/centime/DecimalText", "after", "(IC)I"⟩ : MethodName) prog_5_method_5_code 2 (some .int) ws ({ frames := 0, cells := 0, slots := 0, locals := 0 } : Room) Z #[(.int p0), (.int p1)] h0 (fun v h' L => v = some (Value.int (F_after p0 p1)) ∧ h' = h0 ∧ L = []) := by
  refine enter (plainFor_of_name pn_0) (ef_1 p0 p1) ?_
  intro p e s m below meth c T0 kc kn Q hkc hkn hQ K' X0 e0
  have K : Fx p s m meth c prog_5_method_5_code 2 "com/example/centime/centime/DecimalText" "after" (some .int) Z := K'
  refine k_iloadN K X0 d1_0 rfl (q := 1) rfl ?_
  refine k_bipush K X0 d1_1 (v := (48 : Int32)) rfl (q := 3) rfl ?_
  refine k_icmp_lt K X0 d1_3 (by decide) (q := 66) rfl (q' := 6) rfl ?_ ?_
  · intro hc1
    refine k_iloadN K X0 d1_66 rfl (q := 67) rfl ?_
    refine k_bipush K X0 d1_67 (v := (45 : Int32)) rfl (q := 69) rfl ?_
    refine k_icmp_ne K X0 d1_69 (by decide) (q := 78) rfl (q' := 72) rfl ?_ ?_
    · intro hc2
      refine k_iloadN K X0 d1_78 rfl (q := 79) rfl ?_
      refine k_bipush K X0 d1_79 (v := (46 : Int32)) rfl (q := 81) rfl ?_
      refine k_icmp_ne K X0 d1_81 (by decide) (q := 100) rfl (q' := 84) rfl ?_ ?_
      · intro hc3
        refine k_iloadN K X0 d1_100 rfl (q := 101) rfl ?_
        refine k_bipush K X0 d1_101 (v := (101 : Int32)) rfl (q := 103) rfl ?_
        refine k_icmp_eq K X0 d1_103 (by decide) (q := 112) rfl (q' := 106) rfl ?_ ?_
        · intro hc4
          refine k_iloadN K X0 d1_112 rfl (q := 113) rfl ?_
          refine k_iconst K X0 d1_113 (v := (2 : Int32)) rfl (q := 114) rfl ?_
          have J9 : ∀ (d8 : Int32), (if p0 = (2 : Int32) then (6 : Int32) else (if p0 = (3 : Int32) then (6 : Int32) else (if p0 = (5 : Int32) then (6 : Int32) else (-1 : Int32)))) = d8 → Run p e below s kc kn Q T0 (mkF m 133 #[.val (.int p0), .val (.int p1)] [(.int d8)]) := by
            intro d8 hv_d8
            exact k_reti K X0 e0 d1_133 (Nat.le_trans (by decide) hkc) (Nat.le_trans (by decide) hkn) (hQ _ _ _ ⟨(by show some (Value.int d8) = some (Value.int (F_after p0 p1)); simp only [F_after, hv_d8, if_pos hc1, if_neg hc2, if_neg hc3, if_pos hc4]), rfl, rfl⟩)
          refine k_icmp_eq K X0 d1_114 (by decide) (q := 127) rfl (q' := 117) rfl ?_ ?_
          · intro hc10
            refine k_bipush K X0 d1_127 (v := (6 : Int32)) rfl (q := 129) rfl ?_
            refine k_goto K X0 d1_129 (by decide) (q := 133) rfl ?_
            exact J9 _ (by first | rfl | (simp only [if_pos hc10]))
          · intro hc10
            refine k_iloadN K X0 d1_117 rfl (q := 118) rfl ?_
            refine k_iconst K X0 d1_118 (v := (3 : Int32)) rfl (q := 119) rfl ?_
            refine k_icmp_eq K X0 d1_119 (by decide) (q := 127) rfl (q' := 122) rfl ?_ ?_
            · intro hc11
              refine k_bipush K X0 d1_127 (v := (6 : Int32)) rfl (q := 129) rfl ?_
              refine k_goto K X0 d1_129 (by decide) (q := 133) rfl ?_
              exact J9 _ (by first | rfl | (simp only [if_neg hc10, if_pos hc11]))
            · intro hc11
              refine k_iloadN K X0 d1_122 rfl (q := 123) rfl ?_
              refine k_iconst K X0 d1_123 (v := (5 : Int32)) rfl (q := 124) rfl ?_
              refine k_icmp_ne K X0 d1_124 (by decide) (q := 132) rfl (q' := 127) rfl ?_ ?_
              · intro hc12
                refine k_iconst K X0 d1_132 (v := (-1 : Int32)) rfl (q := 133) rfl ?_
                exact J9 _ (by first | rfl | (simp only [if_neg hc10, if_neg hc11, if_neg hc12]))
              · intro hc12
                refine k_bipush K X0 d1_127 (v := (6 : Int32)) rfl (q := 129) rfl ?_
                refine k_goto K X0 d1_129 (by decide) (q := 133) rfl ?_
                exact J9 _ (by first | rfl | (simp only [if_neg hc10, if_neg hc11, if_pos hc12]))
        · intro hc4
          refine k_iloadN K X0 d1_106 rfl (q := 107) rfl ?_
          refine k_bipush K X0 d1_107 (v := (69 : Int32)) rfl (q := 109) rfl ?_
          refine k_icmp_ne K X0 d1_109 (by decide) (q := 134) rfl (q' := 112) rfl ?_ ?_
          · intro hc13
            refine k_iloadN K X0 d1_134 rfl (q := 135) rfl ?_
            refine k_bipush K X0 d1_135 (v := (45 : Int32)) rfl (q := 137) rfl ?_
            refine k_icmp_eq_n K X0 d1_137 hc2 (q := 140) rfl ?_
            refine k_iloadN K X0 d1_140 rfl (q := 141) rfl ?_
            refine k_bipush K X0 d1_141 (v := (43 : Int32)) rfl (q := 143) rfl ?_
            refine k_icmp_ne K X0 d1_143 (by decide) (q := 159) rfl (q' := 146) rfl ?_ ?_
            · intro hc14
              refine k_iconst K X0 d1_159 (v := (-1 : Int32)) rfl (q := 160) rfl ?_
              exact k_reti K X0 e0 d1_160 (Nat.le_trans (by decide) hkc) (Nat.le_trans (by decide) hkn) (hQ _ _ _ ⟨(by show some (Value.int (-1 : Int32)) = some (Value.int (F_after p0 p1)); simp only [F_after, if_pos hc1, if_neg hc2, if_neg hc3, if_neg hc4, if_neg hc13, if_neg hc14]), rfl, rfl⟩)
            · intro hc14
              refine k_iloadN K X0 d1_146 rfl (q := 147) rfl ?_
              refine k_bipush K X0 d1_147 (v := (6 : Int32)) rfl (q := 149) rfl ?_
              have J17 : ∀ (d16 : Int32), (if p0 = (6 : Int32) then (7 : Int32) else (-1 : Int32)) = d16 → Run p e below s kc kn Q T0 (mkF m 158 #[.val (.int p0), .val (.int p1)] [(.int d16)]) := by
                intro d16 hv_d16
                exact k_reti K X0 e0 d1_158 (Nat.le_trans (by decide) hkc) (Nat.le_trans (by decide) hkn) (hQ _ _ _ ⟨(by show some (Value.int d16) = some (Value.int (F_after p0 p1)); simp only [F_after, hv_d16, if_pos hc1, if_neg hc2, if_neg hc3, if_neg hc4, if_neg hc13, if_pos hc14]), rfl, rfl⟩)
              refine k_icmp_ne K X0 d1_149 (by decide) (q := 157) rfl (q' := 152) rfl ?_ ?_
              · intro hc18
                refine k_iconst K X0 d1_157 (v := (-1 : Int32)) rfl (q := 158) rfl ?_
                exact J17 _ (by first | rfl | (simp only [if_neg hc18]))
              · intro hc18
                refine k_bipush K X0 d1_152 (v := (7 : Int32)) rfl (q := 154) rfl ?_
                refine k_goto K X0 d1_154 (by decide) (q := 158) rfl ?_
                exact J17 _ (by first | rfl | (simp only [if_pos hc18]))
          · intro hc13
            refine k_iloadN K X0 d1_112 rfl (q := 113) rfl ?_
            refine k_iconst K X0 d1_113 (v := (2 : Int32)) rfl (q := 114) rfl ?_
            have J23 : ∀ (d22 : Int32), (if p0 = (2 : Int32) then (6 : Int32) else (if p0 = (3 : Int32) then (6 : Int32) else (if p0 = (5 : Int32) then (6 : Int32) else (-1 : Int32)))) = d22 → Run p e below s kc kn Q T0 (mkF m 133 #[.val (.int p0), .val (.int p1)] [(.int d22)]) := by
              intro d22 hv_d22
              exact k_reti K X0 e0 d1_133 (Nat.le_trans (by decide) hkc) (Nat.le_trans (by decide) hkn) (hQ _ _ _ ⟨(by show some (Value.int d22) = some (Value.int (F_after p0 p1)); simp only [F_after, hv_d22, if_pos hc1, if_neg hc2, if_neg hc3, if_neg hc4, if_pos hc13]), rfl, rfl⟩)
            refine k_icmp_eq K X0 d1_114 (by decide) (q := 127) rfl (q' := 117) rfl ?_ ?_
            · intro hc24
              refine k_bipush K X0 d1_127 (v := (6 : Int32)) rfl (q := 129) rfl ?_
              refine k_goto K X0 d1_129 (by decide) (q := 133) rfl ?_
              exact J23 _ (by first | rfl | (simp only [if_pos hc24]))
            · intro hc24
              refine k_iloadN K X0 d1_117 rfl (q := 118) rfl ?_
              refine k_iconst K X0 d1_118 (v := (3 : Int32)) rfl (q := 119) rfl ?_
              refine k_icmp_eq K X0 d1_119 (by decide) (q := 127) rfl (q' := 122) rfl ?_ ?_
              · intro hc25
                refine k_bipush K X0 d1_127 (v := (6 : Int32)) rfl (q := 129) rfl ?_
                refine k_goto K X0 d1_129 (by decide) (q := 133) rfl ?_
                exact J23 _ (by first | rfl | (simp only [if_neg hc24, if_pos hc25]))
              · intro hc25
                refine k_iloadN K X0 d1_122 rfl (q := 123) rfl ?_
                refine k_iconst K X0 d1_123 (v := (5 : Int32)) rfl (q := 124) rfl ?_
                refine k_icmp_ne K X0 d1_124 (by decide) (q := 132) rfl (q' := 127) rfl ?_ ?_
                · intro hc26
                  refine k_iconst K X0 d1_132 (v := (-1 : Int32)) rfl (q := 133) rfl ?_
                  exact J23 _ (by first | rfl | (simp only [if_neg hc24, if_neg hc25, if_neg hc26]))
                · intro hc26
                  refine k_bipush K X0 d1_127 (v := (6 : Int32)) rfl (q := 129) rfl ?_
                  refine k_goto K X0 d1_129 (by decide) (q := 133) rfl ?_
                  exact J23 _ (by first | rfl | (simp only [if_neg hc24, if_neg hc25, if_pos hc26]))
      · intro hc3
        refine k_iloadN K X0 d1_84 rfl (q := 85) rfl ?_
        refine k_iconst K X0 d1_85 (v := (2 : Int32)) rfl (q := 86) rfl ?_
        have J30 : ∀ (d29 : Int32), (if p0 = (2 : Int32) then (4 : Int32) else (if p0 = (3 : Int32) then (4 : Int32) else (-1 : Int32))) = d29 → Run p e below s kc kn Q T0 (mkF m 99 #[.val (.int p0), .val (.int p1)] [(.int d29)]) := by
          intro d29 hv_d29
          exact k_reti K X0 e0 d1_99 (Nat.le_trans (by decide) hkc) (Nat.le_trans (by decide) hkn) (hQ _ _ _ ⟨(by show some (Value.int d29) = some (Value.int (F_after p0 p1)); simp only [F_after, hv_d29, if_pos hc1, if_neg hc2, if_pos hc3]), rfl, rfl⟩)
        refine k_icmp_eq K X0 d1_86 (by decide) (q := 94) rfl (q' := 89) rfl ?_ ?_
        · intro hc31
          refine k_iconst K X0 d1_94 (v := (4 : Int32)) rfl (q := 95) rfl ?_
          refine k_goto K X0 d1_95 (by decide) (q := 99) rfl ?_
          exact J30 _ (by first | rfl | (simp only [if_pos hc31]))
        · intro hc31
          refine k_iloadN K X0 d1_89 rfl (q := 90) rfl ?_
          refine k_iconst K X0 d1_90 (v := (3 : Int32)) rfl (q := 91) rfl ?_
          refine k_icmp_ne K X0 d1_91 (by decide) (q := 98) rfl (q' := 94) rfl ?_ ?_
          · intro hc32
            refine k_iconst K X0 d1_98 (v := (-1 : Int32)) rfl (q := 99) rfl ?_
            exact J30 _ (by first | rfl | (simp only [if_neg hc31, if_neg hc32]))
          · intro hc32
            refine k_iconst K X0 d1_94 (v := (4 : Int32)) rfl (q := 95) rfl ?_
            refine k_goto K X0 d1_95 (by decide) (q := 99) rfl ?_
            exact J30 _ (by first | rfl | (simp only [if_neg hc31, if_pos hc32]))
    · intro hc2
      refine k_iloadN K X0 d1_72 rfl (q := 73) rfl ?_
      refine k_if_ne K X0 d1_73 (by decide) (q := 78) rfl (q' := 76) rfl ?_ ?_
      · intro hc33
        refine k_iloadN K X0 d1_78 rfl (q := 79) rfl ?_
        refine k_bipush K X0 d1_79 (v := (46 : Int32)) rfl (q := 81) rfl ?_
        refine k_icmp_ne K X0 d1_81 (by decide) (q := 100) rfl (q' := 84) rfl ?_ ?_
        · intro hc34
          refine k_iloadN K X0 d1_100 rfl (q := 101) rfl ?_
          refine k_bipush K X0 d1_101 (v := (101 : Int32)) rfl (q := 103) rfl ?_
          refine k_icmp_eq K X0 d1_103 (by decide) (q := 112) rfl (q' := 106) rfl ?_ ?_
          · intro hc35
            refine k_iloadN K X0 d1_112 rfl (q := 113) rfl ?_
            refine k_iconst K X0 d1_113 (v := (2 : Int32)) rfl (q := 114) rfl ?_
            have J40 : ∀ (d39 : Int32), (if p0 = (2 : Int32) then (6 : Int32) else (if p0 = (3 : Int32) then (6 : Int32) else (if p0 = (5 : Int32) then (6 : Int32) else (-1 : Int32)))) = d39 → Run p e below s kc kn Q T0 (mkF m 133 #[.val (.int p0), .val (.int p1)] [(.int d39)]) := by
              intro d39 hv_d39
              exact k_reti K X0 e0 d1_133 (Nat.le_trans (by decide) hkc) (Nat.le_trans (by decide) hkn) (hQ _ _ _ ⟨(by show some (Value.int d39) = some (Value.int (F_after p0 p1)); simp only [F_after, hv_d39, if_pos hc1, if_pos hc2, if_neg hc33, if_neg hc34, if_pos hc35]), rfl, rfl⟩)
            refine k_icmp_eq K X0 d1_114 (by decide) (q := 127) rfl (q' := 117) rfl ?_ ?_
            · intro hc41
              refine k_bipush K X0 d1_127 (v := (6 : Int32)) rfl (q := 129) rfl ?_
              refine k_goto K X0 d1_129 (by decide) (q := 133) rfl ?_
              exact J40 _ (by first | rfl | (simp only [if_pos hc41]))
            · intro hc41
              refine k_iloadN K X0 d1_117 rfl (q := 118) rfl ?_
              refine k_iconst K X0 d1_118 (v := (3 : Int32)) rfl (q := 119) rfl ?_
              refine k_icmp_eq K X0 d1_119 (by decide) (q := 127) rfl (q' := 122) rfl ?_ ?_
              · intro hc42
                refine k_bipush K X0 d1_127 (v := (6 : Int32)) rfl (q := 129) rfl ?_
                refine k_goto K X0 d1_129 (by decide) (q := 133) rfl ?_
                exact J40 _ (by first | rfl | (simp only [if_neg hc41, if_pos hc42]))
              · intro hc42
                refine k_iloadN K X0 d1_122 rfl (q := 123) rfl ?_
                refine k_iconst K X0 d1_123 (v := (5 : Int32)) rfl (q := 124) rfl ?_
                refine k_icmp_ne K X0 d1_124 (by decide) (q := 132) rfl (q' := 127) rfl ?_ ?_
                · intro hc43
                  refine k_iconst K X0 d1_132 (v := (-1 : Int32)) rfl (q := 133) rfl ?_
                  exact J40 _ (by first | rfl | (simp only [if_neg hc41, if_neg hc42, if_neg hc43]))
                · intro hc43
                  refine k_bipush K X0 d1_127 (v := (6 : Int32)) rfl (q := 129) rfl ?_
                  refine k_goto K X0 d1_129 (by decide) (q := 133) rfl ?_
                  exact J40 _ (by first | rfl | (simp only [if_neg hc41, if_neg hc42, if_pos hc43]))
          · intro hc35
            refine k_iloadN K X0 d1_106 rfl (q := 107) rfl ?_
            refine k_bipush K X0 d1_107 (v := (69 : Int32)) rfl (q := 109) rfl ?_
            refine k_icmp_ne K X0 d1_109 (by decide) (q := 134) rfl (q' := 112) rfl ?_ ?_
            · intro hc44
              refine k_iloadN K X0 d1_134 rfl (q := 135) rfl ?_
              refine k_bipush K X0 d1_135 (v := (45 : Int32)) rfl (q := 137) rfl ?_
              refine k_icmp_eq_y K X0 d1_137 hc2 (by decide) (q := 146) rfl ?_
              refine k_iloadN K X0 d1_146 rfl (q := 147) rfl ?_
              refine k_bipush K X0 d1_147 (v := (6 : Int32)) rfl (q := 149) rfl ?_
              have J47 : ∀ (d46 : Int32), (if p0 = (6 : Int32) then (7 : Int32) else (-1 : Int32)) = d46 → Run p e below s kc kn Q T0 (mkF m 158 #[.val (.int p0), .val (.int p1)] [(.int d46)]) := by
                intro d46 hv_d46
                exact k_reti K X0 e0 d1_158 (Nat.le_trans (by decide) hkc) (Nat.le_trans (by decide) hkn) (hQ _ _ _ ⟨(by show some (Value.int d46) = some (Value.int (F_after p0 p1)); simp only [F_after, hv_d46, if_pos hc1, if_pos hc2, if_neg hc33, if_neg hc34, if_neg hc35, if_neg hc44]), rfl, rfl⟩)
              refine k_icmp_ne K X0 d1_149 (by decide) (q := 157) rfl (q' := 152) rfl ?_ ?_
              · intro hc48
                refine k_iconst K X0 d1_157 (v := (-1 : Int32)) rfl (q := 158) rfl ?_
                exact J47 _ (by first | rfl | (simp only [if_neg hc48]))
              · intro hc48
                refine k_bipush K X0 d1_152 (v := (7 : Int32)) rfl (q := 154) rfl ?_
                refine k_goto K X0 d1_154 (by decide) (q := 158) rfl ?_
                exact J47 _ (by first | rfl | (simp only [if_pos hc48]))
            · intro hc44
              refine k_iloadN K X0 d1_112 rfl (q := 113) rfl ?_
              refine k_iconst K X0 d1_113 (v := (2 : Int32)) rfl (q := 114) rfl ?_
              have J53 : ∀ (d52 : Int32), (if p0 = (2 : Int32) then (6 : Int32) else (if p0 = (3 : Int32) then (6 : Int32) else (if p0 = (5 : Int32) then (6 : Int32) else (-1 : Int32)))) = d52 → Run p e below s kc kn Q T0 (mkF m 133 #[.val (.int p0), .val (.int p1)] [(.int d52)]) := by
                intro d52 hv_d52
                exact k_reti K X0 e0 d1_133 (Nat.le_trans (by decide) hkc) (Nat.le_trans (by decide) hkn) (hQ _ _ _ ⟨(by show some (Value.int d52) = some (Value.int (F_after p0 p1)); simp only [F_after, hv_d52, if_pos hc1, if_pos hc2, if_neg hc33, if_neg hc34, if_neg hc35, if_pos hc44]), rfl, rfl⟩)
              refine k_icmp_eq K X0 d1_114 (by decide) (q := 127) rfl (q' := 117) rfl ?_ ?_
              · intro hc54
                refine k_bipush K X0 d1_127 (v := (6 : Int32)) rfl (q := 129) rfl ?_
                refine k_goto K X0 d1_129 (by decide) (q := 133) rfl ?_
                exact J53 _ (by first | rfl | (simp only [if_pos hc54]))
              · intro hc54
                refine k_iloadN K X0 d1_117 rfl (q := 118) rfl ?_
                refine k_iconst K X0 d1_118 (v := (3 : Int32)) rfl (q := 119) rfl ?_
                refine k_icmp_eq K X0 d1_119 (by decide) (q := 127) rfl (q' := 122) rfl ?_ ?_
                · intro hc55
                  refine k_bipush K X0 d1_127 (v := (6 : Int32)) rfl (q := 129) rfl ?_
                  refine k_goto K X0 d1_129 (by decide) (q := 133) rfl ?_
                  exact J53 _ (by first | rfl | (simp only [if_neg hc54, if_pos hc55]))
                · intro hc55
                  refine k_iloadN K X0 d1_122 rfl (q := 123) rfl ?_
                  refine k_iconst K X0 d1_123 (v := (5 : Int32)) rfl (q := 124) rfl ?_
                  refine k_icmp_ne K X0 d1_124 (by decide) (q := 132) rfl (q' := 127) rfl ?_ ?_
                  · intro hc56
                    refine k_iconst K X0 d1_132 (v := (-1 : Int32)) rfl (q := 133) rfl ?_
                    exact J53 _ (by first | rfl | (simp only [if_neg hc54, if_neg hc55, if_neg hc56]))
                  · intro hc56
                    refine k_bipush K X0 d1_127 (v := (6 : Int32)) rfl (q := 129) rfl ?_
                    refine k_goto K X0 d1_129 (by decide) (q := 133) rfl ?_
                    exact J53 _ (by first | rfl | (simp only [if_neg hc54, if_neg hc55, if_pos hc56]))
        · intro hc34
          refine k_iloadN K X0 d1_84 rfl (q := 85) rfl ?_
          refine k_iconst K X0 d1_85 (v := (2 : Int32)) rfl (q := 86) rfl ?_
          have J60 : ∀ (d59 : Int32), (if p0 = (2 : Int32) then (4 : Int32) else (if p0 = (3 : Int32) then (4 : Int32) else (-1 : Int32))) = d59 → Run p e below s kc kn Q T0 (mkF m 99 #[.val (.int p0), .val (.int p1)] [(.int d59)]) := by
            intro d59 hv_d59
            exact k_reti K X0 e0 d1_99 (Nat.le_trans (by decide) hkc) (Nat.le_trans (by decide) hkn) (hQ _ _ _ ⟨(by show some (Value.int d59) = some (Value.int (F_after p0 p1)); simp only [F_after, hv_d59, if_pos hc1, if_pos hc2, if_neg hc33, if_pos hc34]), rfl, rfl⟩)
          refine k_icmp_eq K X0 d1_86 (by decide) (q := 94) rfl (q' := 89) rfl ?_ ?_
          · intro hc61
            refine k_iconst K X0 d1_94 (v := (4 : Int32)) rfl (q := 95) rfl ?_
            refine k_goto K X0 d1_95 (by decide) (q := 99) rfl ?_
            exact J60 _ (by first | rfl | (simp only [if_pos hc61]))
          · intro hc61
            refine k_iloadN K X0 d1_89 rfl (q := 90) rfl ?_
            refine k_iconst K X0 d1_90 (v := (3 : Int32)) rfl (q := 91) rfl ?_
            refine k_icmp_ne K X0 d1_91 (by decide) (q := 98) rfl (q' := 94) rfl ?_ ?_
            · intro hc62
              refine k_iconst K X0 d1_98 (v := (-1 : Int32)) rfl (q := 99) rfl ?_
              exact J60 _ (by first | rfl | (simp only [if_neg hc61, if_neg hc62]))
            · intro hc62
              refine k_iconst K X0 d1_94 (v := (4 : Int32)) rfl (q := 95) rfl ?_
              refine k_goto K X0 d1_95 (by decide) (q := 99) rfl ?_
              exact J60 _ (by first | rfl | (simp only [if_neg hc61, if_pos hc62]))
      · intro hc33
        refine k_iconst K X0 d1_76 (v := (1 : Int32)) rfl (q := 77) rfl ?_
        exact k_reti K X0 e0 d1_77 (Nat.le_trans (by decide) hkc) (Nat.le_trans (by decide) hkn) (hQ _ _ _ ⟨(by show some (Value.int (1 : Int32)) = some (Value.int (F_after p0 p1)); simp only [F_after, if_pos hc1, if_pos hc2, if_pos hc33]), rfl, rfl⟩)
  · intro hc1
    refine k_iloadN K X0 d1_6 rfl (q := 7) rfl ?_
    refine k_bipush K X0 d1_7 (v := (57 : Int32)) rfl (q := 9) rfl ?_
    refine k_icmp_gt K X0 d1_9 (by decide) (q := 66) rfl (q' := 12) rfl ?_ ?_
    · intro hc63
      refine k_iloadN K X0 d1_66 rfl (q := 67) rfl ?_
      refine k_bipush K X0 d1_67 (v := (45 : Int32)) rfl (q := 69) rfl ?_
      refine k_icmp_ne K X0 d1_69 (by decide) (q := 78) rfl (q' := 72) rfl ?_ ?_
      · intro hc64
        refine k_iloadN K X0 d1_78 rfl (q := 79) rfl ?_
        refine k_bipush K X0 d1_79 (v := (46 : Int32)) rfl (q := 81) rfl ?_
        refine k_icmp_ne K X0 d1_81 (by decide) (q := 100) rfl (q' := 84) rfl ?_ ?_
        · intro hc65
          refine k_iloadN K X0 d1_100 rfl (q := 101) rfl ?_
          refine k_bipush K X0 d1_101 (v := (101 : Int32)) rfl (q := 103) rfl ?_
          refine k_icmp_eq K X0 d1_103 (by decide) (q := 112) rfl (q' := 106) rfl ?_ ?_
          · intro hc66
            refine k_iloadN K X0 d1_112 rfl (q := 113) rfl ?_
            refine k_iconst K X0 d1_113 (v := (2 : Int32)) rfl (q := 114) rfl ?_
            have J71 : ∀ (d70 : Int32), (if p0 = (2 : Int32) then (6 : Int32) else (if p0 = (3 : Int32) then (6 : Int32) else (if p0 = (5 : Int32) then (6 : Int32) else (-1 : Int32)))) = d70 → Run p e below s kc kn Q T0 (mkF m 133 #[.val (.int p0), .val (.int p1)] [(.int d70)]) := by
              intro d70 hv_d70
              exact k_reti K X0 e0 d1_133 (Nat.le_trans (by decide) hkc) (Nat.le_trans (by decide) hkn) (hQ _ _ _ ⟨(by show some (Value.int d70) = some (Value.int (F_after p0 p1)); simp only [F_after, hv_d70, if_neg hc1, if_pos hc63, if_neg hc64, if_neg hc65, if_pos hc66]), rfl, rfl⟩)
            refine k_icmp_eq K X0 d1_114 (by decide) (q := 127) rfl (q' := 117) rfl ?_ ?_
            · intro hc72
              refine k_bipush K X0 d1_127 (v := (6 : Int32)) rfl (q := 129) rfl ?_
              refine k_goto K X0 d1_129 (by decide) (q := 133) rfl ?_
              exact J71 _ (by first | rfl | (simp only [if_pos hc72]))
            · intro hc72
              refine k_iloadN K X0 d1_117 rfl (q := 118) rfl ?_
              refine k_iconst K X0 d1_118 (v := (3 : Int32)) rfl (q := 119) rfl ?_
              refine k_icmp_eq K X0 d1_119 (by decide) (q := 127) rfl (q' := 122) rfl ?_ ?_
              · intro hc73
                refine k_bipush K X0 d1_127 (v := (6 : Int32)) rfl (q := 129) rfl ?_
                refine k_goto K X0 d1_129 (by decide) (q := 133) rfl ?_
                exact J71 _ (by first | rfl | (simp only [if_neg hc72, if_pos hc73]))
              · intro hc73
                refine k_iloadN K X0 d1_122 rfl (q := 123) rfl ?_
                refine k_iconst K X0 d1_123 (v := (5 : Int32)) rfl (q := 124) rfl ?_
                refine k_icmp_ne K X0 d1_124 (by decide) (q := 132) rfl (q' := 127) rfl ?_ ?_
                · intro hc74
                  refine k_iconst K X0 d1_132 (v := (-1 : Int32)) rfl (q := 133) rfl ?_
                  exact J71 _ (by first | rfl | (simp only [if_neg hc72, if_neg hc73, if_neg hc74]))
                · intro hc74
                  refine k_bipush K X0 d1_127 (v := (6 : Int32)) rfl (q := 129) rfl ?_
                  refine k_goto K X0 d1_129 (by decide) (q := 133) rfl ?_
                  exact J71 _ (by first | rfl | (simp only [if_neg hc72, if_neg hc73, if_pos hc74]))
          · intro hc66
            refine k_iloadN K X0 d1_106 rfl (q := 107) rfl ?_
            refine k_bipush K X0 d1_107 (v := (69 : Int32)) rfl (q := 109) rfl ?_
            refine k_icmp_ne K X0 d1_109 (by decide) (q := 134) rfl (q' := 112) rfl ?_ ?_
            · intro hc75
              refine k_iloadN K X0 d1_134 rfl (q := 135) rfl ?_
              refine k_bipush K X0 d1_135 (v := (45 : Int32)) rfl (q := 137) rfl ?_
              refine k_icmp_eq_n K X0 d1_137 hc64 (q := 140) rfl ?_
              refine k_iloadN K X0 d1_140 rfl (q := 141) rfl ?_
              refine k_bipush K X0 d1_141 (v := (43 : Int32)) rfl (q := 143) rfl ?_
              refine k_icmp_ne K X0 d1_143 (by decide) (q := 159) rfl (q' := 146) rfl ?_ ?_
              · intro hc76
                refine k_iconst K X0 d1_159 (v := (-1 : Int32)) rfl (q := 160) rfl ?_
                exact k_reti K X0 e0 d1_160 (Nat.le_trans (by decide) hkc) (Nat.le_trans (by decide) hkn) (hQ _ _ _ ⟨(by show some (Value.int (-1 : Int32)) = some (Value.int (F_after p0 p1)); simp only [F_after, if_neg hc1, if_pos hc63, if_neg hc64, if_neg hc65, if_neg hc66, if_neg hc75, if_neg hc76]), rfl, rfl⟩)
              · intro hc76
                refine k_iloadN K X0 d1_146 rfl (q := 147) rfl ?_
                refine k_bipush K X0 d1_147 (v := (6 : Int32)) rfl (q := 149) rfl ?_
                have J79 : ∀ (d78 : Int32), (if p0 = (6 : Int32) then (7 : Int32) else (-1 : Int32)) = d78 → Run p e below s kc kn Q T0 (mkF m 158 #[.val (.int p0), .val (.int p1)] [(.int d78)]) := by
                  intro d78 hv_d78
                  exact k_reti K X0 e0 d1_158 (Nat.le_trans (by decide) hkc) (Nat.le_trans (by decide) hkn) (hQ _ _ _ ⟨(by show some (Value.int d78) = some (Value.int (F_after p0 p1)); simp only [F_after, hv_d78, if_neg hc1, if_pos hc63, if_neg hc64, if_neg hc65, if_neg hc66, if_neg hc75, if_pos hc76]), rfl, rfl⟩)
                refine k_icmp_ne K X0 d1_149 (by decide) (q := 157) rfl (q' := 152) rfl ?_ ?_
                · intro hc80
                  refine k_iconst K X0 d1_157 (v := (-1 : Int32)) rfl (q := 158) rfl ?_
                  exact J79 _ (by first | rfl | (simp only [if_neg hc80]))
                · intro hc80
                  refine k_bipush K X0 d1_152 (v := (7 : Int32)) rfl (q := 154) rfl ?_
                  refine k_goto K X0 d1_154 (by decide) (q := 158) rfl ?_
                  exact J79 _ (by first | rfl | (simp only [if_pos hc80]))
            · intro hc75
              refine k_iloadN K X0 d1_112 rfl (q := 113) rfl ?_
              refine k_iconst K X0 d1_113 (v := (2 : Int32)) rfl (q := 114) rfl ?_
              have J85 : ∀ (d84 : Int32), (if p0 = (2 : Int32) then (6 : Int32) else (if p0 = (3 : Int32) then (6 : Int32) else (if p0 = (5 : Int32) then (6 : Int32) else (-1 : Int32)))) = d84 → Run p e below s kc kn Q T0 (mkF m 133 #[.val (.int p0), .val (.int p1)] [(.int d84)]) := by
                intro d84 hv_d84
                exact k_reti K X0 e0 d1_133 (Nat.le_trans (by decide) hkc) (Nat.le_trans (by decide) hkn) (hQ _ _ _ ⟨(by show some (Value.int d84) = some (Value.int (F_after p0 p1)); simp only [F_after, hv_d84, if_neg hc1, if_pos hc63, if_neg hc64, if_neg hc65, if_neg hc66, if_pos hc75]), rfl, rfl⟩)
              refine k_icmp_eq K X0 d1_114 (by decide) (q := 127) rfl (q' := 117) rfl ?_ ?_
              · intro hc86
                refine k_bipush K X0 d1_127 (v := (6 : Int32)) rfl (q := 129) rfl ?_
                refine k_goto K X0 d1_129 (by decide) (q := 133) rfl ?_
                exact J85 _ (by first | rfl | (simp only [if_pos hc86]))
              · intro hc86
                refine k_iloadN K X0 d1_117 rfl (q := 118) rfl ?_
                refine k_iconst K X0 d1_118 (v := (3 : Int32)) rfl (q := 119) rfl ?_
                refine k_icmp_eq K X0 d1_119 (by decide) (q := 127) rfl (q' := 122) rfl ?_ ?_
                · intro hc87
                  refine k_bipush K X0 d1_127 (v := (6 : Int32)) rfl (q := 129) rfl ?_
                  refine k_goto K X0 d1_129 (by decide) (q := 133) rfl ?_
                  exact J85 _ (by first | rfl | (simp only [if_neg hc86, if_pos hc87]))
                · intro hc87
                  refine k_iloadN K X0 d1_122 rfl (q := 123) rfl ?_
                  refine k_iconst K X0 d1_123 (v := (5 : Int32)) rfl (q := 124) rfl ?_
                  refine k_icmp_ne K X0 d1_124 (by decide) (q := 132) rfl (q' := 127) rfl ?_ ?_
                  · intro hc88
                    refine k_iconst K X0 d1_132 (v := (-1 : Int32)) rfl (q := 133) rfl ?_
                    exact J85 _ (by first | rfl | (simp only [if_neg hc86, if_neg hc87, if_neg hc88]))
                  · intro hc88
                    refine k_bipush K X0 d1_127 (v := (6 : Int32)) rfl (q := 129) rfl ?_
                    refine k_goto K X0 d1_129 (by decide) (q := 133) rfl ?_
                    exact J85 _ (by first | rfl | (simp only [if_neg hc86, if_neg hc87, if_pos hc88]))
        · intro hc65
          refine k_iloadN K X0 d1_84 rfl (q := 85) rfl ?_
          refine k_iconst K X0 d1_85 (v := (2 : Int32)) rfl (q := 86) rfl ?_
          have J92 : ∀ (d91 : Int32), (if p0 = (2 : Int32) then (4 : Int32) else (if p0 = (3 : Int32) then (4 : Int32) else (-1 : Int32))) = d91 → Run p e below s kc kn Q T0 (mkF m 99 #[.val (.int p0), .val (.int p1)] [(.int d91)]) := by
            intro d91 hv_d91
            exact k_reti K X0 e0 d1_99 (Nat.le_trans (by decide) hkc) (Nat.le_trans (by decide) hkn) (hQ _ _ _ ⟨(by show some (Value.int d91) = some (Value.int (F_after p0 p1)); simp only [F_after, hv_d91, if_neg hc1, if_pos hc63, if_neg hc64, if_pos hc65]), rfl, rfl⟩)
          refine k_icmp_eq K X0 d1_86 (by decide) (q := 94) rfl (q' := 89) rfl ?_ ?_
          · intro hc93
            refine k_iconst K X0 d1_94 (v := (4 : Int32)) rfl (q := 95) rfl ?_
            refine k_goto K X0 d1_95 (by decide) (q := 99) rfl ?_
            exact J92 _ (by first | rfl | (simp only [if_pos hc93]))
          · intro hc93
            refine k_iloadN K X0 d1_89 rfl (q := 90) rfl ?_
            refine k_iconst K X0 d1_90 (v := (3 : Int32)) rfl (q := 91) rfl ?_
            refine k_icmp_ne K X0 d1_91 (by decide) (q := 98) rfl (q' := 94) rfl ?_ ?_
            · intro hc94
              refine k_iconst K X0 d1_98 (v := (-1 : Int32)) rfl (q := 99) rfl ?_
              exact J92 _ (by first | rfl | (simp only [if_neg hc93, if_neg hc94]))
            · intro hc94
              refine k_iconst K X0 d1_94 (v := (4 : Int32)) rfl (q := 95) rfl ?_
              refine k_goto K X0 d1_95 (by decide) (q := 99) rfl ?_
              exact J92 _ (by first | rfl | (simp only [if_neg hc93, if_pos hc94]))
      · intro hc64
        refine k_iloadN K X0 d1_72 rfl (q := 73) rfl ?_
        refine k_if_ne K X0 d1_73 (by decide) (q := 78) rfl (q' := 76) rfl ?_ ?_
        · intro hc95
          refine k_iloadN K X0 d1_78 rfl (q := 79) rfl ?_
          refine k_bipush K X0 d1_79 (v := (46 : Int32)) rfl (q := 81) rfl ?_
          refine k_icmp_ne K X0 d1_81 (by decide) (q := 100) rfl (q' := 84) rfl ?_ ?_
          · intro hc96
            refine k_iloadN K X0 d1_100 rfl (q := 101) rfl ?_
            refine k_bipush K X0 d1_101 (v := (101 : Int32)) rfl (q := 103) rfl ?_
            refine k_icmp_eq K X0 d1_103 (by decide) (q := 112) rfl (q' := 106) rfl ?_ ?_
            · intro hc97
              refine k_iloadN K X0 d1_112 rfl (q := 113) rfl ?_
              refine k_iconst K X0 d1_113 (v := (2 : Int32)) rfl (q := 114) rfl ?_
              have J102 : ∀ (d101 : Int32), (if p0 = (2 : Int32) then (6 : Int32) else (if p0 = (3 : Int32) then (6 : Int32) else (if p0 = (5 : Int32) then (6 : Int32) else (-1 : Int32)))) = d101 → Run p e below s kc kn Q T0 (mkF m 133 #[.val (.int p0), .val (.int p1)] [(.int d101)]) := by
                intro d101 hv_d101
                exact k_reti K X0 e0 d1_133 (Nat.le_trans (by decide) hkc) (Nat.le_trans (by decide) hkn) (hQ _ _ _ ⟨(by show some (Value.int d101) = some (Value.int (F_after p0 p1)); simp only [F_after, hv_d101, if_neg hc1, if_pos hc63, if_pos hc64, if_neg hc95, if_neg hc96, if_pos hc97]), rfl, rfl⟩)
              refine k_icmp_eq K X0 d1_114 (by decide) (q := 127) rfl (q' := 117) rfl ?_ ?_
              · intro hc103
                refine k_bipush K X0 d1_127 (v := (6 : Int32)) rfl (q := 129) rfl ?_
                refine k_goto K X0 d1_129 (by decide) (q := 133) rfl ?_
                exact J102 _ (by first | rfl | (simp only [if_pos hc103]))
              · intro hc103
                refine k_iloadN K X0 d1_117 rfl (q := 118) rfl ?_
                refine k_iconst K X0 d1_118 (v := (3 : Int32)) rfl (q := 119) rfl ?_
                refine k_icmp_eq K X0 d1_119 (by decide) (q := 127) rfl (q' := 122) rfl ?_ ?_
                · intro hc104
                  refine k_bipush K X0 d1_127 (v := (6 : Int32)) rfl (q := 129) rfl ?_
                  refine k_goto K X0 d1_129 (by decide) (q := 133) rfl ?_
                  exact J102 _ (by first | rfl | (simp only [if_neg hc103, if_pos hc104]))
                · intro hc104
                  refine k_iloadN K X0 d1_122 rfl (q := 123) rfl ?_
                  refine k_iconst K X0 d1_123 (v := (5 : Int32)) rfl (q := 124) rfl ?_
                  refine k_icmp_ne K X0 d1_124 (by decide) (q := 132) rfl (q' := 127) rfl ?_ ?_
                  · intro hc105
                    refine k_iconst K X0 d1_132 (v := (-1 : Int32)) rfl (q := 133) rfl ?_
                    exact J102 _ (by first | rfl | (simp only [if_neg hc103, if_neg hc104, if_neg hc105]))
                  · intro hc105
                    refine k_bipush K X0 d1_127 (v := (6 : Int32)) rfl (q := 129) rfl ?_
                    refine k_goto K X0 d1_129 (by decide) (q := 133) rfl ?_
                    exact J102 _ (by first | rfl | (simp only [if_neg hc103, if_neg hc104, if_pos hc105]))
            · intro hc97
              refine k_iloadN K X0 d1_106 rfl (q := 107) rfl ?_
              refine k_bipush K X0 d1_107 (v := (69 : Int32)) rfl (q := 109) rfl ?_
              refine k_icmp_ne K X0 d1_109 (by decide) (q := 134) rfl (q' := 112) rfl ?_ ?_
              · intro hc106
                refine k_iloadN K X0 d1_134 rfl (q := 135) rfl ?_
                refine k_bipush K X0 d1_135 (v := (45 : Int32)) rfl (q := 137) rfl ?_
                refine k_icmp_eq_y K X0 d1_137 hc64 (by decide) (q := 146) rfl ?_
                refine k_iloadN K X0 d1_146 rfl (q := 147) rfl ?_
                refine k_bipush K X0 d1_147 (v := (6 : Int32)) rfl (q := 149) rfl ?_
                have J109 : ∀ (d108 : Int32), (if p0 = (6 : Int32) then (7 : Int32) else (-1 : Int32)) = d108 → Run p e below s kc kn Q T0 (mkF m 158 #[.val (.int p0), .val (.int p1)] [(.int d108)]) := by
                  intro d108 hv_d108
                  exact k_reti K X0 e0 d1_158 (Nat.le_trans (by decide) hkc) (Nat.le_trans (by decide) hkn) (hQ _ _ _ ⟨(by show some (Value.int d108) = some (Value.int (F_after p0 p1)); simp only [F_after, hv_d108, if_neg hc1, if_pos hc63, if_pos hc64, if_neg hc95, if_neg hc96, if_neg hc97, if_neg hc106]), rfl, rfl⟩)
                refine k_icmp_ne K X0 d1_149 (by decide) (q := 157) rfl (q' := 152) rfl ?_ ?_
                · intro hc110
                  refine k_iconst K X0 d1_157 (v := (-1 : Int32)) rfl (q := 158) rfl ?_
                  exact J109 _ (by first | rfl | (simp only [if_neg hc110]))
                · intro hc110
                  refine k_bipush K X0 d1_152 (v := (7 : Int32)) rfl (q := 154) rfl ?_
                  refine k_goto K X0 d1_154 (by decide) (q := 158) rfl ?_
                  exact J109 _ (by first | rfl | (simp only [if_pos hc110]))
              · intro hc106
                refine k_iloadN K X0 d1_112 rfl (q := 113) rfl ?_
                refine k_iconst K X0 d1_113 (v := (2 : Int32)) rfl (q := 114) rfl ?_
                have J115 : ∀ (d114 : Int32), (if p0 = (2 : Int32) then (6 : Int32) else (if p0 = (3 : Int32) then (6 : Int32) else (if p0 = (5 : Int32) then (6 : Int32) else (-1 : Int32)))) = d114 → Run p e below s kc kn Q T0 (mkF m 133 #[.val (.int p0), .val (.int p1)] [(.int d114)]) := by
                  intro d114 hv_d114
                  exact k_reti K X0 e0 d1_133 (Nat.le_trans (by decide) hkc) (Nat.le_trans (by decide) hkn) (hQ _ _ _ ⟨(by show some (Value.int d114) = some (Value.int (F_after p0 p1)); simp only [F_after, hv_d114, if_neg hc1, if_pos hc63, if_pos hc64, if_neg hc95, if_neg hc96, if_neg hc97, if_pos hc106]), rfl, rfl⟩)
                refine k_icmp_eq K X0 d1_114 (by decide) (q := 127) rfl (q' := 117) rfl ?_ ?_
                · intro hc116
                  refine k_bipush K X0 d1_127 (v := (6 : Int32)) rfl (q := 129) rfl ?_
                  refine k_goto K X0 d1_129 (by decide) (q := 133) rfl ?_
                  exact J115 _ (by first | rfl | (simp only [if_pos hc116]))
                · intro hc116
                  refine k_iloadN K X0 d1_117 rfl (q := 118) rfl ?_
                  refine k_iconst K X0 d1_118 (v := (3 : Int32)) rfl (q := 119) rfl ?_
                  refine k_icmp_eq K X0 d1_119 (by decide) (q := 127) rfl (q' := 122) rfl ?_ ?_
                  · intro hc117
                    refine k_bipush K X0 d1_127 (v := (6 : Int32)) rfl (q := 129) rfl ?_
                    refine k_goto K X0 d1_129 (by decide) (q := 133) rfl ?_
                    exact J115 _ (by first | rfl | (simp only [if_neg hc116, if_pos hc117]))
                  · intro hc117
                    refine k_iloadN K X0 d1_122 rfl (q := 123) rfl ?_
                    refine k_iconst K X0 d1_123 (v := (5 : Int32)) rfl (q := 124) rfl ?_
                    refine k_icmp_ne K X0 d1_124 (by decide) (q := 132) rfl (q' := 127) rfl ?_ ?_
                    · intro hc118
                      refine k_iconst K X0 d1_132 (v := (-1 : Int32)) rfl (q := 133) rfl ?_
                      exact J115 _ (by first | rfl | (simp only [if_neg hc116, if_neg hc117, if_neg hc118]))
                    · intro hc118
                      refine k_bipush K X0 d1_127 (v := (6 : Int32)) rfl (q := 129) rfl ?_
                      refine k_goto K X0 d1_129 (by decide) (q := 133) rfl ?_
                      exact J115 _ (by first | rfl | (simp only [if_neg hc116, if_neg hc117, if_pos hc118]))
          · intro hc96
            refine k_iloadN K X0 d1_84 rfl (q := 85) rfl ?_
            refine k_iconst K X0 d1_85 (v := (2 : Int32)) rfl (q := 86) rfl ?_
            have J122 : ∀ (d121 : Int32), (if p0 = (2 : Int32) then (4 : Int32) else (if p0 = (3 : Int32) then (4 : Int32) else (-1 : Int32))) = d121 → Run p e below s kc kn Q T0 (mkF m 99 #[.val (.int p0), .val (.int p1)] [(.int d121)]) := by
              intro d121 hv_d121
              exact k_reti K X0 e0 d1_99 (Nat.le_trans (by decide) hkc) (Nat.le_trans (by decide) hkn) (hQ _ _ _ ⟨(by show some (Value.int d121) = some (Value.int (F_after p0 p1)); simp only [F_after, hv_d121, if_neg hc1, if_pos hc63, if_pos hc64, if_neg hc95, if_pos hc96]), rfl, rfl⟩)
            refine k_icmp_eq K X0 d1_86 (by decide) (q := 94) rfl (q' := 89) rfl ?_ ?_
            · intro hc123
              refine k_iconst K X0 d1_94 (v := (4 : Int32)) rfl (q := 95) rfl ?_
              refine k_goto K X0 d1_95 (by decide) (q := 99) rfl ?_
              exact J122 _ (by first | rfl | (simp only [if_pos hc123]))
            · intro hc123
              refine k_iloadN K X0 d1_89 rfl (q := 90) rfl ?_
              refine k_iconst K X0 d1_90 (v := (3 : Int32)) rfl (q := 91) rfl ?_
              refine k_icmp_ne K X0 d1_91 (by decide) (q := 98) rfl (q' := 94) rfl ?_ ?_
              · intro hc124
                refine k_iconst K X0 d1_98 (v := (-1 : Int32)) rfl (q := 99) rfl ?_
                exact J122 _ (by first | rfl | (simp only [if_neg hc123, if_neg hc124]))
              · intro hc124
                refine k_iconst K X0 d1_94 (v := (4 : Int32)) rfl (q := 95) rfl ?_
                refine k_goto K X0 d1_95 (by decide) (q := 99) rfl ?_
                exact J122 _ (by first | rfl | (simp only [if_neg hc123, if_pos hc124]))
        · intro hc95
          refine k_iconst K X0 d1_76 (v := (1 : Int32)) rfl (q := 77) rfl ?_
          exact k_reti K X0 e0 d1_77 (Nat.le_trans (by decide) hkc) (Nat.le_trans (by decide) hkn) (hQ _ _ _ ⟨(by show some (Value.int (1 : Int32)) = some (Value.int (F_after p0 p1)); simp only [F_after, if_neg hc1, if_pos hc63, if_pos hc64, if_pos hc95]), rfl, rfl⟩)
    · intro hc63
      refine k_iloadN K X0 d1_12 rfl (q := 13) rfl ?_
      refine k_if_eq K X0 d1_13 (by decide) (q := 21) rfl (q' := 16) rfl ?_ ?_
      · intro hc125
        refine k_iloadN K X0 d1_21 rfl (q := 22) rfl ?_
        refine k_bipush K X0 d1_22 (v := (48 : Int32)) rfl (q := 24) rfl ?_
        have J128 : ∀ (d127 : Int32), (if p1 = (48 : Int32) then (2 : Int32) else (3 : Int32)) = d127 → Run p e below s kc kn Q T0 (mkF m 32 #[.val (.int p0), .val (.int p1)] [(.int d127)]) := by
          intro d127 hv_d127
          exact k_reti K X0 e0 d1_32 (Nat.le_trans (by decide) hkc) (Nat.le_trans (by decide) hkn) (hQ _ _ _ ⟨(by show some (Value.int d127) = some (Value.int (F_after p0 p1)); simp only [F_after, hv_d127, if_neg hc1, if_neg hc63, if_pos hc125]), rfl, rfl⟩)
        refine k_icmp_ne K X0 d1_24 (by decide) (q := 31) rfl (q' := 27) rfl ?_ ?_
        · intro hc129
          refine k_iconst K X0 d1_31 (v := (3 : Int32)) rfl (q := 32) rfl ?_
          exact J128 _ (by first | rfl | (simp only [if_neg hc129]))
        · intro hc129
          refine k_iconst K X0 d1_27 (v := (2 : Int32)) rfl (q := 28) rfl ?_
          refine k_goto K X0 d1_28 (by decide) (q := 32) rfl ?_
          exact J128 _ (by first | rfl | (simp only [if_pos hc129]))
      · intro hc125
        refine k_iloadN K X0 d1_16 rfl (q := 17) rfl ?_
        refine k_iconst K X0 d1_17 (v := (1 : Int32)) rfl (q := 18) rfl ?_
        refine k_icmp_ne K X0 d1_18 (by decide) (q := 33) rfl (q' := 21) rfl ?_ ?_
        · intro hc130
          refine k_iloadN K X0 d1_33 rfl (q := 34) rfl ?_
          refine k_iconst K X0 d1_34 (v := (4 : Int32)) rfl (q := 35) rfl ?_
          refine k_icmp_ne K X0 d1_35 (by decide) (q := 40) rfl (q' := 38) rfl ?_ ?_
          · intro hc131
            refine k_iloadN K X0 d1_40 rfl (q := 41) rfl ?_
            refine k_bipush K X0 d1_41 (v := (6 : Int32)) rfl (q := 43) rfl ?_
            refine k_icmp_eq K X0 d1_43 (by decide) (q := 52) rfl (q' := 46) rfl ?_ ?_
            · intro hc132
              refine k_bipush K X0 d1_52 (v := (8 : Int32)) rfl (q := 54) rfl ?_
              exact k_reti K X0 e0 d1_54 (Nat.le_trans (by decide) hkc) (Nat.le_trans (by decide) hkn) (hQ _ _ _ ⟨(by show some (Value.int (8 : Int32)) = some (Value.int (F_after p0 p1)); simp only [F_after, if_neg hc1, if_neg hc63, if_neg hc125, if_neg hc130, if_neg hc131, if_pos hc132]), rfl, rfl⟩)
            · intro hc132
              refine k_iloadN K X0 d1_46 rfl (q := 47) rfl ?_
              refine k_bipush K X0 d1_47 (v := (7 : Int32)) rfl (q := 49) rfl ?_
              refine k_icmp_ne K X0 d1_49 (by decide) (q := 55) rfl (q' := 52) rfl ?_ ?_
              · intro hc133
                refine k_iloadN K X0 d1_55 rfl (q := 56) rfl ?_
                refine k_iconst K X0 d1_56 (v := (2 : Int32)) rfl (q := 57) rfl ?_
                have J136 : ∀ (d135 : Int32), (if p0 = (2 : Int32) then (-1 : Int32) else p0) = d135 → Run p e below s kc kn Q T0 (mkF m 65 #[.val (.int p0), .val (.int p1)] [(.int d135)]) := by
                  intro d135 hv_d135
                  exact k_reti K X0 e0 d1_65 (Nat.le_trans (by decide) hkc) (Nat.le_trans (by decide) hkn) (hQ _ _ _ ⟨(by show some (Value.int d135) = some (Value.int (F_after p0 p1)); simp only [F_after, hv_d135, if_neg hc1, if_neg hc63, if_neg hc125, if_neg hc130, if_neg hc131, if_neg hc132, if_neg hc133]), rfl, rfl⟩)
                refine k_icmp_ne K X0 d1_57 (by decide) (q := 64) rfl (q' := 60) rfl ?_ ?_
                · intro hc137
                  refine k_iloadN K X0 d1_64 rfl (q := 65) rfl ?_
                  exact J136 _ (by first | rfl | (simp only [if_neg hc137]))
                · intro hc137
                  refine k_iconst K X0 d1_60 (v := (-1 : Int32)) rfl (q := 61) rfl ?_
                  refine k_goto K X0 d1_61 (by decide) (q := 65) rfl ?_
                  exact J136 _ (by first | rfl | (simp only [if_pos hc137]))
              · intro hc133
                refine k_bipush K X0 d1_52 (v := (8 : Int32)) rfl (q := 54) rfl ?_
                exact k_reti K X0 e0 d1_54 (Nat.le_trans (by decide) hkc) (Nat.le_trans (by decide) hkn) (hQ _ _ _ ⟨(by show some (Value.int (8 : Int32)) = some (Value.int (F_after p0 p1)); simp only [F_after, if_neg hc1, if_neg hc63, if_neg hc125, if_neg hc130, if_neg hc131, if_neg hc132, if_pos hc133]), rfl, rfl⟩)
          · intro hc131
            refine k_iconst K X0 d1_38 (v := (5 : Int32)) rfl (q := 39) rfl ?_
            exact k_reti K X0 e0 d1_39 (Nat.le_trans (by decide) hkc) (Nat.le_trans (by decide) hkn) (hQ _ _ _ ⟨(by show some (Value.int (5 : Int32)) = some (Value.int (F_after p0 p1)); simp only [F_after, if_neg hc1, if_neg hc63, if_neg hc125, if_neg hc130, if_pos hc131]), rfl, rfl⟩)
        · intro hc130
          refine k_iloadN K X0 d1_21 rfl (q := 22) rfl ?_
          refine k_bipush K X0 d1_22 (v := (48 : Int32)) rfl (q := 24) rfl ?_
          have J140 : ∀ (d139 : Int32), (if p1 = (48 : Int32) then (2 : Int32) else (3 : Int32)) = d139 → Run p e below s kc kn Q T0 (mkF m 32 #[.val (.int p0), .val (.int p1)] [(.int d139)]) := by
            intro d139 hv_d139
            exact k_reti K X0 e0 d1_32 (Nat.le_trans (by decide) hkc) (Nat.le_trans (by decide) hkn) (hQ _ _ _ ⟨(by show some (Value.int d139) = some (Value.int (F_after p0 p1)); simp only [F_after, hv_d139, if_neg hc1, if_neg hc63, if_neg hc125, if_pos hc130]), rfl, rfl⟩)
          refine k_icmp_ne K X0 d1_24 (by decide) (q := 31) rfl (q' := 27) rfl ?_ ?_
          · intro hc141
            refine k_iconst K X0 d1_31 (v := (3 : Int32)) rfl (q := 32) rfl ?_
            exact J140 _ (by first | rfl | (simp only [if_neg hc141]))
          · intro hc141
            refine k_iconst K X0 d1_27 (v := (2 : Int32)) rfl (q := 28) rfl ?_
            refine k_goto K X0 d1_28 (by decide) (q := 32) rfl ?_
            exact J140 _ (by first | rfl | (simp only [if_pos hc141]))
theorem d2_0 : decode prog_5_method_6_code 0 = .ok (.iload_n 0, 1) := by decide +kernel
theorem d2_1 : decode prog_5_method_6_code 1 = .ok (.iconst 2, 1) := by decide +kernel
theorem d2_2 : decode prog_5_method_6_code 2 = .ok (.if_icmp .eq 19, 3) := by decide +kernel
theorem d2_26 : decode prog_5_method_6_code 26 = .ok (.ireturn, 1) := by decide +kernel
theorem d2_21 : decode prog_5_method_6_code 21 = .ok (.iconst 1, 1) := by decide +kernel
theorem d2_22 : decode prog_5_method_6_code 22 = .ok (.goto 4, 3) := by decide +kernel
theorem d2_5 : decode prog_5_method_6_code 5 = .ok (.iload_n 0, 1) := by decide +kernel
theorem d2_6 : decode prog_5_method_6_code 6 = .ok (.iconst 3, 1) := by decide +kernel
theorem d2_7 : decode prog_5_method_6_code 7 = .ok (.if_icmp .eq 14, 3) := by decide +kernel
theorem d2_10 : decode prog_5_method_6_code 10 = .ok (.iload_n 0, 1) := by decide +kernel
theorem d2_11 : decode prog_5_method_6_code 11 = .ok (.iconst 5, 1) := by decide +kernel
theorem d2_12 : decode prog_5_method_6_code 12 = .ok (.if_icmp .eq 9, 3) := by decide +kernel
theorem d2_15 : decode prog_5_method_6_code 15 = .ok (.iload_n 0, 1) := by decide +kernel
theorem d2_16 : decode prog_5_method_6_code 16 = .ok (.bipush 8, 2) := by decide +kernel
theorem d2_18 : decode prog_5_method_6_code 18 = .ok (.if_icmp .ne 7, 3) := by decide +kernel
theorem d2_25 : decode prog_5_method_6_code 25 = .ok (.iconst 0, 1) := by decide +kernel
theorem ef_2 (p0 : Int32) : ∀ m : MethodId, entryFrame m #[(.int p0)] 1 = mkF m 0 #[.val (.int p0)] [] := by intro m; first | (simp [entryFrame, mkF, argsToLocals, Value.category]; done) | rfl
def F_complete (p0 : Int32) : Int32 :=
  let d146 : Int32 := (if p0 = (2 : Int32) then (1 : Int32) else (if p0 = (3 : Int32) then (1 : Int32) else (if p0 = (5 : Int32) then (1 : Int32) else (if p0 = (8 : Int32) then (1 : Int32) else (0 : Int32)))))
  (nar .boolean d146)
set_option maxRecDepth 65536 in
set_option maxHeartbeats 40000000 in
theorem rm2 (l : Launch) (Z : State) (az : Array Value) (hw : ∀ d ∈ tables_1, d.before az Z = true) (ws : List Jvm.Cond) (p0 : Int32) (h0 : Heap) :
    Met l (⟨"com/example/centime/centime/DecimalText", "complete", "(I)Z"⟩ : MethodName) prog_5_method_6_code 1 (some .boolean) ws ({ frames := 0, cells := 0, slots := 0, locals := 0 } : Room) Z #[(.int p0)] h0 (fun v h' L => v = some (Value.int (F_complete p0)) ∧ h' = h0 ∧ L = []) := by
  refine enter (plainFor_of_name pn_0) (ef_2 p0) ?_
  intro p e s m below meth c T0 kc kn Q hkc hkn hQ K' X0 e0
  have K : Fx p s m meth c prog_5_method_6_code 1 "com/example/centime/centime/DecimalText" "complete" (some .boolean) Z := K'
  refine k_iloadN K X0 d2_0 rfl (q := 1) rfl ?_
  refine k_iconst K X0 d2_1 (v := (2 : Int32)) rfl (q := 2) rfl ?_
  have J147 : ∀ (d146 : Int32), (if p0 = (2 : Int32) then (1 : Int32) else (if p0 = (3 : Int32) then (1 : Int32) else (if p0 = (5 : Int32) then (1 : Int32) else (if p0 = (8 : Int32) then (1 : Int32) else (0 : Int32))))) = d146 → Run p e below s kc kn Q T0 (mkF m 26 #[.val (.int p0)] [(.int d146)]) := by
    intro d146 hv_d146
    exact k_retz K X0 e0 d2_26 (Nat.le_trans (by decide) hkc) (Nat.le_trans (by decide) hkn) (hQ _ _ _ ⟨(by show some (Value.int (nar .boolean d146)) = some (Value.int (F_complete p0)); simp only [F_complete, hv_d146]), rfl, rfl⟩)
  refine k_icmp_eq K X0 d2_2 (by decide) (q := 21) rfl (q' := 5) rfl ?_ ?_
  · intro hc148
    refine k_iconst K X0 d2_21 (v := (1 : Int32)) rfl (q := 22) rfl ?_
    refine k_goto K X0 d2_22 (by decide) (q := 26) rfl ?_
    exact J147 _ (by first | rfl | (simp only [if_pos hc148]))
  · intro hc148
    refine k_iloadN K X0 d2_5 rfl (q := 6) rfl ?_
    refine k_iconst K X0 d2_6 (v := (3 : Int32)) rfl (q := 7) rfl ?_
    refine k_icmp_eq K X0 d2_7 (by decide) (q := 21) rfl (q' := 10) rfl ?_ ?_
    · intro hc149
      refine k_iconst K X0 d2_21 (v := (1 : Int32)) rfl (q := 22) rfl ?_
      refine k_goto K X0 d2_22 (by decide) (q := 26) rfl ?_
      exact J147 _ (by first | rfl | (simp only [if_neg hc148, if_pos hc149]))
    · intro hc149
      refine k_iloadN K X0 d2_10 rfl (q := 11) rfl ?_
      refine k_iconst K X0 d2_11 (v := (5 : Int32)) rfl (q := 12) rfl ?_
      refine k_icmp_eq K X0 d2_12 (by decide) (q := 21) rfl (q' := 15) rfl ?_ ?_
      · intro hc150
        refine k_iconst K X0 d2_21 (v := (1 : Int32)) rfl (q := 22) rfl ?_
        refine k_goto K X0 d2_22 (by decide) (q := 26) rfl ?_
        exact J147 _ (by first | rfl | (simp only [if_neg hc148, if_neg hc149, if_pos hc150]))
      · intro hc150
        refine k_iloadN K X0 d2_15 rfl (q := 16) rfl ?_
        refine k_bipush K X0 d2_16 (v := (8 : Int32)) rfl (q := 18) rfl ?_
        refine k_icmp_ne K X0 d2_18 (by decide) (q := 25) rfl (q' := 21) rfl ?_ ?_
        · intro hc151
          refine k_iconst K X0 d2_25 (v := (0 : Int32)) rfl (q := 26) rfl ?_
          exact J147 _ (by first | rfl | (simp only [if_neg hc148, if_neg hc149, if_neg hc150, if_neg hc151]))
        · intro hc151
          refine k_iconst K X0 d2_21 (v := (1 : Int32)) rfl (q := 22) rfl ?_
          refine k_goto K X0 d2_22 (by decide) (q := 26) rfl ?_
          exact J147 _ (by first | rfl | (simp only [if_neg hc148, if_neg hc149, if_neg hc150, if_pos hc151]))
theorem pd_0 : parseMethodDescriptor "(IC)I" = some ⟨[.int, .char], some .int⟩ := by decide +kernel
theorem pd_1 : parseMethodDescriptor "(I)Z" = some ⟨[.int], some .boolean⟩ := by decide +kernel
theorem ef_0 (p0 : Int32) (p1 : Int32) (p2 : Int32) : ∀ m : MethodId, entryFrame m #[(.int p0), (.int p1), (.int p2)] maxLocals = mkF m 0 #[.val (.int p0), .val (.int p1), .val (.int p2), .unset, .unset, .unset, .unset, .unset, .unset, .unset, .unset, .unset, .unset] [] := by intro m; first | (simp [entryFrame, mkF, argsToLocals, Value.category, maxLocals]; done) | rfl
theorem pn_1 : plainName "com/example/centime/centime/DecimalTextCompletePinLaw" = true := by first | (simp [plainName, overriddenIn]; done) | decide +kernel
def F_law (p0 : Int32) (p1 : Int32) (p2 : Int32) : Int32 :=
  let v152 : Int32 := (((p0 &&& (2147483647 : Int32)) % (10 : Int32)) - (1 : Int32))
  let d154 : Int32 := (if (p1 &&& (1 : Int32)) = (0 : Int32) then (0 : Int32) else (1 : Int32))
  let v156 : Int32 := (ushrI p1 (1 : Int32))
  let d158 : Int32 := (if d154 = (0 : Int32) then (i2c (v156 &&& (65535 : Int32))) else (i2c ((48 : Int32) + (v156 % (10 : Int32)))))
  let v163 : Int32 := (F_after v152 d158)
  let d166 : Int32 := (if d158 < (48 : Int32) then (0 : Int32) else (if (57 : Int32) < d158 then (0 : Int32) else (1 : Int32)))
  let d173 : Int32 := (if d166 = (0 : Int32) then (0 : Int32) else (if v163 = (-1 : Int32) then (0 : Int32) else (1 : Int32)))
  let d176 : Int32 := (if (F_complete v163) = d173 then (1 : Int32) else (0 : Int32))
  let d183 : Int32 := (if p2 < (-1 : Int32) then (1 : Int32) else (if (8 : Int32) < p2 then (1 : Int32) else (0 : Int32)))
  let d190 : Int32 := (if d183 = (0 : Int32) then (1 : Int32) else (if (F_complete p2) = (0 : Int32) then (1 : Int32) else (0 : Int32)))
  let d199 : Int32 := (if d176 = (0 : Int32) then (0 : Int32) else (if d190 = (0 : Int32) then (0 : Int32) else (1 : Int32)))
  (nar .boolean d199)
set_option maxRecDepth 65536 in
set_option maxHeartbeats 40000000 in
theorem rm0 (l : Launch) (Z : State) (az : Array Value) (hw : ∀ d ∈ tables_1, d.before az Z = true) (ws : List Jvm.Cond) (p0 : Int32) (p1 : Int32) (p2 : Int32) (h0 : Heap) (n0 : Nat) (Z0 : n0 ≤ h0.size) :
    Met l x code maxLocals ret ws room_1 Z #[(.int p0), (.int p1), (.int p2)] h0 (fun v h' L => v = some (Value.int (F_law p0 p1 p2)) ∧ Fr n0 L) := by
  refine enter (plainFor_of_name pn_1) (ef_0 p0 p1 p2) ?_
  intro p e s m below meth c T0 kc kn Q hkc hkn hQ K' X0 e0
  have K : Fx p s m meth c code 13 "com/example/centime/centime/DecimalTextCompletePinLaw" "law" (some .boolean) Z := K'
  have N0 := Fr.nil n0
  have K0 : Keep h0 h0 [] := Keep.refl _ _
  refine k_iloadN K X0 at_0 rfl (q := 1) rfl ?_
  refine k_ldc K X0 at_1 (wd hw 0 rfl) (q := 3) rfl ?_
  refine k_iand K X0 at_3 (q := 4) rfl ?_
  refine k_bipush K X0 at_4 (v := (10 : Int32)) rfl (q := 6) rfl ?_
  refine k_irem K X0 at_6 (by decide) (q := 7) rfl ?_
  refine k_iconst K X0 at_7 (v := (1 : Int32)) rfl (q := 8) rfl ?_
  refine k_isub K X0 at_8 (q := 9) rfl ?_
  obtain ⟨v152, hv_v152⟩ : ∃ z : Int32, (((p0 &&& (2147483647 : Int32)) % (10 : Int32)) - (1 : Int32)) = z := ⟨_, rfl⟩
  refine k_istoreN K X0 at_9 hv_v152 (Ls' := #[.val (.int p0), .val (.int p1), .val (.int p2), .val (.int v152), .unset, .unset, .unset, .unset, .unset, .unset, .unset, .unset, .unset]) rfl (q := 10) rfl ?_
  refine k_iloadN K X0 at_10 rfl (q := 11) rfl ?_
  refine k_iconst K X0 at_11 (v := (1 : Int32)) rfl (q := 12) rfl ?_
  refine k_iand K X0 at_12 (q := 13) rfl ?_
  have J155 : ∀ (d154 : Int32), (if (p1 &&& (1 : Int32)) = (0 : Int32) then (0 : Int32) else (1 : Int32)) = d154 → Run p e below s kc kn Q T0 (mkF m 21 #[.val (.int p0), .val (.int p1), .val (.int p2), .val (.int v152), .unset, .unset, .unset, .unset, .unset, .unset, .unset, .unset, .unset] [(.int d154)]) := by
    intro d154 hv_d154
    refine k_istore K X0 at_21 rfl (Ls' := #[.val (.int p0), .val (.int p1), .val (.int p2), .val (.int v152), .val (.int d154), .unset, .unset, .unset, .unset, .unset, .unset, .unset, .unset]) rfl (q := 23) rfl ?_
    refine k_iloadN K X0 at_23 rfl (q := 24) rfl ?_
    refine k_iconst K X0 at_24 (v := (1 : Int32)) rfl (q := 25) rfl ?_
    refine k_iushr K X0 at_25 (q := 26) rfl ?_
    obtain ⟨v156, hv_v156⟩ : ∃ z : Int32, (ushrI p1 (1 : Int32)) = z := ⟨_, rfl⟩
    refine k_istore K X0 at_26 hv_v156 (Ls' := #[.val (.int p0), .val (.int p1), .val (.int p2), .val (.int v152), .val (.int d154), .val (.int v156), .unset, .unset, .unset, .unset, .unset, .unset, .unset]) rfl (q := 28) rfl ?_
    refine k_iload K X0 at_28 rfl (q := 30) rfl ?_
    have J159 : ∀ (d158 : Int32), (if d154 = (0 : Int32) then (i2c (v156 &&& (65535 : Int32))) else (i2c ((48 : Int32) + (v156 % (10 : Int32))))) = d158 → Run p e below s kc kn Q T0 (mkF m 51 #[.val (.int p0), .val (.int p1), .val (.int p2), .val (.int v152), .val (.int d154), .val (.int v156), .unset, .unset, .unset, .unset, .unset, .unset, .unset] [(.int d158)]) := by
      intro d158 hv_d158
      refine k_istore K X0 at_51 rfl (Ls' := #[.val (.int p0), .val (.int p1), .val (.int p2), .val (.int v152), .val (.int d154), .val (.int v156), .val (.int d158), .unset, .unset, .unset, .unset, .unset, .unset]) rfl (q := 53) rfl ?_
      refine k_iloadN K X0 at_53 rfl (q := 54) rfl ?_
      refine k_iload K X0 at_54 rfl (q := 56) rfl ?_
      refine k_staticP K X0 e0 at_56 (wd hw 1 rfl) (wd hw 2 rfl) (wd hw 3 rfl) (wd hw 4 rfl) (by decide) (rm1 l Z az hw [] v152 d158 h0) (W := 0) (by decide) (by decide) (by decide) (by decide) rfl pd_0 (argsL := [(.int v152), (.int d158)]) (rest := []) rfl rfl rfl (Nat.le_of_eq rfl) (q := 59) rfl ?_
      intro T160 X161 e162
      obtain ⟨v163, hv_v163⟩ : ∃ z : Int32, (F_after v152 d158) = z := ⟨_, rfl⟩
      refine k_istore K X161 at_59 hv_v163 (Ls' := #[.val (.int p0), .val (.int p1), .val (.int p2), .val (.int v152), .val (.int d154), .val (.int v156), .val (.int d158), .val (.int v163), .unset, .unset, .unset, .unset, .unset]) rfl (q := 61) rfl ?_
      refine k_iload K X161 at_61 rfl (q := 63) rfl ?_
      refine k_bipush K X161 at_63 (v := (48 : Int32)) rfl (q := 65) rfl ?_
      have J167 : ∀ (d166 : Int32), (if d158 < (48 : Int32) then (0 : Int32) else (if (57 : Int32) < d158 then (0 : Int32) else (1 : Int32))) = d166 → Run p e below s kc kn Q T160 (mkF m 80 #[.val (.int p0), .val (.int p1), .val (.int p2), .val (.int v152), .val (.int d154), .val (.int v156), .val (.int d158), .val (.int v163), .unset, .unset, .unset, .unset, .unset] [(.int d166)]) := by
        intro d166 hv_d166
        refine k_istore K X161 at_80 rfl (Ls' := #[.val (.int p0), .val (.int p1), .val (.int p2), .val (.int v152), .val (.int d154), .val (.int v156), .val (.int d158), .val (.int v163), .val (.int d166), .unset, .unset, .unset, .unset]) rfl (q := 82) rfl ?_
        refine k_iload K X161 at_82 rfl (q := 84) rfl ?_
        refine k_staticP K X161 e162 at_84 (wd hw 5 rfl) (wd hw 6 rfl) (wd hw 3 rfl) (wd hw 7 rfl) (by decide) (rm2 l Z az hw [] v163 h0) (W := 0) (by decide) (by decide) (by decide) (by decide) rfl pd_1 (argsL := [(.int v163)]) (rest := []) rfl rfl rfl (Nat.le_of_eq rfl) (q := 87) rfl ?_
        intro T168 X169 e170
        refine k_iload K X169 at_87 rfl (q := 89) rfl ?_
        have J174 : ∀ (d173 : Int32), (if d166 = (0 : Int32) then (0 : Int32) else (if v163 = (-1 : Int32) then (0 : Int32) else (1 : Int32))) = d173 → Run p e below s kc kn Q T168 (mkF m 103 #[.val (.int p0), .val (.int p1), .val (.int p2), .val (.int v152), .val (.int d154), .val (.int v156), .val (.int d158), .val (.int v163), .val (.int d166), .unset, .unset, .unset, .unset] [(.int d173), (.int (F_complete v163))]) := by
          intro d173 hv_d173
          have J177 : ∀ (d176 : Int32), (if (F_complete v163) = d173 then (1 : Int32) else (0 : Int32)) = d176 → Run p e below s kc kn Q T168 (mkF m 111 #[.val (.int p0), .val (.int p1), .val (.int p2), .val (.int v152), .val (.int d154), .val (.int v156), .val (.int d158), .val (.int v163), .val (.int d166), .unset, .unset, .unset, .unset] [(.int d176)]) := by
            intro d176 hv_d176
            refine k_istore K X169 at_111 rfl (Ls' := #[.val (.int p0), .val (.int p1), .val (.int p2), .val (.int v152), .val (.int d154), .val (.int v156), .val (.int d158), .val (.int v163), .val (.int d166), .val (.int d176), .unset, .unset, .unset]) rfl (q := 113) rfl ?_
            refine k_iconst K X169 at_113 (v := (0 : Int32)) rfl (q := 114) rfl ?_
            refine k_staticP K X169 e170 at_114 (wd hw 5 rfl) (wd hw 6 rfl) (wd hw 3 rfl) (wd hw 7 rfl) (by decide) (rm2 l Z az hw [] (0 : Int32) h0) (W := 0) (by decide) (by decide) (by decide) (by decide) rfl pd_1 (argsL := [(.int (0 : Int32))]) (rest := []) rfl rfl rfl (Nat.le_of_eq rfl) (q := 117) rfl ?_
            intro T178 X179 e180
            refine k_nameI (v := (0 : Int32)) (by decide +kernel) ?_
            refine k_if_ne_n K X179 at_117 (by decide) (q := 120) rfl ?_
            refine k_iconst K X179 at_120 (v := (1 : Int32)) rfl (q := 121) rfl ?_
            refine k_goto K X179 at_121 (by decide) (q := 125) rfl ?_
            refine k_istore K X179 at_125 rfl (Ls' := #[.val (.int p0), .val (.int p1), .val (.int p2), .val (.int v152), .val (.int d154), .val (.int v156), .val (.int d158), .val (.int v163), .val (.int d166), .val (.int d176), .val (.int (1 : Int32)), .unset, .unset]) rfl (q := 127) rfl ?_
            refine k_iloadN K X179 at_127 rfl (q := 128) rfl ?_
            refine k_iconst K X179 at_128 (v := (-1 : Int32)) rfl (q := 129) rfl ?_
            have J184 : ∀ (d183 : Int32), (if p2 < (-1 : Int32) then (1 : Int32) else (if (8 : Int32) < p2 then (1 : Int32) else (0 : Int32))) = d183 → Run p e below s kc kn Q T178 (mkF m 143 #[.val (.int p0), .val (.int p1), .val (.int p2), .val (.int v152), .val (.int d154), .val (.int v156), .val (.int d158), .val (.int v163), .val (.int d166), .val (.int d176), .val (.int (1 : Int32)), .unset, .unset] [(.int d183)]) := by
              intro d183 hv_d183
              refine k_istore K X179 at_143 rfl (Ls' := #[.val (.int p0), .val (.int p1), .val (.int p2), .val (.int v152), .val (.int d154), .val (.int v156), .val (.int d158), .val (.int v163), .val (.int d166), .val (.int d176), .val (.int (1 : Int32)), .val (.int d183), .unset]) rfl (q := 145) rfl ?_
              refine k_iload K X179 at_145 rfl (q := 147) rfl ?_
              have J191 : ∀ (T192 : State) (Lc195 : List Loc), Stand p l e room_1 s m #[(.int p0), (.int p1), (.int p2)] below meth c T192 Lc195 0 0 → Fr n0 Lc195 → T192.heap = h0 → ∀ (d190 : Int32), (if d183 = (0 : Int32) then (1 : Int32) else (if (F_complete p2) = (0 : Int32) then (1 : Int32) else (0 : Int32))) = d190 → Run p e below s kc kn Q T192 (mkF m 162 #[.val (.int p0), .val (.int p1), .val (.int p2), .val (.int v152), .val (.int d154), .val (.int v156), .val (.int d158), .val (.int v163), .val (.int d166), .val (.int d176), .val (.int (1 : Int32)), .val (.int d183), .unset] [(.int d190)]) := by
                intro T192 Lc195 X193 N196 e194 d190 hv_d190
                refine k_istore K X193 at_162 rfl (Ls' := #[.val (.int p0), .val (.int p1), .val (.int p2), .val (.int v152), .val (.int d154), .val (.int v156), .val (.int d158), .val (.int v163), .val (.int d166), .val (.int d176), .val (.int (1 : Int32)), .val (.int d183), .val (.int d190)]) rfl (q := 164) rfl ?_
                refine k_iload K X193 at_164 rfl (q := 166) rfl ?_
                have J200 : ∀ (d199 : Int32), (if d176 = (0 : Int32) then (0 : Int32) else (if d190 = (0 : Int32) then (0 : Int32) else (1 : Int32))) = d199 → Run p e below s kc kn Q T192 (mkF m 184 #[.val (.int p0), .val (.int p1), .val (.int p2), .val (.int v152), .val (.int d154), .val (.int v156), .val (.int d158), .val (.int v163), .val (.int d166), .val (.int d176), .val (.int (1 : Int32)), .val (.int d183), .val (.int d190)] [(.int d199)]) := by
                  intro d199 hv_d199
                  exact k_retz K X193 e194 at_184 (Nat.le_trans (by decide) hkc) (Nat.le_trans (by decide) hkn) (hQ _ _ _ ⟨(by show some (Value.int (nar .boolean d199)) = some (Value.int (F_law p0 p1 p2)); simp only [F_law, hv_v152, hv_d154, hv_v156, hv_d158, hv_v163, hv_d166, hv_d173, hv_d176, hv_d183, hv_d190, hv_d199]), N196⟩)
                refine k_if_eq K X193 at_166 (by decide) (q := 183) rfl (q' := 169) rfl ?_ ?_
                · intro hc201
                  refine k_iconst K X193 at_183 (v := (0 : Int32)) rfl (q := 184) rfl ?_
                  exact J200 _ (by first | rfl | (simp only [if_pos hc201]))
                · intro hc201
                  refine k_iload K X193 at_169 rfl (q := 171) rfl ?_
                  refine k_if_eq_n K X193 at_171 (by decide) (q := 174) rfl ?_
                  refine k_iload K X193 at_174 rfl (q := 176) rfl ?_
                  refine k_if_eq K X193 at_176 (by decide) (q := 183) rfl (q' := 179) rfl ?_ ?_
                  · intro hc202
                    refine k_iconst K X193 at_183 (v := (0 : Int32)) rfl (q := 184) rfl ?_
                    exact J200 _ (by first | rfl | (simp only [if_neg hc201, if_pos hc202]))
                  · intro hc202
                    refine k_iconst K X193 at_179 (v := (1 : Int32)) rfl (q := 180) rfl ?_
                    refine k_goto K X193 at_180 (by decide) (q := 184) rfl ?_
                    exact J200 _ (by first | rfl | (simp only [if_neg hc201, if_neg hc202]))
              refine k_if_eq K X179 at_147 (by decide) (q := 157) rfl (q' := 150) rfl ?_ ?_
              · intro hc203
                refine k_iconst K X179 at_157 (v := (1 : Int32)) rfl (q := 158) rfl ?_
                refine k_goto K X179 at_158 (by decide) (q := 162) rfl ?_
                exact J191 T178 _ X179 N0 e180 _ (by first | rfl | (simp only [if_pos hc203]))
              · intro hc203
                refine k_iloadN K X179 at_150 rfl (q := 151) rfl ?_
                refine k_staticP K X179 e180 at_151 (wd hw 5 rfl) (wd hw 6 rfl) (wd hw 3 rfl) (wd hw 7 rfl) (by decide) (rm2 l Z az hw [] p2 h0) (W := 0) (by decide) (by decide) (by decide) (by decide) rfl pd_1 (argsL := [(.int p2)]) (rest := []) rfl rfl rfl (Nat.le_of_eq rfl) (q := 154) rfl ?_
                intro T204 X205 e206
                refine k_if_ne K X205 at_154 (by decide) (q := 161) rfl (q' := 157) rfl ?_ ?_
                · intro hc207
                  refine k_iconst K X205 at_161 (v := (0 : Int32)) rfl (q := 162) rfl ?_
                  exact J191 T204 _ X205 N0 e206 _ (by first | rfl | (simp only [if_neg hc203, if_neg hc207]))
                · intro hc207
                  refine k_iconst K X205 at_157 (v := (1 : Int32)) rfl (q := 158) rfl ?_
                  refine k_goto K X205 at_158 (by decide) (q := 162) rfl ?_
                  exact J191 T204 _ X205 N0 e206 _ (by first | rfl | (simp only [if_neg hc203, if_pos hc207]))
            refine k_icmp_lt K X179 at_129 (by decide) (q := 138) rfl (q' := 132) rfl ?_ ?_
            · intro hc208
              refine k_iconst K X179 at_138 (v := (1 : Int32)) rfl (q := 139) rfl ?_
              refine k_goto K X179 at_139 (by decide) (q := 143) rfl ?_
              exact J184 _ (by first | rfl | (simp only [if_pos hc208]))
            · intro hc208
              refine k_iloadN K X179 at_132 rfl (q := 133) rfl ?_
              refine k_bipush K X179 at_133 (v := (8 : Int32)) rfl (q := 135) rfl ?_
              refine k_icmp_le K X179 at_135 (by decide) (q := 142) rfl (q' := 138) rfl ?_ ?_
              · intro hc209
                refine k_iconst K X179 at_142 (v := (0 : Int32)) rfl (q := 143) rfl ?_
                exact J184 _ (by first | rfl | (simp only [if_neg hc208, if_neg hc209]))
              · intro hc209
                refine k_iconst K X179 at_138 (v := (1 : Int32)) rfl (q := 139) rfl ?_
                refine k_goto K X179 at_139 (by decide) (q := 143) rfl ?_
                exact J184 _ (by first | rfl | (simp only [if_neg hc208, if_pos hc209]))
          refine k_icmp_ne K X169 at_103 (by decide) (q := 110) rfl (q' := 106) rfl ?_ ?_
          · intro hc210
            refine k_iconst K X169 at_110 (v := (0 : Int32)) rfl (q := 111) rfl ?_
            exact J177 _ (by first | rfl | (simp only [if_neg hc210]))
          · intro hc210
            refine k_iconst K X169 at_106 (v := (1 : Int32)) rfl (q := 107) rfl ?_
            refine k_goto K X169 at_107 (by decide) (q := 111) rfl ?_
            exact J177 _ (by first | rfl | (simp only [if_pos hc210]))
        refine k_if_eq K X169 at_89 (by decide) (q := 102) rfl (q' := 92) rfl ?_ ?_
        · intro hc211
          refine k_iconst K X169 at_102 (v := (0 : Int32)) rfl (q := 103) rfl ?_
          exact J174 _ (by first | rfl | (simp only [if_pos hc211]))
        · intro hc211
          refine k_iload K X169 at_92 rfl (q := 94) rfl ?_
          refine k_iconst K X169 at_94 (v := (-1 : Int32)) rfl (q := 95) rfl ?_
          refine k_icmp_eq K X169 at_95 (by decide) (q := 102) rfl (q' := 98) rfl ?_ ?_
          · intro hc212
            refine k_iconst K X169 at_102 (v := (0 : Int32)) rfl (q := 103) rfl ?_
            exact J174 _ (by first | rfl | (simp only [if_neg hc211, if_pos hc212]))
          · intro hc212
            refine k_iconst K X169 at_98 (v := (1 : Int32)) rfl (q := 99) rfl ?_
            refine k_goto K X169 at_99 (by decide) (q := 103) rfl ?_
            exact J174 _ (by first | rfl | (simp only [if_neg hc211, if_neg hc212]))
      refine k_icmp_lt K X161 at_65 (by decide) (q := 79) rfl (q' := 68) rfl ?_ ?_
      · intro hc213
        refine k_iconst K X161 at_79 (v := (0 : Int32)) rfl (q := 80) rfl ?_
        exact J167 _ (by first | rfl | (simp only [if_pos hc213]))
      · intro hc213
        refine k_iload K X161 at_68 rfl (q := 70) rfl ?_
        refine k_bipush K X161 at_70 (v := (57 : Int32)) rfl (q := 72) rfl ?_
        refine k_icmp_gt K X161 at_72 (by decide) (q := 79) rfl (q' := 75) rfl ?_ ?_
        · intro hc214
          refine k_iconst K X161 at_79 (v := (0 : Int32)) rfl (q := 80) rfl ?_
          exact J167 _ (by first | rfl | (simp only [if_neg hc213, if_pos hc214]))
        · intro hc214
          refine k_iconst K X161 at_75 (v := (1 : Int32)) rfl (q := 76) rfl ?_
          refine k_goto K X161 at_76 (by decide) (q := 80) rfl ?_
          exact J167 _ (by first | rfl | (simp only [if_neg hc213, if_neg hc214]))
    refine k_if_eq K X0 at_30 (by decide) (q := 45) rfl (q' := 33) rfl ?_ ?_
    · intro hc215
      refine k_iload K X0 at_45 rfl (q := 47) rfl ?_
      refine k_ldc K X0 at_47 (wd hw 8 rfl) (q := 49) rfl ?_
      refine k_iand K X0 at_49 (q := 50) rfl ?_
      refine k_i2c K X0 at_50 (q := 51) rfl ?_
      exact J159 _ (by first | rfl | (simp only [if_pos hc215]))
    · intro hc215
      refine k_bipush K X0 at_33 (v := (48 : Int32)) rfl (q := 35) rfl ?_
      refine k_iload K X0 at_35 rfl (q := 37) rfl ?_
      refine k_bipush K X0 at_37 (v := (10 : Int32)) rfl (q := 39) rfl ?_
      refine k_irem K X0 at_39 (by decide) (q := 40) rfl ?_
      refine k_iadd K X0 at_40 (q := 41) rfl ?_
      refine k_i2c K X0 at_41 (q := 42) rfl ?_
      refine k_goto K X0 at_42 (by decide) (q := 51) rfl ?_
      exact J159 _ (by first | rfl | (simp only [if_neg hc215]))
  refine k_if_eq K X0 at_13 (by decide) (q := 20) rfl (q' := 16) rfl ?_ ?_
  · intro hc216
    refine k_iconst K X0 at_20 (v := (0 : Int32)) rfl (q := 21) rfl ?_
    exact J155 _ (by first | rfl | (simp only [if_pos hc216]))
  · intro hc216
    refine k_iconst K X0 at_16 (v := (1 : Int32)) rfl (q := 17) rfl ?_
    refine k_goto K X0 at_17 (by decide) (q := 21) rfl ?_
    exact J155 _ (by first | rfl | (simp only [if_neg hc216]))
theorem own_eqI {x y : Int32} : x = y ↔ x.toInt = y.toInt := Int32.toInt_inj.symm
theorem own_eqJ {x y : Int64} : x = y ↔ x.toInt = y.toInt := Int64.toInt_inj.symm
theorem own_ltI {x y : Int32} : x < y ↔ x.toInt < y.toInt := Int32.lt_iff_toInt_lt
theorem own_ltJ {x y : Int64} : x < y ↔ x.toInt < y.toInt := Int64.lt_iff_toInt_lt
theorem own_enum (t : Int32) (h1 : -1 ≤ t.toInt) (h2 : t.toInt ≤ 8) : t = (-1 : Int32) ∨ t = (0 : Int32) ∨ t = (1 : Int32) ∨ t = (2 : Int32) ∨ t = (3 : Int32) ∨ t = (4 : Int32) ∨ t = (5 : Int32) ∨ t = (6 : Int32) ∨ t = (7 : Int32) ∨ t = (8 : Int32) := by
  have h : t.toInt = -1 ∨ t.toInt = 0 ∨ t.toInt = 1 ∨ t.toInt = 2 ∨ t.toInt = 3 ∨ t.toInt = 4 ∨ t.toInt = 5 ∨ t.toInt = 6 ∨ t.toInt = 7 ∨ t.toInt = 8 := by omega
  rcases h with h | h | h | h | h | h | h | h | h | h
  · exact Or.inl (Int32.toInt_inj.mp (h.trans (by decide)))
  · exact Or.inr (Or.inl (Int32.toInt_inj.mp (h.trans (by decide))))
  · exact Or.inr (Or.inr (Or.inl (Int32.toInt_inj.mp (h.trans (by decide)))))
  · exact Or.inr (Or.inr (Or.inr (Or.inl (Int32.toInt_inj.mp (h.trans (by decide))))))
  · exact Or.inr (Or.inr (Or.inr (Or.inr (Or.inl (Int32.toInt_inj.mp (h.trans (by decide)))))))
  · exact Or.inr (Or.inr (Or.inr (Or.inr (Or.inr (Or.inl (Int32.toInt_inj.mp (h.trans (by decide))))))))
  · exact Or.inr (Or.inr (Or.inr (Or.inr (Or.inr (Or.inr (Or.inl (Int32.toInt_inj.mp (h.trans (by decide)))))))))
  · exact Or.inr (Or.inr (Or.inr (Or.inr (Or.inr (Or.inr (Or.inr (Or.inl (Int32.toInt_inj.mp (h.trans (by decide))))))))))
  · exact Or.inr (Or.inr (Or.inr (Or.inr (Or.inr (Or.inr (Or.inr (Or.inr (Or.inl (Int32.toInt_inj.mp (h.trans (by decide)))))))))))
  · exact Or.inr (Or.inr (Or.inr (Or.inr (Or.inr (Or.inr (Or.inr (Or.inr (Or.inr (Int32.toInt_inj.mp (h.trans (by decide)))))))))))
theorem own_rng (p0 : Int32) : -1 ≤ ((p0 &&& 2147483647) % 10 - 1).toInt ∧ ((p0 &&& 2147483647) % 10 - 1).toInt ≤ 8 := by
  have h1 := (c_and p0 2147483647 (by decide)).1
  have h2 := (c_irem (p0 &&& 2147483647) 10 10 rfl).1 h1
  have h3 := c_isub ((p0 &&& 2147483647) % 10) 1
  have h4 := rng32 ((p0 &&& 2147483647) % 10 - 1)
  have e : (1 : Int32).toInt = 1 := rfl
  omega
theorem own_c (t c : Int32) (h : t = -1 ∨ t = 0 ∨ t = 1 ∨ t = 2 ∨ t = 3 ∨ t = 4 ∨ t = 5 ∨ t = 6 ∨ t = 7 ∨ t = 8) :
    F_complete (F_after t c) = (if (if c < 48 then (0 : Int32) else if 57 < c then 0 else 1) = 0 then 0 else if F_after t c = -1 then 0 else 1) := by
  by_cases n43 : c = 43
  · subst n43; rcases h with rfl | rfl | rfl | rfl | rfl | rfl | rfl | rfl | rfl | rfl <;> decide
  by_cases n45 : c = 45
  · subst n45; rcases h with rfl | rfl | rfl | rfl | rfl | rfl | rfl | rfl | rfl | rfl <;> decide
  by_cases n46 : c = 46
  · subst n46; rcases h with rfl | rfl | rfl | rfl | rfl | rfl | rfl | rfl | rfl | rfl <;> decide
  by_cases n48 : c = 48
  · subst n48; rcases h with rfl | rfl | rfl | rfl | rfl | rfl | rfl | rfl | rfl | rfl <;> decide
  by_cases n69 : c = 69
  · subst n69; rcases h with rfl | rfl | rfl | rfl | rfl | rfl | rfl | rfl | rfl | rfl <;> decide
  by_cases n101 : c = 101
  · subst n101; rcases h with rfl | rfl | rfl | rfl | rfl | rfl | rfl | rfl | rfl | rfl <;> decide
  by_cases a : c < 48
  · simp only [F_after, if_pos a, if_neg n43, if_neg n45, if_neg n46, if_neg n48, if_neg n69, if_neg n101]
    rcases h with rfl | rfl | rfl | rfl | rfl | rfl | rfl | rfl | rfl | rfl <;> decide
  · by_cases b : 57 < c
    · simp only [F_after, if_neg a, if_pos b, if_neg n43, if_neg n45, if_neg n46, if_neg n48, if_neg n69, if_neg n101]
      rcases h with rfl | rfl | rfl | rfl | rfl | rfl | rfl | rfl | rfl | rfl <;> decide
    · simp only [F_after, if_neg a, if_neg b, if_neg n43, if_neg n45, if_neg n46, if_neg n48, if_neg n69, if_neg n101]
      rcases h with rfl | rfl | rfl | rfl | rfl | rfl | rfl | rfl | rfl | rfl <;> decide
theorem own_out (s : Int32) (h : s < -1 ∨ 8 < s) : F_complete s = 0 := by
  have h' : s.toInt < -1 ∨ 8 < s.toInt := h.imp own_ltI.mp own_ltI.mp
  have n2 : ¬ s = 2 := fun z => by subst z; revert h'; decide
  have n3 : ¬ s = 3 := fun z => by subst z; revert h'; decide
  have n5 : ¬ s = 5 := fun z => by subst z; revert h'; decide
  have n8 : ¬ s = 8 := fun z => by subst z; revert h'; decide
  simp only [F_complete, if_neg n2, if_neg n3, if_neg n5, if_neg n8]
  decide
theorem law_eq (p0 p1 p2 : Int32) : F_law p0 p1 p2 = 1 := by
  have h := own_rng p0
  have ht := own_enum _ h.1 h.2
  have hd : (if (if p2 < (-1 : Int32) then (1 : Int32) else if 8 < p2 then 1 else 0) = 0 then (1 : Int32) else if F_complete p2 = 0 then 1 else 0) = 1 := by
    by_cases a : p2 < -1
    · rw [own_out p2 (Or.inl a)]; simp
    · by_cases b : 8 < p2
      · rw [own_out p2 (Or.inr b)]; simp
      · rw [if_neg a, if_neg b]; rfl
  simp only [F_law, own_c _ _ ht, hd, if_true]
  decide
set_option maxRecDepth 65536 in
set_option maxHeartbeats 40000000 in
theorem comes_1 {Post : Tables → Env → Array Value → State → Outcome → State → Prop} (hpost : ∀ tb e args s v u, (limb_1_1.after args s (.returned v) u = true ∧ limb_1_2.after args s (.returned v) u = true ∧ True) → FrameEnd s (.returned v) u (Jvm.fieldLocs frame_1_writes args s ++ Jvm.arrayLocs frame_1_arrays args s ++ Jvm.staticLocs frame_1_statics s) 0 0 → Post tb e args s (.returned v) u) :
    ArmFor flags0 classFile x code maxLocals ret World_1 tables_1 room_1 Calls_1 rest_1 Pre_1 Post := by
  intro l hfl _ _ p e ha hc hk s m args below hf hA hF happ hP
  obtain ⟨hcalls, hrest, hpre⟩ := hP
  obtain ⟨-, -, -, hnamed, -, -, -, hat⟩ := (Spec.applies_iff hf).mp happ
  obtain ⟨hg, hn⟩ := and_e (Cond.before_iff.mp (show (Jvm.Cond.and given_1 narrow_1).before args s = true from hpre))
  obtain ⟨gc, g0⟩ := and_e hg
  obtain ⟨ga0, g1⟩ := and_e g0
  obtain ⟨ga1, g2⟩ := and_e g1
  obtain ⟨w0, w1, w2, rfl⟩ : ∃ w0 w1 w2 : Value, args = #[w0, w1, w2] := by
    have hs : args.size = 3 := by simpa [Cond.value, given_1] using gc
    obtain ⟨L⟩ := args
    match L, hs with
    | [w0, w1, w2], _ => exact ⟨w0, w1, w2, rfl⟩
  have hw := fun d (hd : d ∈ tables_1) => atoms_spec (ws := Jvm.Cond.code x code maxLocals ret :: tables_1) hat d (List.mem_cons_of_mem _ hd)
  obtain ⟨i0, ei0⟩ := is_v ga0
  obtain rfl : w0 = (.int i0) := Option.some.inj ei0
  obtain ⟨i1, ei1⟩ := is_v ga1
  obtain rfl : w1 = (.int i1) := Option.some.inj ei1
  obtain ⟨i2, ei2⟩ := is_v g2
  obtain rfl : w2 = (.int i2) := Option.some.inj ei2
  obtain ⟨n, o, h1, h2, h3, _, L, rfl, ⟨rfl, N⟩, hq⟩ := rm0 l s _ hw tables_1 i0 i1 i2 s.heap s.heap.size (Nat.le_refl _) p e ha hc hk s m _ below hf ((Spec.applies_iff_loose hf).mp happ).1 ⟨rfl, State.Warmed39.refl s, rfl⟩ trivial
  rw [law_eq] at *
  refine ⟨n, _, h1, h2, h3, hpost _ _ _ _ _ _ ⟨Cond.after_iff.mpr rfl, Cond.after_iff.mpr (eq_i res_at (Term.int_eval (1)) rfl), trivial⟩ ⟨hq.1, hq.2.1, (hq.2.2.sift fun y hy => Or.inr (N y hy)).mono (by decide) (by decide)⟩⟩
theorem main_1_1 : Claimed_1_1 := comes_1 fun _ _ _ _ _ _ h hF => ⟨h.1, hF⟩
theorem main_1_2 : Claimed_1_2 := comes_1 fun _ _ _ _ _ _ h hF => ⟨h.2.1, hF⟩
end Jvm.Pilot.@@N@@
namespace Jvm.Pilot.@@N@@
open Jvm Jvm.ClassFile Sem Op Lib Jvm.Free Jvm.Stand Jvm.Pilot.@@N@@.Jvm.D
/-! MADE BY PROGRAM (witnessworld.py) out of the Statement's table words and the real class files: 9 classes; the members and pool entries that the words name. The judged class is class 1, her method 1. -/
namespace start1
open Jvm.ClassFile
def u (s : String) : CpInfo := .utf8 (stringToUtf16 s)
/-- a pool by its gaps: so many unusable entries, then the entry; so many at the end -/
def gap : Nat → List CpInfo → List CpInfo
  | 0, r => r
  | n + 1, r => .unusable :: gap n r
def poolList (es : List (Nat × CpInfo)) (last : Nat) : List CpInfo := es.foldr (fun e r => gap e.1 (e.2 :: r)) (gap last [])
def pool (es : List (Nat × CpInfo)) (last : Nat) : Array CpInfo := ⟨poolList es last⟩
def fileOf (pool : Array CpInfo) (this : Nat) (attrs : Array Attribute := #[]) (ms : Array MethodInfo := #[]) (fl : Nat := 33) (sup : Nat := 0) (ifs : Array Nat := #[]) (fds : Array FieldInfo := #[]) : ClassFile where
  minorVersion := 0
  majorVersion := 65
  constantPool := pool
  accessFlags := fl
  thisClass := this
  superClass := sup
  interfaces := ifs
  fields := fds
  methods := ms
  attributes := attrs
def plain (name : String) (sup : Option ClassId) : Class where
  name := name
  kind := .ordinary
  loader := none
  accessFlags := 33
  super := sup
  interfaces := #[]
  cf := none
  fields := #[]
  methods := #[]
  instanceTypes := #[]
  staticTypes := #[]
  resolved := #[]
  callSites := []
  init := .initialized
  statics := none
  mirror := none

def pool0 : Array CpInfo := pool [(5, u "<init>"), (0, u "()V"), (1, .class_ 10), (1, u "java/lang/Object")] 113

def k0m0 : Method := { name := "<init>", desc := "()V", sig := { parameters := [], returnType := none }, accessFlags := 1, code := none }
/-- java/lang/Object -/
def k0 : Class := { plain "java/lang/Object" none with
  accessFlags := 33
  interfaces := #[]
  cf := some (fileOf pool0 8 #[] #[{ accessFlags := 1, nameIndex := 5, descriptorIndex := 6, attributes := #[] }] 33 0 #[] #[])
  fields := #[]
  methods := #[k0m0]
  instanceTypes := #[]
  staticTypes := #[]
  resolved := Array.replicate 124 none
  statics := none }

def pool1 : Array CpInfo := pool [(2, .class_ 4), (1, u "java/lang/Object"), (0, u "<init>"), (0, u "()V"), (0, .integer 2147483647), (0, .integer 65535), (0, .methodref 10 11), (0, .class_ 12), (0, .nameAndType 13 14), (0, u "com/example/centime/centime/DecimalText"), (0, u "after"), (0, u "(IC)I"), (0, .methodref 10 16), (0, .nameAndType 17 18), (0, u "complete"), (0, u "(I)Z"), (0, .class_ 20), (0, u "com/example/centime/centime/DecimalTextCompletePinLaw"), (2, u "law"), (0, u "(III)Z")] 3

def k1m0 : Method := { name := "<init>", desc := "()V", sig := { parameters := [], returnType := none }, accessFlags := 1, code := none }
def k1c1 : Code := { maxStack := 3, maxLocals := 13, code := code, exceptionTable := #[], attributes := #[] }
def k1m1 : Method := { name := "law", desc := "(III)Z", sig := { parameters := [.int, .int, .int], returnType := some .boolean }, accessFlags := 9, code := some k1c1 }
/-- com/example/centime/centime/DecimalTextCompletePinLaw -/
def k1 : Class := { plain "com/example/centime/centime/DecimalTextCompletePinLaw" (some 0) with
  accessFlags := 49
  interfaces := #[]
  cf := some (fileOf pool1 19 #[] #[{ accessFlags := 1, nameIndex := 5, descriptorIndex := 6, attributes := #[] }, { accessFlags := 9, nameIndex := 23, descriptorIndex := 24, attributes := #[] }] 49 2 #[] #[])
  fields := #[]
  methods := #[k1m0, k1m1]
  instanceTypes := #[]
  staticTypes := #[]
  resolved := Array.replicate 28 none
  statics := none }

def pool2 : Array CpInfo := pool [(2, .class_ 4), (1, u "java/lang/Object"), (0, u "<init>"), (0, u "()V"), (1, .class_ 10), (1, u "com/example/centime/centime/DecimalText"), (55, u "after"), (0, u "(IC)I"), (2, u "complete"), (0, u "(I)Z"), (0, u "MAX_LENGTH"), (0, u "I"), (2, u "REFUSED"), (1, u "START"), (1, u "SIGN"), (1, u "ZERO"), (1, u "WHOLE"), (1, u "POINT"), (1, u "FRACTION"), (1, u "EXPONENT_MARK"), (1, u "EXPONENT_SIGN"), (1, u "EXPONENT")] 28

def k2m0 : Method := { name := "<init>", desc := "()V", sig := { parameters := [], returnType := none }, accessFlags := 2, code := none }
def k2c1 : Code := { maxStack := 2, maxLocals := 2, code := prog_5_method_5_code, exceptionTable := #[], attributes := #[] }
def k2m1 : Method := { name := "after", desc := "(IC)I", sig := { parameters := [.int, .char], returnType := some .int }, accessFlags := 8, code := some k2c1 }
def k2c2 : Code := { maxStack := 2, maxLocals := 1, code := prog_5_method_6_code, exceptionTable := #[], attributes := #[] }
def k2m2 : Method := { name := "complete", desc := "(I)Z", sig := { parameters := [.int], returnType := some .boolean }, accessFlags := 8, code := some k2c2 }
/-- com/example/centime/centime/DecimalText -/
def k2 : Class := { plain "com/example/centime/centime/DecimalText" (some 0) with
  accessFlags := 48
  interfaces := #[]
  cf := some (fileOf pool2 8 #[] #[{ accessFlags := 2, nameIndex := 5, descriptorIndex := 6, attributes := #[] }, { accessFlags := 8, nameIndex := 66, descriptorIndex := 67, attributes := #[] }, { accessFlags := 8, nameIndex := 70, descriptorIndex := 71, attributes := #[] }] 48 2 #[] #[{ accessFlags := 26, nameIndex := 72, descriptorIndex := 73, attributes := #[] }, { accessFlags := 24, nameIndex := 76, descriptorIndex := 73, attributes := #[] }, { accessFlags := 24, nameIndex := 78, descriptorIndex := 73, attributes := #[] }, { accessFlags := 26, nameIndex := 80, descriptorIndex := 73, attributes := #[] }, { accessFlags := 26, nameIndex := 82, descriptorIndex := 73, attributes := #[] }, { accessFlags := 26, nameIndex := 84, descriptorIndex := 73, attributes := #[] }, { accessFlags := 26, nameIndex := 86, descriptorIndex := 73, attributes := #[] }, { accessFlags := 26, nameIndex := 88, descriptorIndex := 73, attributes := #[] }, { accessFlags := 26, nameIndex := 90, descriptorIndex := 73, attributes := #[] }, { accessFlags := 26, nameIndex := 92, descriptorIndex := 73, attributes := #[] }, { accessFlags := 26, nameIndex := 94, descriptorIndex := 73, attributes := #[] }])
  fields := #[{ name := "MAX_LENGTH", type := .int, accessFlags := 26, slot := 0, constantValue := 0 }, { name := "REFUSED", type := .int, accessFlags := 24, slot := 1, constantValue := 0 }, { name := "START", type := .int, accessFlags := 24, slot := 2, constantValue := 0 }, { name := "SIGN", type := .int, accessFlags := 26, slot := 3, constantValue := 0 }, { name := "ZERO", type := .int, accessFlags := 26, slot := 4, constantValue := 0 }, { name := "WHOLE", type := .int, accessFlags := 26, slot := 5, constantValue := 0 }, { name := "POINT", type := .int, accessFlags := 26, slot := 6, constantValue := 0 }, { name := "FRACTION", type := .int, accessFlags := 26, slot := 7, constantValue := 0 }, { name := "EXPONENT_MARK", type := .int, accessFlags := 26, slot := 8, constantValue := 0 }, { name := "EXPONENT_SIGN", type := .int, accessFlags := 26, slot := 9, constantValue := 0 }, { name := "EXPONENT", type := .int, accessFlags := 26, slot := 10, constantValue := 0 }]
  methods := #[k2m0, k2m1, k2m2]
  instanceTypes := #[]
  staticTypes := #[.int, .int, .int, .int, .int, .int, .int, .int, .int, .int, .int]
  resolved := Array.replicate 123 none
  statics := none }

def pool3 : Array CpInfo := pool [(1, u "java/lang/Cloneable"), (0, .class_ 1), (0, u "java/lang/Object"), (0, .class_ 3)] 3

/-- java/lang/Cloneable -/
def k3 : Class := { plain "java/lang/Cloneable" (some 0) with
  accessFlags := 1537
  interfaces := #[]
  cf := some (fileOf pool3 2 #[] #[] 1537 4 #[] #[])
  fields := #[]
  methods := #[]
  instanceTypes := #[]
  staticTypes := #[]
  resolved := Array.replicate 8 none
  statics := none }

def pool4 : Array CpInfo := pool [(1, u "java/io/Serializable"), (0, .class_ 1), (0, u "java/lang/Object"), (0, .class_ 3)] 3

/-- java/io/Serializable -/
def k4 : Class := { plain "java/io/Serializable" (some 0) with
  accessFlags := 1537
  interfaces := #[]
  cf := some (fileOf pool4 2 #[] #[] 1537 4 #[] #[])
  fields := #[]
  methods := #[]
  instanceTypes := #[]
  staticTypes := #[]
  resolved := Array.replicate 8 none
  statics := none }

/-- the primitive byte -/
def k5 : Class := { plain "byte" none with kind := .primitive 'B', accessFlags := 0x411 }
/-- [B -/
def k6 : Class := { plain "[B" (some 0) with kind := .array 5 .byte, interfaces := #[3, 4], accessFlags := 1041 }

/-- the primitive int -/
def k7 : Class := { plain "int" none with kind := .primitive 'I', accessFlags := 0x411 }
/-- [I -/
def k8 : Class := { plain "[I" (some 0) with kind := .array 7 .int, interfaces := #[3, 4], accessFlags := 1041 }

def heap : Heap := #[]
def classes : Array Class := #[k0, k1, k2, k3, k4, k5, k6, k7, k8]
def interned : List (Array UInt16 × Addr) := []
def slotsUsed : Nat := 0
def theMethod : MethodId := ⟨1, 1⟩
def args0 : Array Value := #[.int 5, .int 7, .int 9]
def aboutOver (below : List Frame) : State where
  vm := { classes := classes, interned := interned.toArray }
  heap := heap
  slotsUsed := slotsUsed
  threads := #[{ frames := .invoking theMethod args0 :: below }]
def below0 : List Frame := [.native { method := ⟨0, 0⟩, args := #[] }]
def about1 : State := aboutOver below0
def p0 : Program := .bare "" "" ""
def e0 : Env := launch0.env 0 0 0
theorem w_frames : about1.frames = Frame.invoking theMethod args0 :: below0 := rfl
set_option maxRecDepth 65536 in
theorem w_args : argsFit about1.vm theMethod args0 = true := by decide +kernel
set_option maxRecDepth 65536 in
theorem w_heap : heapFits about1 = true := by decide +kernel
set_option maxRecDepth 65536 in
theorem w_runnable : about1.curStatus? = some .runnable := by decide +kernel
set_option maxRecDepth 65536 in
theorem w_alone : about1.alone = true := by decide +kernel
set_option maxRecDepth 65536 in
theorem w_named : about1.methodNamed? x = some theMethod := by decide +kernel
set_option maxRecDepth 65536 in
theorem w_hears : about1.hears theMethod below0 = true := by decide +kernel
set_option maxRecDepth 65536 in
theorem w_ripe : about1.ripe theMethod args0 below0 = true := by decide +kernel
theorem w_running : about1.status = .running := rfl
set_option maxRecDepth 65536 in
theorem w_room : about1.hasRoom e0.platform room_1 = true :=
  launch0.hasRoom_least _ room_1 (by decide +kernel) (by decide +kernel) (by decide +kernel) (by decide +kernel) (by decide +kernel) (by decide +kernel)
theorem allAtoms_all (ts : List Jvm.Cond) (a : Array Jvm.Value) (st : Jvm.State) : (allAtoms ts).before a st = ts.all (fun c => c.before a st) := by
  induction ts with
  | nil => rfl
  | cons c t ih =>
    show (Jvm.Cond.and c (allAtoms t)).before a st = _
    rw [Jvm.Cond.before_and, ih, List.all_cons]
def words1 : List Jvm.Cond := Jvm.Cond.code x code maxLocals ret :: tables_1
/-- a 'code' word, met by the world's own term for the bytes: nothing is compared byte by byte -/
theorem code_word {y : MethodName} {bytes : ByteArray} {mx : Nat} {rt : Option FieldType} {a : Array Value} {s : State} {m : MethodId} {meth : Method} {c : Code} (h1 : s.methodNamed? y = some m) (h2 : s.vm.method? m = some meth) (h3 : meth.code = some c) (h4 : c.code = bytes)
    (h5 : (c.maxLocals == mx && c.exceptionTable.isEmpty && decide (c.maxStack ≤ mostOperands) && decide (meth.sig.returnType = rt) && !meth.locks && decide (parseMethodDescriptor y.desc = some meth.sig)) = true) : (Jvm.Cond.code y bytes mx rt).before a s = true := by
  simp only [Bool.and_eq_true, beq_iff_eq, Bool.not_eq_true', decide_eq_true_eq] at h5
  obtain ⟨⟨⟨⟨⟨g1, g2⟩, g3⟩, g4⟩, g5⟩, g6⟩ := h5
  simp [Cond.before, Cond.holds, Cond.value, h1, h2, h3, h4, g1, g2, g3, g4, g5, g6]
def isCode : Jvm.Cond → Bool
  | .code _ _ _ _ => true
  | _ => false
theorem all_split {L : List Jvm.Cond} {P : Jvm.Cond → Bool} (h1 : L.all (fun c => isCode c || P c) = true) (h2 : ∀ c ∈ L.filter isCode, P c = true) : L.all P = true := by
  refine List.all_eq_true.mpr fun c hc => ?_
  have h := List.all_eq_true.mp h1 c hc
  rcases Bool.eq_false_or_eq_true (isCode c) with hi | hi
  · exact h2 c (List.mem_filter.mpr ⟨hc, hi⟩)
  · simpa [hi] using h
set_option maxRecDepth 65536 in
theorem w_c0 : (Jvm.Cond.code x code maxLocals ret).before args0 about1 = true := code_word (m := ⟨1, 1⟩) (meth := k1m1) (c := k1c1) (by decide +kernel) rfl rfl rfl (by decide +kernel)
set_option maxRecDepth 65536 in
theorem w_c1 : (Jvm.Cond.code ({ cls := "com/example/centime/centime/DecimalText", name := "after", desc := "(IC)I" } : Jvm.MethodName) prog_5_method_5_code (2 : Nat) (Option.some Jvm.ClassFile.FieldType.int)).before args0 about1 = true := code_word (m := ⟨2, 1⟩) (meth := k2m1) (c := k2c1) (by decide +kernel) rfl rfl rfl (by decide +kernel)
set_option maxRecDepth 65536 in
theorem w_c2 : (Jvm.Cond.code ({ cls := "com/example/centime/centime/DecimalText", name := "complete", desc := "(I)Z" } : Jvm.MethodName) prog_5_method_6_code (1 : Nat) (Option.some Jvm.ClassFile.FieldType.boolean)).before args0 about1 = true := code_word (m := ⟨2, 2⟩) (meth := k2m2) (c := k2c2) (by decide +kernel) rfl rfl rfl (by decide +kernel)
def codes1 : List Jvm.Cond := [Jvm.Cond.code x code maxLocals ret, Jvm.Cond.code ({ cls := "com/example/centime/centime/DecimalText", name := "after", desc := "(IC)I" } : Jvm.MethodName) prog_5_method_5_code (2 : Nat) (Option.some Jvm.ClassFile.FieldType.int), Jvm.Cond.code ({ cls := "com/example/centime/centime/DecimalText", name := "complete", desc := "(I)Z" } : Jvm.MethodName) prog_5_method_6_code (1 : Nat) (Option.some Jvm.ClassFile.FieldType.boolean)]
set_option maxRecDepth 65536 in
theorem codes_eq : words1.filter isCode = codes1 := rfl
theorem w_codes : ∀ c ∈ words1.filter isCode, c.before args0 about1 = true := by
  rw [codes_eq]
  intro c hc
  simp only [codes1, List.mem_cons, List.not_mem_nil, or_false] at hc
  rcases hc with rfl | rfl | rfl
  · exact w_c0
  · exact w_c1
  · exact w_c2
set_option maxRecDepth 65536 in
theorem w_t1 : words1.all (fun c => isCode c || c.before args0 about1) = true := by decide +kernel
theorem w_tables : (allAtoms (Jvm.Cond.code x code maxLocals ret :: tables_1)).before args0 about1 = true := by
  rw [allAtoms_all]
  show words1.all (fun c => c.before args0 about1) = true
  refine all_split ?_ w_codes
  rw [w_t1]
set_option maxRecDepth 65536 in
theorem w_case : (Jvm.Cond.and given_1 narrow_1).before args0 about1 = true := by decide +kernel
theorem w_applies : (headSpec (Jvm.Cond.code x code maxLocals ret :: tables_1) room_1).applies x e0.platform about1 = true :=
  (Spec.applies_iff w_frames).mpr ⟨w_running, w_runnable, w_alone, w_named, w_hears, w_ripe, w_room, w_tables⟩
theorem atStart : AtStart classFile x code maxLocals ret World_1 tables_1 room_1 Calls_1 rest_1 Pre_1 launch0 p0 e0 about1 theMethod args0 below0 :=
  ⟨lists_1, trivial, launch0.admits_env _ _ _, launch0.least_env, fairChoices_fair.cas, fairChoices_fair.clock, w_frames, w_args, w_heap, w_applies, trivial, trivial, w_case⟩
end start1
theorem witness_1 : WitnessClaimed_1 := ⟨start1.p0, start1.e0, start1.about1, start1.theMethod, start1.args0, start1.below0, start1.atStart⟩
end Jvm.Pilot.@@N@@
