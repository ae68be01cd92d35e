import JvmDerived
import JvmDerived.Pilot.@@N@@Statement
import JvmDerived.Pilot.@@N@@Code
set_option linter.unusedVariables false
set_option linter.unusedSimpArgs false
namespace Jvm.Pilot.@@N@@
open Jvm Jvm.ClassFile Sem Op Lib Jvm.Free Jvm.Stand Jvm.LawKit Jvm.RoadKit Bundle Jvm.Pilot.@@N@@.Jvm.D
section OwnKit
variable {p : Program} {l : Launch} {e : Env} {R : Room} {s : State} {m : MethodId} {args : Array Value} {below : List Frame} {meth : Method} {c : Code} {T T' : State} {locs : List Loc} {cells slots kc kn : Nat} {Q : Option Value → Heap → List Loc → Prop} {f f' : JFrame} {pc q q' : Nat} {Ls Ls' : Array Slot} {st : List Value} {Z : State} {a0 : Array Value} {h : Heap} {by' : ByteArray} {ml : Nat} {own nm : String} {ret : Option FieldType}
/-- from this state, with this frame on top, the body returns as Q says -/
def Run (p : Program) (e : Env) (below : List Frame) (s : State) (kc kn : Nat) (Q : Option Value → Heap → List Loc → Prop) (T : State) (f : JFrame) : Prop :=
  ∃ t o, Steps p.tables e below (T.setTop f) t ∧ t.status = .running ∧ Ended t below o ∧ ∃ v L, o = .returned v ∧ Q v t.heap L ∧ FrameEnd s o t L kc kn
theorem Run.by (st : ∀ t, Steps p.tables e below (T'.setTop f') t → Steps p.tables e below (T.setTop f) t) (k : Run p e below s kc kn Q T' f') : Run p e below s kc kn Q T f := by
  obtain ⟨t, o, h1, r⟩ := k
  exact ⟨t, o, st t h1, r⟩
theorem Run.on (k : Run p e below s kc kn Q T' f') (st : Steps p.tables e below (T.setTop f) (T'.setTop f')) : Run p e below s kc kn Q T f := k.by fun _ h1 => st.trans h1
/-- what a walk knows of its method throughout -/
def Fx (p : Program) (s : State) (m : MethodId) (meth : Method) (c : Code) (by' : ByteArray) (ml : Nat) (own nm : String) (ret : Option FieldType) (Z : State) : Prop :=
  p.tables.exec = Jvm.exec ∧ c.code = by' ∧ c.maxLocals = ml ∧ s.vm.findClass own = some m.cls ∧ Z.Warmed39 s.vm ∧ meth.sig.returnType = ret ∧ meth.locks = false ∧ meth.name = nm
def i2c (x : Int32) : Int32 := x.toUInt32.toUInt16.toUInt32.toInt32
theorem k_iloadN (K : Fx p s m meth c by' ml own nm ret Z) (X : Stand p l e R s m args below meth c T locs cells slots) {k' : Fin 4} {v : Int32} (hd : decode by' pc = .ok (.iload_n k', 1)) (hl : Ls[k'.val]? = some (.val (.int v))) (hq : pc + 1 = q) (k : Run p e below s kc kn Q T (mkF m q Ls (.int v :: st))) : Run p e below s kc kn Q T (mkF m pc Ls st) := by
  subst hq; exact k.by fun t => XS.iloadN X.here K.1 rfl (hb K.2.1 hd) hl
theorem k_iload (K : Fx p s m meth c by' ml own nm ret Z) (X : Stand p l e R s m args below meth c T locs cells slots) {k' : Nat} {v : Int32} (hd : decode by' pc = .ok (.iload k', 2)) (hl : Ls[k']? = some (.val (.int v))) (hq : pc + 2 = q) (k : Run p e below s kc kn Q T (mkF m q Ls (.int v :: st))) : Run p e below s kc kn Q T (mkF m pc Ls st) := by
  subst hq; exact k.by fun t => XS.iload X.here K.1 rfl (hb K.2.1 hd) hl
theorem k_aload (K : Fx p s m meth c by' ml own nm ret Z) (X : Stand p l e R s m args below meth c T locs cells slots) {k' : Nat} {v : Value} (hd : decode by' pc = .ok (.aload k', 2)) (hl : Ls[k']? = some (.val v)) (hv : v.isRef = true) (hq : pc + 2 = q) (k : Run p e below s kc kn Q T (mkF m q Ls (v :: st))) : Run p e below s kc kn Q T (mkF m pc Ls st) := by
  subst hq; exact k.by fun t => XS.aload X.here K.1 rfl (hb K.2.1 hd) hl hv
theorem k_istoreN (K : Fx p s m meth c by' ml own nm ret Z) (X : Stand p l e R s m args below meth c T locs cells slots) {k' : Fin 4} {v x : Int32} (hd : decode by' pc = .ok (.istore_n k', 1)) (hv : x = v) (hl : storeLocals Ls k'.val (.int v) = some Ls') (hq : pc + 1 = q) (k : Run p e below s kc kn Q T (mkF m q Ls' st)) : Run p e below s kc kn Q T (mkF m pc Ls (.int x :: st)) := by
  subst hq hv; exact k.by fun t => XS.istoreN X.here K.1 rfl (hb K.2.1 hd) rfl hl
theorem k_istore (K : Fx p s m meth c by' ml own nm ret Z) (X : Stand p l e R s m args below meth c T locs cells slots) {k' : Nat} {v x : Int32} (hd : decode by' pc = .ok (.istore k', 2)) (hv : x = v) (hl : storeLocals Ls k' (.int v) = some Ls') (hq : pc + 2 = q) (k : Run p e below s kc kn Q T (mkF m q Ls' st)) : Run p e below s kc kn Q T (mkF m pc Ls (.int x :: st)) := by
  subst hq hv; exact k.by fun t => XS.istore X.here K.1 rfl (hb K.2.1 hd) rfl hl
theorem k_astore (K : Fx p s m meth c by' ml own nm ret Z) (X : Stand p l e R s m args below meth c T locs cells slots) {k' : Nat} {v : Value} (hd : decode by' pc = .ok (.astore k', 2)) (hv : v.isRef = true) (hl : storeLocals Ls k' v = some Ls') (hq : pc + 2 = q) (k : Run p e below s kc kn Q T (mkF m q Ls' st)) : Run p e below s kc kn Q T (mkF m pc Ls (v :: st)) := by
  subst hq; exact k.by fun t => XS.astore X.here K.1 rfl (hb K.2.1 hd) rfl hv hl
theorem k_iconst (K : Fx p s m meth c by' ml own nm ret Z) (X : Stand p l e R s m args below meth c T locs cells slots) {i : Int} {v : Int32} (hd : decode by' pc = .ok (.iconst i, 1)) (hv : Int32.ofInt i = v) (hq : pc + 1 = q) (k : Run p e below s kc kn Q T (mkF m q Ls (.int v :: st))) : Run p e below s kc kn Q T (mkF m pc Ls st) := by
  subst hq hv; exact k.by fun t => XS.iconst X.here K.1 rfl (hb K.2.1 hd)
theorem k_bipush (K : Fx p s m meth c by' ml own nm ret Z) (X : Stand p l e R s m args below meth c T locs cells slots) {i : Int} {v : Int32} (hd : decode by' pc = .ok (.bipush i, 2)) (hv : (Int8.ofInt i).toInt32 = v) (hq : pc + 2 = q) (k : Run p e below s kc kn Q T (mkF m q Ls (.int v :: st))) : Run p e below s kc kn Q T (mkF m pc Ls st) := by
  subst hq hv; exact k.by fun t => XS.bipush X.here K.1 rfl (hb K.2.1 hd)
theorem k_sipush (K : Fx p s m meth c by' ml own nm ret Z) (X : Stand p l e R s m args below meth c T locs cells slots) {i : Int} {v : Int32} (hd : decode by' pc = .ok (.sipush i, 3)) (hv : (Int16.ofInt i).toInt32 = v) (hq : pc + 3 = q) (k : Run p e below s kc kn Q T (mkF m q Ls (.int v :: st))) : Run p e below s kc kn Q T (mkF m pc Ls st) := by
  subst hq hv; exact k.by fun t => XS.sipush X.here K.1 rfl (hb K.2.1 hd)
theorem k_iadd (K : Fx p s m meth c by' ml own nm ret Z) (X : Stand p l e R s m args below meth c T locs cells slots) {x y : Int32} (hd : decode by' pc = .ok (.iadd, 1)) (hq : pc + 1 = q) (k : Run p e below s kc kn Q T (mkF m q Ls (.int (x + y) :: st))) : Run p e below s kc kn Q T (mkF m pc Ls (.int y :: .int x :: st)) := by
  subst hq; exact k.by fun t => XS.iadd X.here K.1 rfl (hb K.2.1 hd) rfl
theorem k_isub (K : Fx p s m meth c by' ml own nm ret Z) (X : Stand p l e R s m args below meth c T locs cells slots) {x y : Int32} (hd : decode by' pc = .ok (.isub, 1)) (hq : pc + 1 = q) (k : Run p e below s kc kn Q T (mkF m q Ls (.int (x - y) :: st))) : Run p e below s kc kn Q T (mkF m pc Ls (.int y :: .int x :: st)) := by
  subst hq; exact k.by fun t => XS.isub X.here K.1 rfl (hb K.2.1 hd) rfl
theorem k_iand (K : Fx p s m meth c by' ml own nm ret Z) (X : Stand p l e R s m args below meth c T locs cells slots) {x y : Int32} (hd : decode by' pc = .ok (.iand, 1)) (hq : pc + 1 = q) (k : Run p e below s kc kn Q T (mkF m q Ls (.int (x &&& y) :: st))) : Run p e below s kc kn Q T (mkF m pc Ls (.int y :: .int x :: st)) := by
  subst hq; exact k.by fun t => XS.iand X.here K.1 rfl (hb K.2.1 hd) rfl
theorem k_i2c (K : Fx p s m meth c by' ml own nm ret Z) (X : Stand p l e R s m args below meth c T locs cells slots) {x : Int32} (hd : decode by' pc = .ok (.i2c, 1)) (hq : pc + 1 = q) (k : Run p e below s kc kn Q T (mkF m q Ls (.int (i2c x) :: st))) : Run p e below s kc kn Q T (mkF m pc Ls (.int x :: st)) := by
  subst hq; exact k.by fun t => XS.i2c X.here K.1 rfl (hb K.2.1 hd) rfl
theorem k_irem (K : Fx p s m meth c by' ml own nm ret Z) (X : Stand p l e R s m args below meth c T locs cells slots) {x y : Int32} (hd : decode by' pc = .ok (.irem, 1)) (hy : y ≠ 0) (hq : pc + 1 = q) (k : Run p e below s kc kn Q T (mkF m q Ls (.int (x % y) :: st))) : Run p e below s kc kn Q T (mkF m pc Ls (.int y :: .int x :: st)) := by
  subst hq; exact k.by fun t => iremM X K.1 rfl (hb K.2.1 hd) rfl hy
theorem k_dup (K : Fx p s m meth c by' ml own nm ret Z) (X : Stand p l e R s m args below meth c T locs cells slots) {v : Value} (hd : decode by' pc = .ok (.dup, 1)) (hc : v.category = 1) (hq : pc + 1 = q) (k : Run p e below s kc kn Q T (mkF m q Ls (v :: v :: st))) : Run p e below s kc kn Q T (mkF m pc Ls (v :: st)) := by
  subst hq; exact k.by fun t => XS.dup X.here K.1 rfl (hb K.2.1 hd) rfl hc
theorem k_goto (K : Fx p s m meth c by' ml own nm ret Z) (X : Stand p l e R s m args below meth c T locs cells slots) {o : Int} (hd : decode by' pc = .ok (.goto o, 3)) (ho : 0 ≤ (pc : Int) + o) (hq : ((pc : Int) + o).toNat = q) (k : Run p e below s kc kn Q T (mkF m q Ls st)) : Run p e below s kc kn Q T (mkF m pc Ls st) := k.by fun t => XS.goto X.here K.1 rfl rfl (hb K.2.1 hd) ho hq
theorem k_nameI {x v : Int32} (hv : x = v) (k : Run p e below s kc kn Q T (mkF m pc Ls (.int v :: st))) : Run p e below s kc kn Q T (mkF m pc Ls (.int x :: st)) := by
  subst hv; exact k
theorem k_if_eq_y (K : Fx p s m meth c by' ml own nm ret Z) (X : Stand p l e R s m args below meth c T locs cells slots) {x : Int32} {o : Int} (hd : decode by' pc = .ok (.ifCond .eq o, 3)) (hc : x = 0) (ho : 0 ≤ (pc : Int) + o) (hq : ((pc : Int) + o).toNat = q) (k : Run p e below s kc kn Q T (mkF m q Ls st)) : Run p e below s kc kn Q T (mkF m pc Ls (.int x :: st)) := k.by fun t => XS.ifYes X.here K.1 rfl rfl (hb K.2.1 hd) rfl ((if0 _ _).trans (teq hc).1) ho hq
theorem k_if_eq_n (K : Fx p s m meth c by' ml own nm ret Z) (X : Stand p l e R s m args below meth c T locs cells slots) {x : Int32} {o : Int} (hd : decode by' pc = .ok (.ifCond .eq o, 3)) (hc : ¬ x = 0) (hq : pc + 3 = q) (k : Run p e below s kc kn Q T (mkF m q Ls st)) : Run p e below s kc kn Q T (mkF m pc Ls (.int x :: st)) := by
  subst hq; exact k.by fun t => XS.ifNo X.here K.1 rfl (hb K.2.1 hd) rfl ((if0 _ _).trans (feq hc).1)
theorem k_if_eq (K : Fx p s m meth c by' ml own nm ret Z) (X : Stand p l e R s m args below meth c T locs cells slots) {x : Int32} {o : Int} (hd : decode by' pc = .ok (.ifCond .eq o, 3)) (ho : 0 ≤ (pc : Int) + o) (hq : ((pc : Int) + o).toNat = q) (hq' : pc + 3 = q') (ky : x = 0 → Run p e below s kc kn Q T (mkF m q Ls st)) (kno : ¬ x = 0 → Run p e below s kc kn Q T (mkF m q' Ls st)) : Run p e below s kc kn Q T (mkF m pc Ls (.int x :: st)) := by
  by_cases hc : x = 0
  · exact k_if_eq_y K X hd hc ho hq (ky hc)
  · exact k_if_eq_n K X hd hc hq' (kno hc)
theorem k_icmp_eq_y (K : Fx p s m meth c by' ml own nm ret Z) (X : Stand p l e R s m args below meth c T locs cells slots) {x y : Int32} {o : Int} (hd : decode by' pc = .ok (.if_icmp .eq o, 3)) (hc : x = y) (ho : 0 ≤ (pc : Int) + o) (hq : ((pc : Int) + o).toNat = q) (k : Run p e below s kc kn Q T (mkF m q Ls st)) : Run p e below s kc kn Q T (mkF m pc Ls (.int y :: .int x :: st)) := k.by fun t => XS.icmpYes X.here K.1 rfl rfl (hb K.2.1 hd) rfl (teq hc).1 ho hq
theorem k_icmp_eq_n (K : Fx p s m meth c by' ml own nm ret Z) (X : Stand p l e R s m args below meth c T locs cells slots) {x y : Int32} {o : Int} (hd : decode by' pc = .ok (.if_icmp .eq o, 3)) (hc : ¬ x = y) (hq : pc + 3 = q) (k : Run p e below s kc kn Q T (mkF m q Ls st)) : Run p e below s kc kn Q T (mkF m pc Ls (.int y :: .int x :: st)) := by
  subst hq; exact k.by fun t => XS.icmpNo X.here K.1 rfl (hb K.2.1 hd) rfl (feq hc).1
theorem k_icmp_eq (K : Fx p s m meth c by' ml own nm ret Z) (X : Stand p l e R s m args below meth c T locs cells slots) {x y : Int32} {o : Int} (hd : decode by' pc = .ok (.if_icmp .eq o, 3)) (ho : 0 ≤ (pc : Int) + o) (hq : ((pc : Int) + o).toNat = q) (hq' : pc + 3 = q') (ky : x = y → Run p e below s kc kn Q T (mkF m q Ls st)) (kno : ¬ x = y → Run p e below s kc kn Q T (mkF m q' Ls st)) : Run p e below s kc kn Q T (mkF m pc Ls (.int y :: .int x :: st)) := by
  by_cases hc : x = y
  · exact k_icmp_eq_y K X hd hc ho hq (ky hc)
  · exact k_icmp_eq_n K X hd hc hq' (kno hc)
theorem k_if_ne_y (K : Fx p s m meth c by' ml own nm ret Z) (X : Stand p l e R s m args below meth c T locs cells slots) {x : Int32} {o : Int} (hd : decode by' pc = .ok (.ifCond .ne o, 3)) (hc : ¬ x = 0) (ho : 0 ≤ (pc : Int) + o) (hq : ((pc : Int) + o).toNat = q) (k : Run p e below s kc kn Q T (mkF m q Ls st)) : Run p e below s kc kn Q T (mkF m pc Ls (.int x :: st)) := k.by fun t => XS.ifYes X.here K.1 rfl rfl (hb K.2.1 hd) rfl ((if0 _ _).trans (feq hc).2) ho hq
theorem k_if_ne_n (K : Fx p s m meth c by' ml own nm ret Z) (X : Stand p l e R s m args below meth c T locs cells slots) {x : Int32} {o : Int} (hd : decode by' pc = .ok (.ifCond .ne o, 3)) (hc : x = 0) (hq : pc + 3 = q) (k : Run p e below s kc kn Q T (mkF m q Ls st)) : Run p e below s kc kn Q T (mkF m pc Ls (.int x :: st)) := by
  subst hq; exact k.by fun t => XS.ifNo X.here K.1 rfl (hb K.2.1 hd) rfl ((if0 _ _).trans (teq hc).2)
theorem k_if_ne (K : Fx p s m meth c by' ml own nm ret Z) (X : Stand p l e R s m args below meth c T locs cells slots) {x : Int32} {o : Int} (hd : decode by' pc = .ok (.ifCond .ne o, 3)) (ho : 0 ≤ (pc : Int) + o) (hq : ((pc : Int) + o).toNat = q) (hq' : pc + 3 = q') (ky : ¬ x = 0 → Run p e below s kc kn Q T (mkF m q Ls st)) (kno : x = 0 → Run p e below s kc kn Q T (mkF m q' Ls st)) : Run p e below s kc kn Q T (mkF m pc Ls (.int x :: st)) := by
  by_cases hc : x = 0
  · exact k_if_ne_n K X hd hc hq' (kno hc)
  · exact k_if_ne_y K X hd hc ho hq (ky hc)
theorem k_icmp_ne_y (K : Fx p s m meth c by' ml own nm ret Z) (X : Stand p l e R s m args below meth c T locs cells slots) {x y : Int32} {o : Int} (hd : decode by' pc = .ok (.if_icmp .ne o, 3)) (hc : ¬ x = y) (ho : 0 ≤ (pc : Int) + o) (hq : ((pc : Int) + o).toNat = q) (k : Run p e below s kc kn Q T (mkF m q Ls st)) : Run p e below s kc kn Q T (mkF m pc Ls (.int y :: .int x :: st)) := k.by fun t => XS.icmpYes X.here K.1 rfl rfl (hb K.2.1 hd) rfl (feq hc).2 ho hq
theorem k_icmp_ne_n (K : Fx p s m meth c by' ml own nm ret Z) (X : Stand p l e R s m args below meth c T locs cells slots) {x y : Int32} {o : Int} (hd : decode by' pc = .ok (.if_icmp .ne o, 3)) (hc : x = y) (hq : pc + 3 = q) (k : Run p e below s kc kn Q T (mkF m q Ls st)) : Run p e below s kc kn Q T (mkF m pc Ls (.int y :: .int x :: st)) := by
  subst hq; exact k.by fun t => XS.icmpNo X.here K.1 rfl (hb K.2.1 hd) rfl (teq hc).2
theorem k_icmp_ne (K : Fx p s m meth c by' ml own nm ret Z) (X : Stand p l e R s m args below meth c T locs cells slots) {x y : Int32} {o : Int} (hd : decode by' pc = .ok (.if_icmp .ne o, 3)) (ho : 0 ≤ (pc : Int) + o) (hq : ((pc : Int) + o).toNat = q) (hq' : pc + 3 = q') (ky : ¬ x = y → Run p e below s kc kn Q T (mkF m q Ls st)) (kno : x = y → Run p e below s kc kn Q T (mkF m q' Ls st)) : Run p e below s kc kn Q T (mkF m pc Ls (.int y :: .int x :: st)) := by
  by_cases hc : x = y
  · exact k_icmp_ne_n K X hd hc hq' (kno hc)
  · exact k_icmp_ne_y K X hd hc ho hq (ky hc)
theorem k_icmp_lt_y (K : Fx p s m meth c by' ml own nm ret Z) (X : Stand p l e R s m args below meth c T locs cells slots) {x y : Int32} {o : Int} (hd : decode by' pc = .ok (.if_icmp .lt o, 3)) (hc : x < y) (ho : 0 ≤ (pc : Int) + o) (hq : ((pc : Int) + o).toNat = q) (k : Run p e below s kc kn Q T (mkF m q Ls st)) : Run p e below s kc kn Q T (mkF m pc Ls (.int y :: .int x :: st)) := k.by fun t => XS.icmpYes X.here K.1 rfl rfl (hb K.2.1 hd) rfl (tlt hc).1 ho hq
theorem k_icmp_lt_n (K : Fx p s m meth c by' ml own nm ret Z) (X : Stand p l e R s m args below meth c T locs cells slots) {x y : Int32} {o : Int} (hd : decode by' pc = .ok (.if_icmp .lt o, 3)) (hc : ¬ x < y) (hq : pc + 3 = q) (k : Run p e below s kc kn Q T (mkF m q Ls st)) : Run p e below s kc kn Q T (mkF m pc Ls (.int y :: .int x :: st)) := by
  subst hq; exact k.by fun t => XS.icmpNo X.here K.1 rfl (hb K.2.1 hd) rfl (flt hc).1
theorem k_icmp_lt (K : Fx p s m meth c by' ml own nm ret Z) (X : Stand p l e R s m args below meth c T locs cells slots) {x y : Int32} {o : Int} (hd : decode by' pc = .ok (.if_icmp .lt o, 3)) (ho : 0 ≤ (pc : Int) + o) (hq : ((pc : Int) + o).toNat = q) (hq' : pc + 3 = q') (ky : x < y → Run p e below s kc kn Q T (mkF m q Ls st)) (kno : ¬ x < y → Run p e below s kc kn Q T (mkF m q' Ls st)) : Run p e below s kc kn Q T (mkF m pc Ls (.int y :: .int x :: st)) := by
  by_cases hc : x < y
  · exact k_icmp_lt_y K X hd hc ho hq (ky hc)
  · exact k_icmp_lt_n K X hd hc hq' (kno hc)
theorem k_icmp_gt_y (K : Fx p s m meth c by' ml own nm ret Z) (X : Stand p l e R s m args below meth c T locs cells slots) {x y : Int32} {o : Int} (hd : decode by' pc = .ok (.if_icmp .gt o, 3)) (hc : y < x) (ho : 0 ≤ (pc : Int) + o) (hq : ((pc : Int) + o).toNat = q) (k : Run p e below s kc kn Q T (mkF m q Ls st)) : Run p e below s kc kn Q T (mkF m pc Ls (.int y :: .int x :: st)) := k.by fun t => XS.icmpYes X.here K.1 rfl rfl (hb K.2.1 hd) rfl (tlt hc).2.2.1 ho hq
theorem k_icmp_gt_n (K : Fx p s m meth c by' ml own nm ret Z) (X : Stand p l e R s m args below meth c T locs cells slots) {x y : Int32} {o : Int} (hd : decode by' pc = .ok (.if_icmp .gt o, 3)) (hc : ¬ y < x) (hq : pc + 3 = q) (k : Run p e below s kc kn Q T (mkF m q Ls st)) : Run p e below s kc kn Q T (mkF m pc Ls (.int y :: .int x :: st)) := by
  subst hq; exact k.by fun t => XS.icmpNo X.here K.1 rfl (hb K.2.1 hd) rfl (flt hc).2.2.1
theorem k_icmp_gt (K : Fx p s m meth c by' ml own nm ret Z) (X : Stand p l e R s m args below meth c T locs cells slots) {x y : Int32} {o : Int} (hd : decode by' pc = .ok (.if_icmp .gt o, 3)) (ho : 0 ≤ (pc : Int) + o) (hq : ((pc : Int) + o).toNat = q) (hq' : pc + 3 = q') (ky : y < x → Run p e below s kc kn Q T (mkF m q Ls st)) (kno : ¬ y < x → Run p e below s kc kn Q T (mkF m q' Ls st)) : Run p e below s kc kn Q T (mkF m pc Ls (.int y :: .int x :: st)) := by
  by_cases hc : y < x
  · exact k_icmp_gt_y K X hd hc ho hq (ky hc)
  · exact k_icmp_gt_n K X hd hc hq' (kno hc)
theorem k_ldc (K : Fx p s m meth c by' ml own nm ret Z) (X : Stand p l e R s m args below meth c T locs cells slots) {i : Nat} {v : Int32} (hd : decode by' pc = .ok (.ldc i, 2)) (w : (Cond.constant own i v).before a0 Z = true) (hq : pc + 2 = q) (k : Run p e below s kc kn Q T (mkF m q Ls (.int v :: st))) : Run p e below s kc kn Q T (mkF m pc Ls st) := by
  subst hq; exact k.by fun t => X.ldcInt K.1 K.2.2.2.1 (mvT K.2.2.2.2.1 w) (g := mkF m pc Ls st) rfl (hb K.2.1 hd) t
theorem k_reti (K : Fx p s m meth c by' ml own nm (some .int) Z) (X : Stand p l e R s m args below meth c T locs cells slots) {x : Int32} (eT : T.heap = h) (hd : decode by' pc = .ok (.ireturn, 1)) (hc : cells ≤ kc) (hn : slots ≤ kn) (hQ : Q (some (.int x)) h locs) : Run p e below s kc kn Q T (mkF m pc Ls [.int x]) := by
  subst eT
  have hlk := K.2.2.2.2.2.2.1
  obtain ⟨fs, hr, hrun, hended, hW, hsame⟩ := X.leave (v := (some (.int x))) (fun z => by rw [K.2.2.2.2.2.1] at z; cases z)
  exact ⟨_, _, X.ireturnOut K.1 K.2.2.2.2.2.1 rfl (Or.inl rfl) (hb K.2.1 hd) hr, hrun, hended, _, _, rfl, hQ, ⟨_, rfl⟩, hW, hsame.mono hc hn⟩
theorem k_retz (K : Fx p s m meth c by' ml own nm (some .boolean) Z) (X : Stand p l e R s m args below meth c T locs cells slots) {x : Int32} (eT : T.heap = h) (hd : decode by' pc = .ok (.ireturn, 1)) (hc : cells ≤ kc) (hn : slots ≤ kn) (hQ : Q (some (.int (nar .boolean x))) h locs) : Run p e below s kc kn Q T (mkF m pc Ls [.int x]) := by
  subst eT
  have hlk := K.2.2.2.2.2.2.1
  obtain ⟨fs, hr, hrun, hended, hW, hsame⟩ := X.leave (v := (some (.int (nar .boolean x)))) (fun z => by rw [K.2.2.2.2.2.1] at z; cases z)
  exact ⟨_, _, retN X K.1 K.2.2.2.2.2.1 (by simp) (hb K.2.1 hd) hr, hrun, hended, _, _, rfl, hQ, ⟨_, rfl⟩, hW, hsame.mono hc hn⟩
/-- a contract: with these arguments over this heap the body returns as Q says, within the room -/
abbrev Met (l : Launch) (y : MethodName) (bytes : ByteArray) (maxL : Nat) (ret : Option FieldType) (ws : List Jvm.Cond) (rm : Room) (Z : State) (as' : Array Value) (h0 : Heap) (Q : Option Value → Heap → List Loc → Prop) : Prop :=
  MetFree l y (head1 (Jvm.Cond.code y bytes maxL ret :: ws) rm) (fun a U => a = as' ∧ Z.Warmed39 U.vm ∧ U.heap = h0) (fun _ _ _ _ _ => True) (fun _ U o U' => ∃ v L, o = .returned v ∧ Q v U'.heap L ∧ FrameEnd U o U' L rm.cells rm.slots)
theorem enter {y : MethodName} {bytes : ByteArray} {maxL : Nat} {ws : List Jvm.Cond} {rm : Room} {as' : Array Value} {h0 : Heap} (hpl : plainFor y = true) (hef : ∀ m, entryFrame m as' maxL = mkF m 0 Ls [])
    (body : ∀ p e s m below meth c T kc kn Q', rm.cells ≤ kc → rm.slots ≤ kn → (∀ v h L, Q v h L → Q' v h L) → Fx p s m meth c bytes maxL y.cls y.name ret Z → Stand p l e rm s m as' below meth c T [] 0 0 → T.heap = h0 → Run p e below s kc kn Q' T (mkF m 0 Ls [])) : Met l y bytes maxL ret ws rm Z as' h0 Q := by
  refine MetFree.of_bodySF hpl hisR ?_
  intro p e s m args below meth c s₁ Bd hml0 hP hK
  obtain ⟨rfl, hZ, hh⟩ := hP
  obtain ⟨t, o, h1, h2, h3, v, L, h4, h5, h6⟩ := body p e s m below meth c s₁ _ _ Q (Nat.le_refl _) (Nat.le_refl _) (fun _ _ _ z => z) ⟨Bd.exec, Bd.bytes, hml0, findClass_of_methodNamed Bd.named, hZ, Bd.returns, BodyLoose.notSynchronized Bd, (name_of_methodNamed Bd.named Bd.method).1⟩ (Stand.of_body Bd) (by rw [← hh, Bd.state]; rfl)
  exact ⟨t, o, castTop (hef m) h1, h2, h3, v, L, h4, h5, h6⟩
theorem k_static (K : Fx p s m meth c by' ml own nm ret Z) (X : Stand p l e R s m args below meth c T locs cells slots) (eT : T.heap = h) {y : MethodName} {bytes : ByteArray} {maxL i W : Nat} {rt : Option FieldType} {rm : Room} {as' : Array Value} {Q' : Option Value → Heap → List Loc → Prop}
    (hd : decode by' pc = .ok (.invokestatic i, 3)) (w1 : (Cond.methodLink own i y).before a0 Z = true) (w2 : (Cond.static y).before a0 Z = true) (w3 : (Cond.initialized y.cls).before a0 Z = true) (w4 : (Cond.code y bytes maxL rt).before a0 Z = true) (hy : y.cls ≠ "java/lang/invoke/MethodHandle" ∧ y.cls ≠ "java/lang/invoke/VarHandle")
    (hM : Met l y bytes maxL rt [] rm Z as' h Q') (hf : rm.frames + 1 ≤ R.frames) (hl : W + (maxL + 11) + rm.locals ≤ R.locals) (hc : cells + rm.cells ≤ R.cells) (hn : slots + rm.slots ≤ R.slots) (hsz : Ls.size = ml)
    {sig : MethodDescriptor} (hdesc : parseMethodDescriptor y.desc = some sig) {argsL rest : List Value} (ha : as' = argsL.toArray) (hlen : argsL.length = sig.parameters.length) (hst : st = argsL.reverse ++ rest) (hW : (rest.map fun v => v.category).sum ≤ W) (hq : pc + 3 = q)
    (k : ∀ v T' L, Stand p l e R s m args below meth c T' (locs ++ L) (cells + rm.cells) (slots + rm.slots) → Q' v T'.heap L → Run p e below s kc kn Q T' (mkF m q Ls (v.toList ++ rest))) : Run p e below s kc kn Q T (mkF m pc Ls st) := by
  have hZ := K.2.2.2.2.1
  subst hq
  obtain ⟨v, _, ⟨T2, L2, k2, n2⟩, -, X2, ⟨Lc, hQ2, l2, y2, z2⟩, st2⟩ := Jvm.LawKit.callS X K.1 (y := y) K.2.2.2.1 (mvT hZ w1) (mvT hZ w2) (mvT hZ w3) (mvT hZ w4) hy (backOf (W := W) hM hZ w4 w3 hf hl) (g := mkF m pc Ls st) rfl (by rw [K.2.2.1]; exact hsz) (argsL := argsL) (rest := rest) (fun sg hs => by cases hdesc.symm.trans hs; exact hlen) hst (by show 2 * 0 + _ ≤ _; omega) (hb K.2.1 hd) (fun _ _ => ⟨ha.symm, eT, hc, hn⟩)
  dsimp only [Pt.U, Pt.locs, Pt.cells, Pt.slots] at X2 l2 y2 z2 st2 hQ2
  subst l2 y2 z2
  exact (k v T2 Lc X2 hQ2).by st2
/-- a static callee that leaves the heap as it was -/
theorem k_staticP (K : Fx p s m meth c by' ml own nm ret Z) (X : Stand p l e R s m args below meth c T locs cells slots) (eT : T.heap = h) {y : MethodName} {bytes : ByteArray} {maxL i W fr lo : Nat} {rt : Option FieldType} {as' : Array Value} {w : Value}
    (hd : decode by' pc = .ok (.invokestatic i, 3)) (w1 : (Cond.methodLink own i y).before a0 Z = true) (w2 : (Cond.static y).before a0 Z = true) (w3 : (Cond.initialized y.cls).before a0 Z = true) (w4 : (Cond.code y bytes maxL rt).before a0 Z = true) (hy : y.cls ≠ "java/lang/invoke/MethodHandle" ∧ y.cls ≠ "java/lang/invoke/VarHandle")
    (hM : Met l y bytes maxL rt [] { frames := fr, cells := 0, slots := 0, locals := lo } Z as' h (fun v h' L => v = some w ∧ h' = h ∧ L = [])) (hf : fr + 1 ≤ R.frames) (hl : W + (maxL + 11) + lo ≤ R.locals) (hc : cells ≤ R.cells) (hn : slots ≤ R.slots) (hsz : Ls.size = ml)
    {sig : MethodDescriptor} (hdesc : parseMethodDescriptor y.desc = some sig) {argsL rest : List Value} (ha : as' = argsL.toArray) (hlen : argsL.length = sig.parameters.length) (hst : st = argsL.reverse ++ rest) (hW : (rest.map fun v => v.category).sum ≤ W) (hq : pc + 3 = q)
    (k : ∀ T', Stand p l e R s m args below meth c T' locs cells slots → T'.heap = h → Run p e below s kc kn Q T' (mkF m q Ls (w :: rest))) : Run p e below s kc kn Q T (mkF m pc Ls st) := by
  refine k_static K X eT hd w1 w2 w3 w4 hy hM hf hl hc hn hsz hdesc ha hlen hst hW hq ?_
  rintro v T' L X' ⟨rfl, h2, rfl⟩
  rw [List.append_nil] at X'
  exact k T' X' h2
/-- an array of n places; place i holds g i -/
def Ary (Z : State) (h : Heap) (a : Addr) (ty : FieldType) (n : Nat) (g : Nat → Value) : Prop := ∃ c : Cell, Arr Z h a c ty ∧ c.slots.size = n ∧ n < 2147483648 ∧ (∀ i, i < n → c.slots[i]? = some (g i)) ∧ ∀ i, i < n → fits ty (g i) = true
theorem Ary.lt {a : Addr} {ty : FieldType} {n : Nat} {g : Nat → Value} (F : Ary Z h a ty n g) : a < h.size := by obtain ⟨c, A, -⟩ := F; exact A.lt
theorem Ary.ext {h' : Heap} {a : Addr} {ty : FieldType} {n : Nat} {g : Nat → Value} (F : Ary Z h a ty n g) (E : Ext h h') : Ary Z h' a ty n g := by obtain ⟨c, A, r⟩ := F; exact ⟨c, A.ext E, r⟩
theorem Ary.eqv {a : Addr} {ty : FieldType} {n : Nat} {g g' : Nat → Value} (F : Ary Z h a ty n g) (q : ∀ i, i < n → g i = g' i) : Ary Z h a ty n g' := by
  obtain ⟨c, A, r1, r2, r3, r4⟩ := F; exact ⟨c, A, r1, r2, fun i hi => by rw [← q i hi]; exact r3 i hi, fun i hi => by rw [← q i hi]; exact r4 i hi⟩
theorem Ary.set {h' : Heap} {a : Addr} {ty : FieldType} {n i : Nat} {v : Value} {g : Nat → Value} (F : Ary Z h a ty n g) (W : Wr h h' a i v) (hv : fits ty v = true) : Ary Z h' a ty n (fun k => if k = i then v else g k) := by
  obtain ⟨c, A, r1, r2, r3, r4⟩ := F
  obtain ⟨c', w1, w2, w3, w4⟩ := W
  cases A.1.symm.trans w1
  refine ⟨_, A.same ⟨c, w1, w2, w3, w4⟩, by rw [sz_set]; exact r1, r2, fun k hk => ?_, fun k hk => ?_⟩
  · show (c.setSlot i v).slots[k]? = some (if k = i then v else g k)
    by_cases q : k = i
    · subst q; simp [Cell.setSlot, w3]
    · rw [if_neg q]
      show (c.slots.setIfInBounds i v)[k]? = _
      rw [Array.getElem?_setIfInBounds_ne (Ne.symm q)]; exact r3 k hk
  · show fits ty (if k = i then v else g k) = true
    by_cases q : k = i
    · rw [if_pos q]; exact hv
    · rw [if_neg q]; exact r4 k hk
/-- the int j is the place i -/
abbrev Ix (j : Int32) (i : Nat) : Prop := ¬ j < 0 ∧ j.toNatClampNeg = i
theorem Ix.of {j : Int32} {i : Nat} (h : j.toInt = i) : Ix j i := by
  refine ⟨?_, ?_⟩
  · rw [Int32.lt_iff_toInt_lt, h]; have : (0 : Int32).toInt = 0 := rfl
    omega
  · simp only [Int32.toNatClampNeg, h]; omega
theorem Ix.inb {j : Int32} {i n : Nat} (hi : Ix j i) (hn : i < n) {cl : Cell} (hs : cl.slots.size = n) : ¬ (j < 0 ∨ cl.slots.size ≤ j.toNatClampNeg) := fun z => z.elim hi.1 fun z => by rw [hs, hi.2] at z; omega
theorem k_caload (K : Fx p s m meth c by' ml own nm ret Z) (X : Stand p l e R s m args below meth c T locs cells slots) (eT : T.heap = h) {a : Addr} {n i : Nat} {g : Nat → Value} {j : Int32} {v : Value} (hd : decode by' pc = .ok (.caload, 1)) (A : Ary Z h a .char n g) (hi : Ix j i) (hn : i < n) (hg : g i = v) (hq : pc + 1 = q) (k : Run p e below s kc kn Q T (mkF m q Ls (v :: st))) : Run p e below s kc kn Q T (mkF m pc Ls (.int j :: .ref a :: st)) := by
  subst hq hg
  obtain ⟨c', A, r1, r2, r3, -⟩ := A
  exact k.by fun t => X.caload K.1 (j := j) (v := g i) (by rw [eT]; exact A.1) (State.isArrayOf_alike K.2.2.2.2.1.alike A.2.1) A.2.2 (hi.inb hn r1) (by rw [hi.2]; exact r3 i hn) (g := mkF m pc Ls (.int j :: .ref a :: st)) rfl rfl (hb K.2.1 hd) t
theorem k_castore (K : Fx p s m meth c by' ml own nm ret Z) (X : Stand p l e R s m args below meth c T locs cells slots) (eT : T.heap = h) {a : Addr} {n i : Nat} {g : Nat → Value} {j : Int32} {x : Int32} (hd : decode by' pc = .ok (.castore, 1)) (A : Ary Z h a .char n g) (hi : Ix j i) (hn : i < n) (hq : pc + 1 = q)
    (k : ∀ T' h', Stand p l e R s m args below meth c T' (locs ++ [⟨a, i⟩]) cells slots → T'.heap = h' → Wr h h' a i (.int (nar .char x)) → Ary Z h' a .char n (fun k => if k = i then .int (nar .char x) else g k) → Run p e below s kc kn Q T' (mkF m q Ls st)) : Run p e below s kc kn Q T (mkF m pc Ls (.int x :: .int j :: .ref a :: st)) := by
  subst hq
  have A0 := A
  obtain ⟨c', A, r1, r2, r3, -⟩ := A
  obtain ⟨T2, h2, X2, e2, W2, st2⟩ := stC X K.1 K.2.2.2.2.1 eT A (j := j) (hi.inb hn r1) (g := mkF m pc Ls (.int x :: .int j :: .ref a :: st)) rfl rfl (hb K.2.1 hd)
  rw [hi.2] at X2 W2
  exact (k T2 h2 X2 e2 W2 (A0.set W2 (fits_nar_char x))).by st2
theorem k_newarray (K : Fx p s m meth c by' ml own nm ret Z) (X : Stand p l e R s m args below meth c T locs cells slots) (eT : T.heap = h) {aty : ArrayType} {ty : FieldType} {z : Int32} {n cap : Nat} (hd : decode by' pc = .ok (.newarray aty, 2)) (hty : newarray.typeOf aty = ty) (w : (Cond.arrayClass ty).before a0 Z = true) (hz : Ix z n) (hcap : n ≤ cap) (h8 : cap * 8 ≤ 536870912) (hc : cells + 1 ≤ R.cells) (hn : slots + cap ≤ R.slots) (hq : pc + 2 = q)
    (k : ∀ T' h' a, Stand p l e R s m args below meth c T' locs (cells + 1) (slots + cap) → T'.heap = h' → a = h.size → Ext h h' → Ary Z h' a ty n (fun _ => defaultValue ty) → Run p e below s kc kn Q T' (mkF m q Ls (.ref a :: st))) : Run p e below s kc kn Q T (mkF m pc Ls (.int z :: st)) := by
  subst hq hty
  obtain ⟨T2, h2, cA, X2, e2, E2, A2, st2⟩ := newP X K.1 K.2.2.2.2.1 w eT (g := mkF m pc Ls (.int z :: st)) rfl (hb K.2.1 hd) rfl hz.1 (cap := cap) (by rw [hz.2]; exact hcap) h8 hc hn
  refine (k T2 h2 h.size X2 e2 rfl E2 ⟨_, A2, (sz_new _ _ _).trans hz.2, by omega, fun i hi => ?_, fun i _ => ?_⟩).by st2
  · rw [← hz.2] at hi; simp [newA, hi]
  · cases aty <;> rfl
end OwnKit

theorem wd {Z : State} {az : Array Value} (hw : ∀ d ∈ tables_1, d.before az Z = true) (k : Nat) {d : Jvm.Cond} (h : tables_1[k]? = some d) : d.before az Z = true := hw _ (List.mem_of_getElem? h)
theorem d1_0 : decode prog_5_method_5_code 0 = .ok (.iload_n 1, 1) := by decide +kernel
theorem d1_1 : decode prog_5_method_5_code 1 = .ok (.bipush 48, 2) := by decide +kernel
theorem d1_3 : decode prog_5_method_5_code 3 = .ok (.if_icmp .lt 63, 3) := by decide +kernel
theorem d1_66 : decode prog_5_method_5_code 66 = .ok (.iload_n 1, 1) := by decide +kernel
theorem d1_67 : decode prog_5_method_5_code 67 = .ok (.bipush 45, 2) := by decide +kernel
theorem d1_69 : decode prog_5_method_5_code 69 = .ok (.if_icmp .ne 9, 3) := by decide +kernel
theorem d1_78 : decode prog_5_method_5_code 78 = .ok (.iload_n 1, 1) := by decide +kernel
theorem d1_79 : decode prog_5_method_5_code 79 = .ok (.bipush 46, 2) := by decide +kernel
theorem d1_81 : decode prog_5_method_5_code 81 = .ok (.if_icmp .ne 19, 3) := by decide +kernel
theorem d1_100 : decode prog_5_method_5_code 100 = .ok (.iload_n 1, 1) := by decide +kernel
theorem d1_101 : decode prog_5_method_5_code 101 = .ok (.bipush 101, 2) := by decide +kernel
theorem d1_103 : decode prog_5_method_5_code 103 = .ok (.if_icmp .eq 9, 3) := by decide +kernel
theorem d1_112 : decode prog_5_method_5_code 112 = .ok (.iload_n 0, 1) := by decide +kernel
theorem d1_113 : decode prog_5_method_5_code 113 = .ok (.iconst 2, 1) := by decide +kernel
theorem d1_114 : decode prog_5_method_5_code 114 = .ok (.if_icmp .eq 13, 3) := by decide +kernel
theorem d1_133 : decode prog_5_method_5_code 133 = .ok (.ireturn, 1) := by decide +kernel
theorem d1_127 : decode prog_5_method_5_code 127 = .ok (.bipush 6, 2) := by decide +kernel
theorem d1_129 : decode prog_5_method_5_code 129 = .ok (.goto 4, 3) := by decide +kernel
theorem d1_117 : decode prog_5_method_5_code 117 = .ok (.iload_n 0, 1) := by decide +kernel
theorem d1_118 : decode prog_5_method_5_code 118 = .ok (.iconst 3, 1) := by decide +kernel
theorem d1_119 : decode prog_5_method_5_code 119 = .ok (.if_icmp .eq 8, 3) := by decide +kernel
theorem d1_122 : decode prog_5_method_5_code 122 = .ok (.iload_n 0, 1) := by decide +kernel
theorem d1_123 : decode prog_5_method_5_code 123 = .ok (.iconst 5, 1) := by decide +kernel
theorem d1_124 : decode prog_5_method_5_code 124 = .ok (.if_icmp .ne 8, 3) := by decide +kernel
theorem d1_132 : decode prog_5_method_5_code 132 = .ok (.iconst (-1), 1) := by decide +kernel
theorem d1_106 : decode prog_5_method_5_code 106 = .ok (.iload_n 1, 1) := by decide +kernel
theorem d1_107 : decode prog_5_method_5_code 107 = .ok (.bipush 69, 2) := by decide +kernel
theorem d1_109 : decode prog_5_method_5_code 109 = .ok (.if_icmp .ne 25, 3) := by decide +kernel
theorem d1_134 : decode prog_5_method_5_code 134 = .ok (.iload_n 1, 1) := by decide +kernel
theorem d1_135 : decode prog_5_method_5_code 135 = .ok (.bipush 45, 2) := by decide +kernel
theorem d1_137 : decode prog_5_method_5_code 137 = .ok (.if_icmp .eq 9, 3) := by decide +kernel
theorem d1_140 : decode prog_5_method_5_code 140 = .ok (.iload_n 1, 1) := by decide +kernel
theorem d1_141 : decode prog_5_method_5_code 141 = .ok (.bipush 43, 2) := by decide +kernel
theorem d1_143 : decode prog_5_method_5_code 143 = .ok (.if_icmp .ne 16, 3) := by decide +kernel
theorem d1_159 : decode prog_5_method_5_code 159 = .ok (.iconst (-1), 1) := by decide +kernel
theorem d1_160 : decode prog_5_method_5_code 160 = .ok (.ireturn, 1) := by decide +kernel
theorem d1_146 : decode prog_5_method_5_code 146 = .ok (.iload_n 0, 1) := by decide +kernel
theorem d1_147 : decode prog_5_method_5_code 147 = .ok (.bipush 6, 2) := by decide +kernel
theorem d1_149 : decode prog_5_method_5_code 149 = .ok (.if_icmp .ne 8, 3) := by decide +kernel
theorem d1_158 : decode prog_5_method_5_code 158 = .ok (.ireturn, 1) := by decide +kernel
theorem d1_157 : decode prog_5_method_5_code 157 = .ok (.iconst (-1), 1) := by decide +kernel
theorem d1_152 : decode prog_5_method_5_code 152 = .ok (.bipush 7, 2) := by decide +kernel
theorem d1_154 : decode prog_5_method_5_code 154 = .ok (.goto 4, 3) := by decide +kernel
theorem d1_84 : decode prog_5_method_5_code 84 = .ok (.iload_n 0, 1) := by decide +kernel
theorem d1_85 : decode prog_5_method_5_code 85 = .ok (.iconst 2, 1) := by decide +kernel
theorem d1_86 : decode prog_5_method_5_code 86 = .ok (.if_icmp .eq 8, 3) := by decide +kernel
theorem d1_99 : decode prog_5_method_5_code 99 = .ok (.ireturn, 1) := by decide +kernel
theorem d1_94 : decode prog_5_method_5_code 94 = .ok (.iconst 4, 1) := by decide +kernel
theorem d1_95 : decode prog_5_method_5_code 95 = .ok (.goto 4, 3) := by decide +kernel
theorem d1_89 : decode prog_5_method_5_code 89 = .ok (.iload_n 0, 1) := by decide +kernel
theorem d1_90 : decode prog_5_method_5_code 90 = .ok (.iconst 3, 1) := by decide +kernel
theorem d1_91 : decode prog_5_method_5_code 91 = .ok (.if_icmp .ne 7, 3) := by decide +kernel
theorem d1_98 : decode prog_5_method_5_code 98 = .ok (.iconst (-1), 1) := by decide +kernel
theorem d1_72 : decode prog_5_method_5_code 72 = .ok (.iload_n 0, 1) := by decide +kernel
theorem d1_73 : decode prog_5_method_5_code 73 = .ok (.ifCond .ne 5, 3) := by decide +kernel
theorem d1_76 : decode prog_5_method_5_code 76 = .ok (.iconst 1, 1) := by decide +kernel
theorem d1_77 : decode prog_5_method_5_code 77 = .ok (.ireturn, 1) := by decide +kernel
theorem d1_6 : decode prog_5_method_5_code 6 = .ok (.iload_n 1, 1) := by decide +kernel
theorem d1_7 : decode prog_5_method_5_code 7 = .ok (.bipush 57, 2) := by decide +kernel
theorem d1_9 : decode prog_5_method_5_code 9 = .ok (.if_icmp .gt 57, 3) := by decide +kernel
theorem d1_12 : decode prog_5_method_5_code 12 = .ok (.iload_n 0, 1) := by decide +kernel
theorem d1_13 : decode prog_5_method_5_code 13 = .ok (.ifCond .eq 8, 3) := by decide +kernel
theorem d1_21 : decode prog_5_method_5_code 21 = .ok (.iload_n 1, 1) := by decide +kernel
theorem d1_22 : decode prog_5_method_5_code 22 = .ok (.bipush 48, 2) := by decide +kernel
theorem d1_24 : decode prog_5_method_5_code 24 = .ok (.if_icmp .ne 7, 3) := by decide +kernel
theorem d1_32 : decode prog_5_method_5_code 32 = .ok (.ireturn, 1) := by decide +kernel
theorem d1_31 : decode prog_5_method_5_code 31 = .ok (.iconst 3, 1) := by decide +kernel
theorem d1_27 : decode prog_5_method_5_code 27 = .ok (.iconst 2, 1) := by decide +kernel
theorem d1_28 : decode prog_5_method_5_code 28 = .ok (.goto 4, 3) := by decide +kernel
theorem d1_16 : decode prog_5_method_5_code 16 = .ok (.iload_n 0, 1) := by decide +kernel
theorem d1_17 : decode prog_5_method_5_code 17 = .ok (.iconst 1, 1) := by decide +kernel
theorem d1_18 : decode prog_5_method_5_code 18 = .ok (.if_icmp .ne 15, 3) := by decide +kernel
theorem d1_33 : decode prog_5_method_5_code 33 = .ok (.iload_n 0, 1) := by decide +kernel
theorem d1_34 : decode prog_5_method_5_code 34 = .ok (.iconst 4, 1) := by decide +kernel
theorem d1_35 : decode prog_5_method_5_code 35 = .ok (.if_icmp .ne 5, 3) := by decide +kernel
theorem d1_40 : decode prog_5_method_5_code 40 = .ok (.iload_n 0, 1) := by decide +kernel
theorem d1_41 : decode prog_5_method_5_code 41 = .ok (.bipush 6, 2) := by decide +kernel
theorem d1_43 : decode prog_5_method_5_code 43 = .ok (.if_icmp .eq 9, 3) := by decide +kernel
theorem d1_52 : decode prog_5_method_5_code 52 = .ok (.bipush 8, 2) := by decide +kernel
theorem d1_54 : decode prog_5_method_5_code 54 = .ok (.ireturn, 1) := by decide +kernel
theorem d1_46 : decode prog_5_method_5_code 46 = .ok (.iload_n 0, 1) := by decide +kernel
theorem d1_47 : decode prog_5_method_5_code 47 = .ok (.bipush 7, 2) := by decide +kernel
theorem d1_49 : decode prog_5_method_5_code 49 = .ok (.if_icmp .ne 6, 3) := by decide +kernel
theorem d1_55 : decode prog_5_method_5_code 55 = .ok (.iload_n 0, 1) := by decide +kernel
theorem d1_56 : decode prog_5_method_5_code 56 = .ok (.iconst 2, 1) := by decide +kernel
theorem d1_57 : decode prog_5_method_5_code 57 = .ok (.if_icmp .ne 7, 3) := by decide +kernel
theorem d1_65 : decode prog_5_method_5_code 65 = .ok (.ireturn, 1) := by decide +kernel
theorem d1_64 : decode prog_5_method_5_code 64 = .ok (.iload_n 0, 1) := by decide +kernel
theorem d1_60 : decode prog_5_method_5_code 60 = .ok (.iconst (-1), 1) := by decide +kernel
theorem d1_61 : decode prog_5_method_5_code 61 = .ok (.goto 4, 3) := by decide +kernel
theorem d1_38 : decode prog_5_method_5_code 38 = .ok (.iconst 5, 1) := by decide +kernel
theorem d1_39 : decode prog_5_method_5_code 39 = .ok (.ireturn, 1) := by decide +kernel
theorem ef_1 (p0 : Int32) (p1 : Int32) : ∀ m : MethodId, entryFrame m #[(.int p0), (.int p1)] 2 = mkF m 0 #[.val (.int p0), .val (.int p1)] [] := by intro m; first | (simp [entryFrame, mkF, argsToLocals, Value.category]; done) | rfl
theorem pn_0 : plainName "com/example/centime/centime/DecimalText" = true := by first | (simp [plainName, overriddenIn]; done) | decide +kernel
def F_after (p0 : Int32) (p1 : Int32) : Int32 :=
  if p1 < (48 : Int32) then
    if p1 = (45 : Int32) then
      if p0 = (0 : Int32) then
        (1 : Int32)
      else
        if p1 = (46 : Int32) then
          let d59 : Int32 := (if p0 = (2 : Int32) then (4 : Int32) else (if p0 = (3 : Int32) then (4 : Int32) else (-1 : Int32)))
          d59
        else
          if p1 = (101 : Int32) then
            let d39 : Int32 := (if p0 = (2 : Int32) then (6 : Int32) else (if p0 = (3 : Int32) then (6 : Int32) else (if p0 = (5 : Int32) then (6 : Int32) else (-1 : Int32))))
            d39
          else
            if p1 = (69 : Int32) then
              let d52 : Int32 := (if p0 = (2 : Int32) then (6 : Int32) else (if p0 = (3 : Int32) then (6 : Int32) else (if p0 = (5 : Int32) then (6 : Int32) else (-1 : Int32))))
              d52
            else
              let d46 : Int32 := (if p0 = (6 : Int32) then (7 : Int32) else (-1 : Int32))
              d46
    else
      if p1 = (46 : Int32) then
        let d29 : Int32 := (if p0 = (2 : Int32) then (4 : Int32) else (if p0 = (3 : Int32) then (4 : Int32) else (-1 : Int32)))
        d29
      else
        if p1 = (101 : Int32) then
          let d8 : Int32 := (if p0 = (2 : Int32) then (6 : Int32) else (if p0 = (3 : Int32) then (6 : Int32) else (if p0 = (5 : Int32) then (6 : Int32) else (-1 : Int32))))
          d8
        else
          if p1 = (69 : Int32) then
            let d22 : Int32 := (if p0 = (2 : Int32) then (6 : Int32) else (if p0 = (3 : Int32) then (6 : Int32) else (if p0 = (5 : Int32) then (6 : Int32) else (-1 : Int32))))
            d22
          else
            if p1 = (43 : Int32) then
              let d16 : Int32 := (if p0 = (6 : Int32) then (7 : Int32) else (-1 : Int32))
              d16
            else
              (-1 : Int32)
  else
    if (57 : Int32) < p1 then
      if p1 = (45 : Int32) then
        if p0 = (0 : Int32) then
          (1 : Int32)
        else
          if p1 = (46 : Int32) then
            let d121 : Int32 := (if p0 = (2 : Int32) then (4 : Int32) else (if p0 = (3 : Int32) then (4 : Int32) else (-1 : Int32)))
            d121
          else
            if p1 = (101 : Int32) then
              let d101 : Int32 := (if p0 = (2 : Int32) then (6 : Int32) else (if p0 = (3 : Int32) then (6 : Int32) else (if p0 = (5 : Int32) then (6 : Int32) else (-1 : Int32))))
              d101
            else
              if p1 = (69 : Int32) then
                let d114 : Int32 := (if p0 = (2 : Int32) then (6 : Int32) else (if p0 = (3 : Int32) then (6 : Int32) else (if p0 = (5 : Int32) then (6 : Int32) else (-1 : Int32))))
                d114
              else
                let d108 : Int32 := (if p0 = (6 : Int32) then (7 : Int32) else (-1 : Int32))
                d108
      else
        if p1 = (46 : Int32) then
          let d91 : Int32 := (if p0 = (2 : Int32) then (4 : Int32) else (if p0 = (3 : Int32) then (4 : Int32) else (-1 : Int32)))
          d91
        else
          if p1 = (101 : Int32) then
            let d70 : Int32 := (if p0 = (2 : Int32) then (6 : Int32) else (if p0 = (3 : Int32) then (6 : Int32) else (if p0 = (5 : Int32) then (6 : Int32) else (-1 : Int32))))
            d70
          else
            if p1 = (69 : Int32) then
              let d84 : Int32 := (if p0 = (2 : Int32) then (6 : Int32) else (if p0 = (3 : Int32) then (6 : Int32) else (if p0 = (5 : Int32) then (6 : Int32) else (-1 : Int32))))
              d84
            else
              if p1 = (43 : Int32) then
                let d78 : Int32 := (if p0 = (6 : Int32) then (7 : Int32) else (-1 : Int32))
                d78
              else
                (-1 : Int32)
    else
      if p0 = (0 : Int32) then
        let d127 : Int32 := (if p1 = (48 : Int32) then (2 : Int32) else (3 : Int32))
        d127
      else
        if p0 = (1 : Int32) then
          let d139 : Int32 := (if p1 = (48 : Int32) then (2 : Int32) else (3 : Int32))
          d139
        else
          if p0 = (4 : Int32) then
            (5 : Int32)
          else
            if p0 = (6 : Int32) then
              (8 : Int32)
            else
              if p0 = (7 : Int32) then
                (8 : Int32)
              else
                let d135 : Int32 := (if p0 = (2 : Int32) then (-1 : Int32) else p0)
                d135
set_option maxRecDepth 65536 in
set_option maxHeartbeats 40000000 in
theorem rm1 (l : Launch) (Z : State) (az : Array Value) (hw : ∀ d ∈ tables_1, d.before az Z = true) (ws : List Jvm.Cond) (p0 : Int32) (p1 : Int32) (h0 : Heap) :
    Met l (⟨"com/example/centime/centime/DecimalText", "after", "(IC)I"⟩ : MethodName) prog_5_method_5_code 2 (some .int) ws ({ frames := 0, cells := 0, slots := 0, locals := 0 } : Room) Z #[(.int p0), (.int p1)] h0 (fun v h' L => v = some (Value.int (F_after p0 p1)) ∧ h' = h0 ∧ L = []) := by
  refine enter (plainFor_of_name pn_0) (ef_1 p0 p1) ?_
  intro p e s m below meth c T0 kc kn Q hkc hkn hQ K' X0 e0
  have K : Fx p s m meth c prog_5_method_5_code 2 "com/example/centime/centime/DecimalText" "after" (some .int) Z := K'
  refine k_iloadN K X0 d1_0 rfl (q := 1) rfl ?_
  refine k_bipush K X0 d1_1 (v := (48 : Int32)) rfl (q := 3) rfl ?_
  refine k_icmp_lt K X0 d1_3 (by decide) (q := 66) rfl (q' := 6) rfl ?_ ?_
  · intro hc1
    refine k_iloadN K X0 d1_66 rfl (q := 67) rfl ?_
    refine k_bipush K X0 d1_67 (v := (45 : Int32)) rfl (q := 69) rfl ?_
    refine k_icmp_ne K X0 d1_69 (by decide) (q := 78) rfl (q' := 72) rfl ?_ ?_
    · intro hc2
      refine k_iloadN K X0 d1_78 rfl (q := 79) rfl ?_
      refine k_bipush K X0 d1_79 (v := (46 : Int32)) rfl (q := 81) rfl ?_
      refine k_icmp_ne K X0 d1_81 (by decide) (q := 100) rfl (q' := 84) rfl ?_ ?_
      · intro hc3
        refine k_iloadN K X0 d1_100 rfl (q := 101) rfl ?_
        refine k_bipush K X0 d1_101 (v := (101 : Int32)) rfl (q := 103) rfl ?_
        refine k_icmp_eq K X0 d1_103 (by decide) (q := 112) rfl (q' := 106) rfl ?_ ?_
        · intro hc4
          refine k_iloadN K X0 d1_112 rfl (q := 113) rfl ?_
          refine k_iconst K X0 d1_113 (v := (2 : Int32)) rfl (q := 114) rfl ?_
          have J9 : ∀ (d8 : Int32), (if p0 = (2 : Int32) then (6 : Int32) else (if p0 = (3 : Int32) then (6 : Int32) else (if p0 = (5 : Int32) then (6 : Int32) else (-1 : Int32)))) = d8 → Run p e below s kc kn Q T0 (mkF m 133 #[.val (.int p0), .val (.int p1)] [(.int d8)]) := by
            intro d8 hv_d8
            exact k_reti K X0 e0 d1_133 (Nat.le_trans (by decide) hkc) (Nat.le_trans (by decide) hkn) (hQ _ _ _ ⟨(by show some (Value.int d8) = some (Value.int (F_after p0 p1)); simp only [F_after, hv_d8, if_pos hc1, if_neg hc2, if_neg hc3, if_pos hc4]), rfl, rfl⟩)
          refine k_icmp_eq K X0 d1_114 (by decide) (q := 127) rfl (q' := 117) rfl ?_ ?_
          · intro hc10
            refine k_bipush K X0 d1_127 (v := (6 : Int32)) rfl (q := 129) rfl ?_
            refine k_goto K X0 d1_129 (by decide) (q := 133) rfl ?_
            exact J9 _ (by first | rfl | (simp only [if_pos hc10]))
          · intro hc10
            refine k_iloadN K X0 d1_117 rfl (q := 118) rfl ?_
            refine k_iconst K X0 d1_118 (v := (3 : Int32)) rfl (q := 119) rfl ?_
            refine k_icmp_eq K X0 d1_119 (by decide) (q := 127) rfl (q' := 122) rfl ?_ ?_
            · intro hc11
              refine k_bipush K X0 d1_127 (v := (6 : Int32)) rfl (q := 129) rfl ?_
              refine k_goto K X0 d1_129 (by decide) (q := 133) rfl ?_
              exact J9 _ (by first | rfl | (simp only [if_neg hc10, if_pos hc11]))
            · intro hc11
              refine k_iloadN K X0 d1_122 rfl (q := 123) rfl ?_
              refine k_iconst K X0 d1_123 (v := (5 : Int32)) rfl (q := 124) rfl ?_
              refine k_icmp_ne K X0 d1_124 (by decide) (q := 132) rfl (q' := 127) rfl ?_ ?_
              · intro hc12
                refine k_iconst K X0 d1_132 (v := (-1 : Int32)) rfl (q := 133) rfl ?_
                exact J9 _ (by first | rfl | (simp only [if_neg hc10, if_neg hc11, if_neg hc12]))
              · intro hc12
                refine k_bipush K X0 d1_127 (v := (6 : Int32)) rfl (q := 129) rfl ?_
                refine k_goto K X0 d1_129 (by decide) (q := 133) rfl ?_
                exact J9 _ (by first | rfl | (simp only [if_neg hc10, if_neg hc11, if_pos hc12]))
        · intro hc4
          refine k_iloadN K X0 d1_106 rfl (q := 107) rfl ?_
          refine k_bipush K X0 d1_107 (v := (69 : Int32)) rfl (q := 109) rfl ?_
          refine k_icmp_ne K X0 d1_109 (by decide) (q := 134) rfl (q' := 112) rfl ?_ ?_
          · intro hc13
            refine k_iloadN K X0 d1_134 rfl (q := 135) rfl ?_
            refine k_bipush K X0 d1_135 (v := (45 : Int32)) rfl (q := 137) rfl ?_
            refine k_icmp_eq_n K X0 d1_137 hc2 (q := 140) rfl ?_
            refine k_iloadN K X0 d1_140 rfl (q := 141) rfl ?_
            refine k_bipush K X0 d1_141 (v := (43 : Int32)) rfl (q := 143) rfl ?_
            refine k_icmp_ne K X0 d1_143 (by decide) (q := 159) rfl (q' := 146) rfl ?_ ?_
            · intro hc14
              refine k_iconst K X0 d1_159 (v := (-1 : Int32)) rfl (q := 160) rfl ?_
              exact k_reti K X0 e0 d1_160 (Nat.le_trans (by decide) hkc) (Nat.le_trans (by decide) hkn) (hQ _ _ _ ⟨(by show some (Value.int (-1 : Int32)) = some (Value.int (F_after p0 p1)); simp only [F_after, if_pos hc1, if_neg hc2, if_neg hc3, if_neg hc4, if_neg hc13, if_neg hc14]), rfl, rfl⟩)
            · intro hc14
              refine k_iloadN K X0 d1_146 rfl (q := 147) rfl ?_
              refine k_bipush K X0 d1_147 (v := (6 : Int32)) rfl (q := 149) rfl ?_
              have J17 : ∀ (d16 : Int32), (if p0 = (6 : Int32) then (7 : Int32) else (-1 : Int32)) = d16 → Run p e below s kc kn Q T0 (mkF m 158 #[.val (.int p0), .val (.int p1)] [(.int d16)]) := by
                intro d16 hv_d16
                exact k_reti K X0 e0 d1_158 (Nat.le_trans (by decide) hkc) (Nat.le_trans (by decide) hkn) (hQ _ _ _ ⟨(by show some (Value.int d16) = some (Value.int (F_after p0 p1)); simp only [F_after, hv_d16, if_pos hc1, if_neg hc2, if_neg hc3, if_neg hc4, if_neg hc13, if_pos hc14]), rfl, rfl⟩)
              refine k_icmp_ne K X0 d1_149 (by decide) (q := 157) rfl (q' := 152) rfl ?_ ?_
              · intro hc18
                refine k_iconst K X0 d1_157 (v := (-1 : Int32)) rfl (q := 158) rfl ?_
                exact J17 _ (by first | rfl | (simp only [if_neg hc18]))
              · intro hc18
                refine k_bipush K X0 d1_152 (v := (7 : Int32)) rfl (q := 154) rfl ?_
                refine k_goto K X0 d1_154 (by decide) (q := 158) rfl ?_
                exact J17 _ (by first | rfl | (simp only [if_pos hc18]))
          · intro hc13
            refine k_iloadN K X0 d1_112 rfl (q := 113) rfl ?_
            refine k_iconst K X0 d1_113 (v := (2 : Int32)) rfl (q := 114) rfl ?_
            have J23 : ∀ (d22 : Int32), (if p0 = (2 : Int32) then (6 : Int32) else (if p0 = (3 : Int32) then (6 : Int32) else (if p0 = (5 : Int32) then (6 : Int32) else (-1 : Int32)))) = d22 → Run p e below s kc kn Q T0 (mkF m 133 #[.val (.int p0), .val (.int p1)] [(.int d22)]) := by
              intro d22 hv_d22
              exact k_reti K X0 e0 d1_133 (Nat.le_trans (by decide) hkc) (Nat.le_trans (by decide) hkn) (hQ _ _ _ ⟨(by show some (Value.int d22) = some (Value.int (F_after p0 p1)); simp only [F_after, hv_d22, if_pos hc1, if_neg hc2, if_neg hc3, if_neg hc4, if_pos hc13]), rfl, rfl⟩)
            refine k_icmp_eq K X0 d1_114 (by decide) (q := 127) rfl (q' := 117) rfl ?_ ?_
            · intro hc24
              refine k_bipush K X0 d1_127 (v := (6 : Int32)) rfl (q := 129) rfl ?_
              refine k_goto K X0 d1_129 (by decide) (q := 133) rfl ?_
              exact J23 _ (by first | rfl | (simp only [if_pos hc24]))
            · intro hc24
              refine k_iloadN K X0 d1_117 rfl (q := 118) rfl ?_
              refine k_iconst K X0 d1_118 (v := (3 : Int32)) rfl (q := 119) rfl ?_
              refine k_icmp_eq K X0 d1_119 (by decide) (q := 127) rfl (q' := 122) rfl ?_ ?_
              · intro hc25
                refine k_bipush K X0 d1_127 (v := (6 : Int32)) rfl (q := 129) rfl ?_
                refine k_goto K X0 d1_129 (by decide) (q := 133) rfl ?_
                exact J23 _ (by first | rfl | (simp only [if_neg hc24, if_pos hc25]))
              · intro hc25
                refine k_iloadN K X0 d1_122 rfl (q := 123) rfl ?_
                refine k_iconst K X0 d1_123 (v := (5 : Int32)) rfl (q := 124) rfl ?_
                refine k_icmp_ne K X0 d1_124 (by decide) (q := 132) rfl (q' := 127) rfl ?_ ?_
                · intro hc26
                  refine k_iconst K X0 d1_132 (v := (-1 : Int32)) rfl (q := 133) rfl ?_
                  exact J23 _ (by first | rfl | (simp only [if_neg hc24, if_neg hc25, if_neg hc26]))
                · intro hc26
                  refine k_bipush K X0 d1_127 (v := (6 : Int32)) rfl (q := 129) rfl ?_
                  refine k_goto K X0 d1_129 (by decide) (q := 133) rfl ?_
                  exact J23 _ (by first | rfl | (simp only [if_neg hc24, if_neg hc25, if_pos hc26]))
      · intro hc3
        refine k_iloadN K X0 d1_84 rfl (q := 85) rfl ?_
        refine k_iconst K X0 d1_85 (v := (2 : Int32)) rfl (q := 86) rfl ?_
        have J30 : ∀ (d29 : Int32), (if p0 = (2 : Int32) then (4 : Int32) else (if p0 = (3 : Int32) then (4 : Int32) else (-1 : Int32))) = d29 → Run p e below s kc kn Q T0 (mkF m 99 #[.val (.int p0), .val (.int p1)] [(.int d29)]) := by
          intro d29 hv_d29
          exact k_reti K X0 e0 d1_99 (Nat.le_trans (by decide) hkc) (Nat.le_trans (by decide) hkn) (hQ _ _ _ ⟨(by show some (Value.int d29) = some (Value.int (F_after p0 p1)); simp only [F_after, hv_d29, if_pos hc1, if_neg hc2, if_pos hc3]), rfl, rfl⟩)
        refine k_icmp_eq K X0 d1_86 (by decide) (q := 94) rfl (q' := 89) rfl ?_ ?_
        · intro hc31
          refine k_iconst K X0 d1_94 (v := (4 : Int32)) rfl (q := 95) rfl ?_
          refine k_goto K X0 d1_95 (by decide) (q := 99) rfl ?_
          exact J30 _ (by first | rfl | (simp only [if_pos hc31]))
        · intro hc31
          refine k_iloadN K X0 d1_89 rfl (q := 90) rfl ?_
          refine k_iconst K X0 d1_90 (v := (3 : Int32)) rfl (q := 91) rfl ?_
          refine k_icmp_ne K X0 d1_91 (by decide) (q := 98) rfl (q' := 94) rfl ?_ ?_
          · intro hc32
            refine k_iconst K X0 d1_98 (v := (-1 : Int32)) rfl (q := 99) rfl ?_
            exact J30 _ (by first | rfl | (simp only [if_neg hc31, if_neg hc32]))
          · intro hc32
            refine k_iconst K X0 d1_94 (v := (4 : Int32)) rfl (q := 95) rfl ?_
            refine k_goto K X0 d1_95 (by decide) (q := 99) rfl ?_
            exact J30 _ (by first | rfl | (simp only [if_neg hc31, if_pos hc32]))
    · intro hc2
      refine k_iloadN K X0 d1_72 rfl (q := 73) rfl ?_
      refine k_if_ne K X0 d1_73 (by decide) (q := 78) rfl (q' := 76) rfl ?_ ?_
      · intro hc33
        refine k_iloadN K X0 d1_78 rfl (q := 79) rfl ?_
        refine k_bipush K X0 d1_79 (v := (46 : Int32)) rfl (q := 81) rfl ?_
        refine k_icmp_ne K X0 d1_81 (by decide) (q := 100) rfl (q' := 84) rfl ?_ ?_
        · intro hc34
          refine k_iloadN K X0 d1_100 rfl (q := 101) rfl ?_
          refine k_bipush K X0 d1_101 (v := (101 : Int32)) rfl (q := 103) rfl ?_
          refine k_icmp_eq K X0 d1_103 (by decide) (q := 112) rfl (q' := 106) rfl ?_ ?_
          · intro hc35
            refine k_iloadN K X0 d1_112 rfl (q := 113) rfl ?_
            refine k_iconst K X0 d1_113 (v := (2 : Int32)) rfl (q := 114) rfl ?_
            have J40 : ∀ (d39 : Int32), (if p0 = (2 : Int32) then (6 : Int32) else (if p0 = (3 : Int32) then (6 : Int32) else (if p0 = (5 : Int32) then (6 : Int32) else (-1 : Int32)))) = d39 → Run p e below s kc kn Q T0 (mkF m 133 #[.val (.int p0), .val (.int p1)] [(.int d39)]) := by
              intro d39 hv_d39
              exact k_reti K X0 e0 d1_133 (Nat.le_trans (by decide) hkc) (Nat.le_trans (by decide) hkn) (hQ _ _ _ ⟨(by show some (Value.int d39) = some (Value.int (F_after p0 p1)); simp only [F_after, hv_d39, if_pos hc1, if_pos hc2, if_neg hc33, if_neg hc34, if_pos hc35]), rfl, rfl⟩)
            refine k_icmp_eq K X0 d1_114 (by decide) (q := 127) rfl (q' := 117) rfl ?_ ?_
            · intro hc41
              refine k_bipush K X0 d1_127 (v := (6 : Int32)) rfl (q := 129) rfl ?_
              refine k_goto K X0 d1_129 (by decide) (q := 133) rfl ?_
              exact J40 _ (by first | rfl | (simp only [if_pos hc41]))
            · intro hc41
              refine k_iloadN K X0 d1_117 rfl (q := 118) rfl ?_
              refine k_iconst K X0 d1_118 (v := (3 : Int32)) rfl (q := 119) rfl ?_
              refine k_icmp_eq K X0 d1_119 (by decide) (q := 127) rfl (q' := 122) rfl ?_ ?_
              · intro hc42
                refine k_bipush K X0 d1_127 (v := (6 : Int32)) rfl (q := 129) rfl ?_
                refine k_goto K X0 d1_129 (by decide) (q := 133) rfl ?_
                exact J40 _ (by first | rfl | (simp only [if_neg hc41, if_pos hc42]))
              · intro hc42
                refine k_iloadN K X0 d1_122 rfl (q := 123) rfl ?_
                refine k_iconst K X0 d1_123 (v := (5 : Int32)) rfl (q := 124) rfl ?_
                refine k_icmp_ne K X0 d1_124 (by decide) (q := 132) rfl (q' := 127) rfl ?_ ?_
                · intro hc43
                  refine k_iconst K X0 d1_132 (v := (-1 : Int32)) rfl (q := 133) rfl ?_
                  exact J40 _ (by first | rfl | (simp only [if_neg hc41, if_neg hc42, if_neg hc43]))
                · intro hc43
                  refine k_bipush K X0 d1_127 (v := (6 : Int32)) rfl (q := 129) rfl ?_
                  refine k_goto K X0 d1_129 (by decide) (q := 133) rfl ?_
                  exact J40 _ (by first | rfl | (simp only [if_neg hc41, if_neg hc42, if_pos hc43]))
          · intro hc35
            refine k_iloadN K X0 d1_106 rfl (q := 107) rfl ?_
            refine k_bipush K X0 d1_107 (v := (69 : Int32)) rfl (q := 109) rfl ?_
            refine k_icmp_ne K X0 d1_109 (by decide) (q := 134) rfl (q' := 112) rfl ?_ ?_
            · intro hc44
              refine k_iloadN K X0 d1_134 rfl (q := 135) rfl ?_
              refine k_bipush K X0 d1_135 (v := (45 : Int32)) rfl (q := 137) rfl ?_
              refine k_icmp_eq_y K X0 d1_137 hc2 (by decide) (q := 146) rfl ?_
              refine k_iloadN K X0 d1_146 rfl (q := 147) rfl ?_
              refine k_bipush K X0 d1_147 (v := (6 : Int32)) rfl (q := 149) rfl ?_
              have J47 : ∀ (d46 : Int32), (if p0 = (6 : Int32) then (7 : Int32) else (-1 : Int32)) = d46 → Run p e below s kc kn Q T0 (mkF m 158 #[.val (.int p0), .val (.int p1)] [(.int d46)]) := by
                intro d46 hv_d46
                exact k_reti K X0 e0 d1_158 (Nat.le_trans (by decide) hkc) (Nat.le_trans (by decide) hkn) (hQ _ _ _ ⟨(by show some (Value.int d46) = some (Value.int (F_after p0 p1)); simp only [F_after, hv_d46, if_pos hc1, if_pos hc2, if_neg hc33, if_neg hc34, if_neg hc35, if_neg hc44]), rfl, rfl⟩)
              refine k_icmp_ne K X0 d1_149 (by decide) (q := 157) rfl (q' := 152) rfl ?_ ?_
              · intro hc48
                refine k_iconst K X0 d1_157 (v := (-1 : Int32)) rfl (q := 158) rfl ?_
                exact J47 _ (by first | rfl | (simp only [if_neg hc48]))
              · intro hc48
                refine k_bipush K X0 d1_152 (v := (7 : Int32)) rfl (q := 154) rfl ?_
                refine k_goto K X0 d1_154 (by decide) (q := 158) rfl ?_
                exact J47 _ (by first | rfl | (simp only [if_pos hc48]))
            · intro hc44
              refine k_iloadN K X0 d1_112 rfl (q := 113) rfl ?_
              refine k_iconst K X0 d1_113 (v := (2 : Int32)) rfl (q := 114) rfl ?_
              have J53 : ∀ (d52 : Int32), (if p0 = (2 : Int32) then (6 : Int32) else (if p0 = (3 : Int32) then (6 : Int32) else (if p0 = (5 : Int32) then (6 : Int32) else (-1 : Int32)))) = d52 → Run p e below s kc kn Q T0 (mkF m 133 #[.val (.int p0), .val (.int p1)] [(.int d52)]) := by
                intro d52 hv_d52
                exact k_reti K X0 e0 d1_133 (Nat.le_trans (by decide) hkc) (Nat.le_trans (by decide) hkn) (hQ _ _ _ ⟨(by show some (Value.int d52) = some (Value.int (F_after p0 p1)); simp only [F_after, hv_d52, if_pos hc1, if_pos hc2, if_neg hc33, if_neg hc34, if_neg hc35, if_pos hc44]), rfl, rfl⟩)
              refine k_icmp_eq K X0 d1_114 (by decide) (q := 127) rfl (q' := 117) rfl ?_ ?_
              · intro hc54
                refine k_bipush K X0 d1_127 (v := (6 : Int32)) rfl (q := 129) rfl ?_
                refine k_goto K X0 d1_129 (by decide) (q := 133) rfl ?_
                exact J53 _ (by first | rfl | (simp only [if_pos hc54]))
              · intro hc54
                refine k_iloadN K X0 d1_117 rfl (q := 118) rfl ?_
                refine k_iconst K X0 d1_118 (v := (3 : Int32)) rfl (q := 119) rfl ?_
                refine k_icmp_eq K X0 d1_119 (by decide) (q := 127) rfl (q' := 122) rfl ?_ ?_
                · intro hc55
                  refine k_bipush K X0 d1_127 (v := (6 : Int32)) rfl (q := 129) rfl ?_
                  refine k_goto K X0 d1_129 (by decide) (q := 133) rfl ?_
                  exact J53 _ (by first | rfl | (simp only [if_neg hc54, if_pos hc55]))
                · intro hc55
                  refine k_iloadN K X0 d1_122 rfl (q := 123) rfl ?_
                  refine k_iconst K X0 d1_123 (v := (5 : Int32)) rfl (q := 124) rfl ?_
                  refine k_icmp_ne K X0 d1_124 (by decide) (q := 132) rfl (q' := 127) rfl ?_ ?_
                  · intro hc56
                    refine k_iconst K X0 d1_132 (v := (-1 : Int32)) rfl (q := 133) rfl ?_
                    exact J53 _ (by first | rfl | (simp only [if_neg hc54, if_neg hc55, if_neg hc56]))
                  · intro hc56
                    refine k_bipush K X0 d1_127 (v := (6 : Int32)) rfl (q := 129) rfl ?_
                    refine k_goto K X0 d1_129 (by decide) (q := 133) rfl ?_
                    exact J53 _ (by first | rfl | (simp only [if_neg hc54, if_neg hc55, if_pos hc56]))
        · intro hc34
          refine k_iloadN K X0 d1_84 rfl (q := 85) rfl ?_
          refine k_iconst K X0 d1_85 (v := (2 : Int32)) rfl (q := 86) rfl ?_
          have J60 : ∀ (d59 : Int32), (if p0 = (2 : Int32) then (4 : Int32) else (if p0 = (3 : Int32) then (4 : Int32) else (-1 : Int32))) = d59 → Run p e below s kc kn Q T0 (mkF m 99 #[.val (.int p0), .val (.int p1)] [(.int d59)]) := by
            intro d59 hv_d59
            exact k_reti K X0 e0 d1_99 (Nat.le_trans (by decide) hkc) (Nat.le_trans (by decide) hkn) (hQ _ _ _ ⟨(by show some (Value.int d59) = some (Value.int (F_after p0 p1)); simp only [F_after, hv_d59, if_pos hc1, if_pos hc2, if_neg hc33, if_pos hc34]), rfl, rfl⟩)
          refine k_icmp_eq K X0 d1_86 (by decide) (q := 94) rfl (q' := 89) rfl ?_ ?_
          · intro hc61
            refine k_iconst K X0 d1_94 (v := (4 : Int32)) rfl (q := 95) rfl ?_
            refine k_goto K X0 d1_95 (by decide) (q := 99) rfl ?_
            exact J60 _ (by first | rfl | (simp only [if_pos hc61]))
          · intro hc61
            refine k_iloadN K X0 d1_89 rfl (q := 90) rfl ?_
            refine k_iconst K X0 d1_90 (v := (3 : Int32)) rfl (q := 91) rfl ?_
            refine k_icmp_ne K X0 d1_91 (by decide) (q := 98) rfl (q' := 94) rfl ?_ ?_
            · intro hc62
              refine k_iconst K X0 d1_98 (v := (-1 : Int32)) rfl (q := 99) rfl ?_
              exact J60 _ (by first | rfl | (simp only [if_neg hc61, if_neg hc62]))
            · intro hc62
              refine k_iconst K X0 d1_94 (v := (4 : Int32)) rfl (q := 95) rfl ?_
              refine k_goto K X0 d1_95 (by decide) (q := 99) rfl ?_
              exact J60 _ (by first | rfl | (simp only [if_neg hc61, if_pos hc62]))
      · intro hc33
        refine k_iconst K X0 d1_76 (v := (1 : Int32)) rfl (q := 77) rfl ?_
        exact k_reti K X0 e0 d1_77 (Nat.le_trans (by decide) hkc) (Nat.le_trans (by decide) hkn) (hQ _ _ _ ⟨(by show some (Value.int (1 : Int32)) = some (Value.int (F_after p0 p1)); simp only [F_after, if_pos hc1, if_pos hc2, if_pos hc33]), rfl, rfl⟩)
  · intro hc1
    refine k_iloadN K X0 d1_6 rfl (q := 7) rfl ?_
    refine k_bipush K X0 d1_7 (v := (57 : Int32)) rfl (q := 9) rfl ?_
    refine k_icmp_gt K X0 d1_9 (by decide) (q := 66) rfl (q' := 12) rfl ?_ ?_
    · intro hc63
      refine k_iloadN K X0 d1_66 rfl (q := 67) rfl ?_
      refine k_bipush K X0 d1_67 (v := (45 : Int32)) rfl (q := 69) rfl ?_
      refine k_icmp_ne K X0 d1_69 (by decide) (q := 78) rfl (q' := 72) rfl ?_ ?_
      · intro hc64
        refine k_iloadN K X0 d1_78 rfl (q := 79) rfl ?_
        refine k_bipush K X0 d1_79 (v := (46 : Int32)) rfl (q := 81) rfl ?_
        refine k_icmp_ne K X0 d1_81 (by decide) (q := 100) rfl (q' := 84) rfl ?_ ?_
        · intro hc65
          refine k_iloadN K X0 d1_100 rfl (q := 101) rfl ?_
          refine k_bipush K X0 d1_101 (v := (101 : Int32)) rfl (q := 103) rfl ?_
          refine k_icmp_eq K X0 d1_103 (by decide) (q := 112) rfl (q' := 106) rfl ?_ ?_
          · intro hc66
            refine k_iloadN K X0 d1_112 rfl (q := 113) rfl ?_
            refine k_iconst K X0 d1_113 (v := (2 : Int32)) rfl (q := 114) rfl ?_
            have J71 : ∀ (d70 : Int32), (if p0 = (2 : Int32) then (6 : Int32) else (if p0 = (3 : Int32) then (6 : Int32) else (if p0 = (5 : Int32) then (6 : Int32) else (-1 : Int32)))) = d70 → Run p e below s kc kn Q T0 (mkF m 133 #[.val (.int p0), .val (.int p1)] [(.int d70)]) := by
              intro d70 hv_d70
              exact k_reti K X0 e0 d1_133 (Nat.le_trans (by decide) hkc) (Nat.le_trans (by decide) hkn) (hQ _ _ _ ⟨(by show some (Value.int d70) = some (Value.int (F_after p0 p1)); simp only [F_after, hv_d70, if_neg hc1, if_pos hc63, if_neg hc64, if_neg hc65, if_pos hc66]), rfl, rfl⟩)
            refine k_icmp_eq K X0 d1_114 (by decide) (q := 127) rfl (q' := 117) rfl ?_ ?_
            · intro hc72
              refine k_bipush K X0 d1_127 (v := (6 : Int32)) rfl (q := 129) rfl ?_
              refine k_goto K X0 d1_129 (by decide) (q := 133) rfl ?_
              exact J71 _ (by first | rfl | (simp only [if_pos hc72]))
            · intro hc72
              refine k_iloadN K X0 d1_117 rfl (q := 118) rfl ?_
              refine k_iconst K X0 d1_118 (v := (3 : Int32)) rfl (q := 119) rfl ?_
              refine k_icmp_eq K X0 d1_119 (by decide) (q := 127) rfl (q' := 122) rfl ?_ ?_
              · intro hc73
                refine k_bipush K X0 d1_127 (v := (6 : Int32)) rfl (q := 129) rfl ?_
                refine k_goto K X0 d1_129 (by decide) (q := 133) rfl ?_
                exact J71 _ (by first | rfl | (simp only [if_neg hc72, if_pos hc73]))
              · intro hc73
                refine k_iloadN K X0 d1_122 rfl (q := 123) rfl ?_
                refine k_iconst K X0 d1_123 (v := (5 : Int32)) rfl (q := 124) rfl ?_
                refine k_icmp_ne K X0 d1_124 (by decide) (q := 132) rfl (q' := 127) rfl ?_ ?_
                · intro hc74
                  refine k_iconst K X0 d1_132 (v := (-1 : Int32)) rfl (q := 133) rfl ?_
                  exact J71 _ (by first | rfl | (simp only [if_neg hc72, if_neg hc73, if_neg hc74]))
                · intro hc74
                  refine k_bipush K X0 d1_127 (v := (6 : Int32)) rfl (q := 129) rfl ?_
                  refine k_goto K X0 d1_129 (by decide) (q := 133) rfl ?_
                  exact J71 _ (by first | rfl | (simp only [if_neg hc72, if_neg hc73, if_pos hc74]))
          · intro hc66
            refine k_iloadN K X0 d1_106 rfl (q := 107) rfl ?_
            refine k_bipush K X0 d1_107 (v := (69 : Int32)) rfl (q := 109) rfl ?_
            refine k_icmp_ne K X0 d1_109 (by decide) (q := 134) rfl (q' := 112) rfl ?_ ?_
            · intro hc75
              refine k_iloadN K X0 d1_134 rfl (q := 135) rfl ?_
              refine k_bipush K X0 d1_135 (v := (45 : Int32)) rfl (q := 137) rfl ?_
              refine k_icmp_eq_n K X0 d1_137 hc64 (q := 140) rfl ?_
              refine k_iloadN K X0 d1_140 rfl (q := 141) rfl ?_
              refine k_bipush K X0 d1_141 (v := (43 : Int32)) rfl (q := 143) rfl ?_
              refine k_icmp_ne K X0 d1_143 (by decide) (q := 159) rfl (q' := 146) rfl ?_ ?_
              · intro hc76
                refine k_iconst K X0 d1_159 (v := (-1 : Int32)) rfl (q := 160) rfl ?_
                exact k_reti K X0 e0 d1_160 (Nat.le_trans (by decide) hkc) (Nat.le_trans (by decide) hkn) (hQ _ _ _ ⟨(by show some (Value.int (-1 : Int32)) = some (Value.int (F_after p0 p1)); simp only [F_after, if_neg hc1, if_pos hc63, if_neg hc64, if_neg hc65, if_neg hc66, if_neg hc75, if_neg hc76]), rfl, rfl⟩)
              · intro hc76
                refine k_iloadN K X0 d1_146 rfl (q := 147) rfl ?_
                refine k_bipush K X0 d1_147 (v := (6 : Int32)) rfl (q := 149) rfl ?_
                have J79 : ∀ (d78 : Int32), (if p0 = (6 : Int32) then (7 : Int32) else (-1 : Int32)) = d78 → Run p e below s kc kn Q T0 (mkF m 158 #[.val (.int p0), .val (.int p1)] [(.int d78)]) := by
                  intro d78 hv_d78
                  exact k_reti K X0 e0 d1_158 (Nat.le_trans (by decide) hkc) (Nat.le_trans (by decide) hkn) (hQ _ _ _ ⟨(by show some (Value.int d78) = some (Value.int (F_after p0 p1)); simp only [F_after, hv_d78, if_neg hc1, if_pos hc63, if_neg hc64, if_neg hc65, if_neg hc66, if_neg hc75, if_pos hc76]), rfl, rfl⟩)
                refine k_icmp_ne K X0 d1_149 (by decide) (q := 157) rfl (q' := 152) rfl ?_ ?_
                · intro hc80
                  refine k_iconst K X0 d1_157 (v := (-1 : Int32)) rfl (q := 158) rfl ?_
                  exact J79 _ (by first | rfl | (simp only [if_neg hc80]))
                · intro hc80
                  refine k_bipush K X0 d1_152 (v := (7 : Int32)) rfl (q := 154) rfl ?_
                  refine k_goto K X0 d1_154 (by decide) (q := 158) rfl ?_
                  exact J79 _ (by first | rfl | (simp only [if_pos hc80]))
            · intro hc75
              refine k_iloadN K X0 d1_112 rfl (q := 113) rfl ?_
              refine k_iconst K X0 d1_113 (v := (2 : Int32)) rfl (q := 114) rfl ?_
              have J85 : ∀ (d84 : Int32), (if p0 = (2 : Int32) then (6 : Int32) else (if p0 = (3 : Int32) then (6 : Int32) else (if p0 = (5 : Int32) then (6 : Int32) else (-1 : Int32)))) = d84 → Run p e below s kc kn Q T0 (mkF m 133 #[.val (.int p0), .val (.int p1)] [(.int d84)]) := by
                intro d84 hv_d84
                exact k_reti K X0 e0 d1_133 (Nat.le_trans (by decide) hkc) (Nat.le_trans (by decide) hkn) (hQ _ _ _ ⟨(by show some (Value.int d84) = some (Value.int (F_after p0 p1)); simp only [F_after, hv_d84, if_neg hc1, if_pos hc63, if_neg hc64, if_neg hc65, if_neg hc66, if_pos hc75]), rfl, rfl⟩)
              refine k_icmp_eq K X0 d1_114 (by decide) (q := 127) rfl (q' := 117) rfl ?_ ?_
              · intro hc86
                refine k_bipush K X0 d1_127 (v := (6 : Int32)) rfl (q := 129) rfl ?_
                refine k_goto K X0 d1_129 (by decide) (q := 133) rfl ?_
                exact J85 _ (by first | rfl | (simp only [if_pos hc86]))
              · intro hc86
                refine k_iloadN K X0 d1_117 rfl (q := 118) rfl ?_
                refine k_iconst K X0 d1_118 (v := (3 : Int32)) rfl (q := 119) rfl ?_
                refine k_icmp_eq K X0 d1_119 (by decide) (q := 127) rfl (q' := 122) rfl ?_ ?_
                · intro hc87
                  refine k_bipush K X0 d1_127 (v := (6 : Int32)) rfl (q := 129) rfl ?_
                  refine k_goto K X0 d1_129 (by decide) (q := 133) rfl ?_
                  exact J85 _ (by first | rfl | (simp only [if_neg hc86, if_pos hc87]))
                · intro hc87
                  refine k_iloadN K X0 d1_122 rfl (q := 123) rfl ?_
                  refine k_iconst K X0 d1_123 (v := (5 : Int32)) rfl (q := 124) rfl ?_
                  refine k_icmp_ne K X0 d1_124 (by decide) (q := 132) rfl (q' := 127) rfl ?_ ?_
                  · intro hc88
                    refine k_iconst K X0 d1_132 (v := (-1 : Int32)) rfl (q := 133) rfl ?_
                    exact J85 _ (by first | rfl | (simp only [if_neg hc86, if_neg hc87, if_neg hc88]))
                  · intro hc88
                    refine k_bipush K X0 d1_127 (v := (6 : Int32)) rfl (q := 129) rfl ?_
                    refine k_goto K X0 d1_129 (by decide) (q := 133) rfl ?_
                    exact J85 _ (by first | rfl | (simp only [if_neg hc86, if_neg hc87, if_pos hc88]))
        · intro hc65
          refine k_iloadN K X0 d1_84 rfl (q := 85) rfl ?_
          refine k_iconst K X0 d1_85 (v := (2 : Int32)) rfl (q := 86) rfl ?_
          have J92 : ∀ (d91 : Int32), (if p0 = (2 : Int32) then (4 : Int32) else (if p0 = (3 : Int32) then (4 : Int32) else (-1 : Int32))) = d91 → Run p e below s kc kn Q T0 (mkF m 99 #[.val (.int p0), .val (.int p1)] [(.int d91)]) := by
            intro d91 hv_d91
            exact k_reti K X0 e0 d1_99 (Nat.le_trans (by decide) hkc) (Nat.le_trans (by decide) hkn) (hQ _ _ _ ⟨(by show some (Value.int d91) = some (Value.int (F_after p0 p1)); simp only [F_after, hv_d91, if_neg hc1, if_pos hc63, if_neg hc64, if_pos hc65]), rfl, rfl⟩)
          refine k_icmp_eq K X0 d1_86 (by decide) (q := 94) rfl (q' := 89) rfl ?_ ?_
          · intro hc93
            refine k_iconst K X0 d1_94 (v := (4 : Int32)) rfl (q := 95) rfl ?_
            refine k_goto K X0 d1_95 (by decide) (q := 99) rfl ?_
            exact J92 _ (by first | rfl | (simp only [if_pos hc93]))
          · intro hc93
            refine k_iloadN K X0 d1_89 rfl (q := 90) rfl ?_
            refine k_iconst K X0 d1_90 (v := (3 : Int32)) rfl (q := 91) rfl ?_
            refine k_icmp_ne K X0 d1_91 (by decide) (q := 98) rfl (q' := 94) rfl ?_ ?_
            · intro hc94
              refine k_iconst K X0 d1_98 (v := (-1 : Int32)) rfl (q := 99) rfl ?_
              exact J92 _ (by first | rfl | (simp only [if_neg hc93, if_neg hc94]))
            · intro hc94
              refine k_iconst K X0 d1_94 (v := (4 : Int32)) rfl (q := 95) rfl ?_
              refine k_goto K X0 d1_95 (by decide) (q := 99) rfl ?_
              exact J92 _ (by first | rfl | (simp only [if_neg hc93, if_pos hc94]))
      · intro hc64
        refine k_iloadN K X0 d1_72 rfl (q := 73) rfl ?_
        refine k_if_ne K X0 d1_73 (by decide) (q := 78) rfl (q' := 76) rfl ?_ ?_
        · intro hc95
          refine k_iloadN K X0 d1_78 rfl (q := 79) rfl ?_
          refine k_bipush K X0 d1_79 (v := (46 : Int32)) rfl (q := 81) rfl ?_
          refine k_icmp_ne K X0 d1_81 (by decide) (q := 100) rfl (q' := 84) rfl ?_ ?_
          · intro hc96
            refine k_iloadN K X0 d1_100 rfl (q := 101) rfl ?_
            refine k_bipush K X0 d1_101 (v := (101 : Int32)) rfl (q := 103) rfl ?_
            refine k_icmp_eq K X0 d1_103 (by decide) (q := 112) rfl (q' := 106) rfl ?_ ?_
            · intro hc97
              refine k_iloadN K X0 d1_112 rfl (q := 113) rfl ?_
              refine k_iconst K X0 d1_113 (v := (2 : Int32)) rfl (q := 114) rfl ?_
              have J102 : ∀ (d101 : Int32), (if p0 = (2 : Int32) then (6 : Int32) else (if p0 = (3 : Int32) then (6 : Int32) else (if p0 = (5 : Int32) then (6 : Int32) else (-1 : Int32)))) = d101 → Run p e below s kc kn Q T0 (mkF m 133 #[.val (.int p0), .val (.int p1)] [(.int d101)]) := by
                intro d101 hv_d101
                exact k_reti K X0 e0 d1_133 (Nat.le_trans (by decide) hkc) (Nat.le_trans (by decide) hkn) (hQ _ _ _ ⟨(by show some (Value.int d101) = some (Value.int (F_after p0 p1)); simp only [F_after, hv_d101, if_neg hc1, if_pos hc63, if_pos hc64, if_neg hc95, if_neg hc96, if_pos hc97]), rfl, rfl⟩)
              refine k_icmp_eq K X0 d1_114 (by decide) (q := 127) rfl (q' := 117) rfl ?_ ?_
              · intro hc103
                refine k_bipush K X0 d1_127 (v := (6 : Int32)) rfl (q := 129) rfl ?_
                refine k_goto K X0 d1_129 (by decide) (q := 133) rfl ?_
                exact J102 _ (by first | rfl | (simp only [if_pos hc103]))
              · intro hc103
                refine k_iloadN K X0 d1_117 rfl (q := 118) rfl ?_
                refine k_iconst K X0 d1_118 (v := (3 : Int32)) rfl (q := 119) rfl ?_
                refine k_icmp_eq K X0 d1_119 (by decide) (q := 127) rfl (q' := 122) rfl ?_ ?_
                · intro hc104
                  refine k_bipush K X0 d1_127 (v := (6 : Int32)) rfl (q := 129) rfl ?_
                  refine k_goto K X0 d1_129 (by decide) (q := 133) rfl ?_
                  exact J102 _ (by first | rfl | (simp only [if_neg hc103, if_pos hc104]))
                · intro hc104
                  refine k_iloadN K X0 d1_122 rfl (q := 123) rfl ?_
                  refine k_iconst K X0 d1_123 (v := (5 : Int32)) rfl (q := 124) rfl ?_
                  refine k_icmp_ne K X0 d1_124 (by decide) (q := 132) rfl (q' := 127) rfl ?_ ?_
                  · intro hc105
                    refine k_iconst K X0 d1_132 (v := (-1 : Int32)) rfl (q := 133) rfl ?_
                    exact J102 _ (by first | rfl | (simp only [if_neg hc103, if_neg hc104, if_neg hc105]))
                  · intro hc105
                    refine k_bipush K X0 d1_127 (v := (6 : Int32)) rfl (q := 129) rfl ?_
                    refine k_goto K X0 d1_129 (by decide) (q := 133) rfl ?_
                    exact J102 _ (by first | rfl | (simp only [if_neg hc103, if_neg hc104, if_pos hc105]))
            · intro hc97
              refine k_iloadN K X0 d1_106 rfl (q := 107) rfl ?_
              refine k_bipush K X0 d1_107 (v := (69 : Int32)) rfl (q := 109) rfl ?_
              refine k_icmp_ne K X0 d1_109 (by decide) (q := 134) rfl (q' := 112) rfl ?_ ?_
              · intro hc106
                refine k_iloadN K X0 d1_134 rfl (q := 135) rfl ?_
                refine k_bipush K X0 d1_135 (v := (45 : Int32)) rfl (q := 137) rfl ?_
                refine k_icmp_eq_y K X0 d1_137 hc64 (by decide) (q := 146) rfl ?_
                refine k_iloadN K X0 d1_146 rfl (q := 147) rfl ?_
                refine k_bipush K X0 d1_147 (v := (6 : Int32)) rfl (q := 149) rfl ?_
                have J109 : ∀ (d108 : Int32), (if p0 = (6 : Int32) then (7 : Int32) else (-1 : Int32)) = d108 → Run p e below s kc kn Q T0 (mkF m 158 #[.val (.int p0), .val (.int p1)] [(.int d108)]) := by
                  intro d108 hv_d108
                  exact k_reti K X0 e0 d1_158 (Nat.le_trans (by decide) hkc) (Nat.le_trans (by decide) hkn) (hQ _ _ _ ⟨(by show some (Value.int d108) = some (Value.int (F_after p0 p1)); simp only [F_after, hv_d108, if_neg hc1, if_pos hc63, if_pos hc64, if_neg hc95, if_neg hc96, if_neg hc97, if_neg hc106]), rfl, rfl⟩)
                refine k_icmp_ne K X0 d1_149 (by decide) (q := 157) rfl (q' := 152) rfl ?_ ?_
                · intro hc110
                  refine k_iconst K X0 d1_157 (v := (-1 : Int32)) rfl (q := 158) rfl ?_
                  exact J109 _ (by first | rfl | (simp only [if_neg hc110]))
                · intro hc110
                  refine k_bipush K X0 d1_152 (v := (7 : Int32)) rfl (q := 154) rfl ?_
                  refine k_goto K X0 d1_154 (by decide) (q := 158) rfl ?_
                  exact J109 _ (by first | rfl | (simp only [if_pos hc110]))
              · intro hc106
                refine k_iloadN K X0 d1_112 rfl (q := 113) rfl ?_
                refine k_iconst K X0 d1_113 (v := (2 : Int32)) rfl (q := 114) rfl ?_
                have J115 : ∀ (d114 : Int32), (if p0 = (2 : Int32) then (6 : Int32) else (if p0 = (3 : Int32) then (6 : Int32) else (if p0 = (5 : Int32) then (6 : Int32) else (-1 : Int32)))) = d114 → Run p e below s kc kn Q T0 (mkF m 133 #[.val (.int p0), .val (.int p1)] [(.int d114)]) := by
                  intro d114 hv_d114
                  exact k_reti K X0 e0 d1_133 (Nat.le_trans (by decide) hkc) (Nat.le_trans (by decide) hkn) (hQ _ _ _ ⟨(by show some (Value.int d114) = some (Value.int (F_after p0 p1)); simp only [F_after, hv_d114, if_neg hc1, if_pos hc63, if_pos hc64, if_neg hc95, if_neg hc96, if_neg hc97, if_pos hc106]), rfl, rfl⟩)
                refine k_icmp_eq K X0 d1_114 (by decide) (q := 127) rfl (q' := 117) rfl ?_ ?_
                · intro hc116
                  refine k_bipush K X0 d1_127 (v := (6 : Int32)) rfl (q := 129) rfl ?_
                  refine k_goto K X0 d1_129 (by decide) (q := 133) rfl ?_
                  exact J115 _ (by first | rfl | (simp only [if_pos hc116]))
                · intro hc116
                  refine k_iloadN K X0 d1_117 rfl (q := 118) rfl ?_
                  refine k_iconst K X0 d1_118 (v := (3 : Int32)) rfl (q := 119) rfl ?_
                  refine k_icmp_eq K X0 d1_119 (by decide) (q := 127) rfl (q' := 122) rfl ?_ ?_
                  · intro hc117
                    refine k_bipush K X0 d1_127 (v := (6 : Int32)) rfl (q := 129) rfl ?_
                    refine k_goto K X0 d1_129 (by decide) (q := 133) rfl ?_
                    exact J115 _ (by first | rfl | (simp only [if_neg hc116, if_pos hc117]))
                  · intro hc117
                    refine k_iloadN K X0 d1_122 rfl (q := 123) rfl ?_
                    refine k_iconst K X0 d1_123 (v := (5 : Int32)) rfl (q := 124) rfl ?_
                    refine k_icmp_ne K X0 d1_124 (by decide) (q := 132) rfl (q' := 127) rfl ?_ ?_
                    · intro hc118
                      refine k_iconst K X0 d1_132 (v := (-1 : Int32)) rfl (q := 133) rfl ?_
                      exact J115 _ (by first | rfl | (simp only [if_neg hc116, if_neg hc117, if_neg hc118]))
                    · intro hc118
                      refine k_bipush K X0 d1_127 (v := (6 : Int32)) rfl (q := 129) rfl ?_
                      refine k_goto K X0 d1_129 (by decide) (q := 133) rfl ?_
                      exact J115 _ (by first | rfl | (simp only [if_neg hc116, if_neg hc117, if_pos hc118]))
          · intro hc96
            refine k_iloadN K X0 d1_84 rfl (q := 85) rfl ?_
            refine k_iconst K X0 d1_85 (v := (2 : Int32)) rfl (q := 86) rfl ?_
            have J122 : ∀ (d121 : Int32), (if p0 = (2 : Int32) then (4 : Int32) else (if p0 = (3 : Int32) then (4 : Int32) else (-1 : Int32))) = d121 → Run p e below s kc kn Q T0 (mkF m 99 #[.val (.int p0), .val (.int p1)] [(.int d121)]) := by
              intro d121 hv_d121
              exact k_reti K X0 e0 d1_99 (Nat.le_trans (by decide) hkc) (Nat.le_trans (by decide) hkn) (hQ _ _ _ ⟨(by show some (Value.int d121) = some (Value.int (F_after p0 p1)); simp only [F_after, hv_d121, if_neg hc1, if_pos hc63, if_pos hc64, if_neg hc95, if_pos hc96]), rfl, rfl⟩)
            refine k_icmp_eq K X0 d1_86 (by decide) (q := 94) rfl (q' := 89) rfl ?_ ?_
            · intro hc123
              refine k_iconst K X0 d1_94 (v := (4 : Int32)) rfl (q := 95) rfl ?_
              refine k_goto K X0 d1_95 (by decide) (q := 99) rfl ?_
              exact J122 _ (by first | rfl | (simp only [if_pos hc123]))
            · intro hc123
              refine k_iloadN K X0 d1_89 rfl (q := 90) rfl ?_
              refine k_iconst K X0 d1_90 (v := (3 : Int32)) rfl (q := 91) rfl ?_
              refine k_icmp_ne K X0 d1_91 (by decide) (q := 98) rfl (q' := 94) rfl ?_ ?_
              · intro hc124
                refine k_iconst K X0 d1_98 (v := (-1 : Int32)) rfl (q := 99) rfl ?_
                exact J122 _ (by first | rfl | (simp only [if_neg hc123, if_neg hc124]))
              · intro hc124
                refine k_iconst K X0 d1_94 (v := (4 : Int32)) rfl (q := 95) rfl ?_
                refine k_goto K X0 d1_95 (by decide) (q := 99) rfl ?_
                exact J122 _ (by first | rfl | (simp only [if_neg hc123, if_pos hc124]))
        · intro hc95
          refine k_iconst K X0 d1_76 (v := (1 : Int32)) rfl (q := 77) rfl ?_
          exact k_reti K X0 e0 d1_77 (Nat.le_trans (by decide) hkc) (Nat.le_trans (by decide) hkn) (hQ _ _ _ ⟨(by show some (Value.int (1 : Int32)) = some (Value.int (F_after p0 p1)); simp only [F_after, if_neg hc1, if_pos hc63, if_pos hc64, if_pos hc95]), rfl, rfl⟩)
    · intro hc63
      refine k_iloadN K X0 d1_12 rfl (q := 13) rfl ?_
      refine k_if_eq K X0 d1_13 (by decide) (q := 21) rfl (q' := 16) rfl ?_ ?_
      · intro hc125
        refine k_iloadN K X0 d1_21 rfl (q := 22) rfl ?_
        refine k_bipush K X0 d1_22 (v := (48 : Int32)) rfl (q := 24) rfl ?_
        have J128 : ∀ (d127 : Int32), (if p1 = (48 : Int32) then (2 : Int32) else (3 : Int32)) = d127 → Run p e below s kc kn Q T0 (mkF m 32 #[.val (.int p0), .val (.int p1)] [(.int d127)]) := by
          intro d127 hv_d127
          exact k_reti K X0 e0 d1_32 (Nat.le_trans (by decide) hkc) (Nat.le_trans (by decide) hkn) (hQ _ _ _ ⟨(by show some (Value.int d127) = some (Value.int (F_after p0 p1)); simp only [F_after, hv_d127, if_neg hc1, if_neg hc63, if_pos hc125]), rfl, rfl⟩)
        refine k_icmp_ne K X0 d1_24 (by decide) (q := 31) rfl (q' := 27) rfl ?_ ?_
        · intro hc129
          refine k_iconst K X0 d1_31 (v := (3 : Int32)) rfl (q := 32) rfl ?_
          exact J128 _ (by first | rfl | (simp only [if_neg hc129]))
        · intro hc129
          refine k_iconst K X0 d1_27 (v := (2 : Int32)) rfl (q := 28) rfl ?_
          refine k_goto K X0 d1_28 (by decide) (q := 32) rfl ?_
          exact J128 _ (by first | rfl | (simp only [if_pos hc129]))
      · intro hc125
        refine k_iloadN K X0 d1_16 rfl (q := 17) rfl ?_
        refine k_iconst K X0 d1_17 (v := (1 : Int32)) rfl (q := 18) rfl ?_
        refine k_icmp_ne K X0 d1_18 (by decide) (q := 33) rfl (q' := 21) rfl ?_ ?_
        · intro hc130
          refine k_iloadN K X0 d1_33 rfl (q := 34) rfl ?_
          refine k_iconst K X0 d1_34 (v := (4 : Int32)) rfl (q := 35) rfl ?_
          refine k_icmp_ne K X0 d1_35 (by decide) (q := 40) rfl (q' := 38) rfl ?_ ?_
          · intro hc131
            refine k_iloadN K X0 d1_40 rfl (q := 41) rfl ?_
            refine k_bipush K X0 d1_41 (v := (6 : Int32)) rfl (q := 43) rfl ?_
            refine k_icmp_eq K X0 d1_43 (by decide) (q := 52) rfl (q' := 46) rfl ?_ ?_
            · intro hc132
              refine k_bipush K X0 d1_52 (v := (8 : Int32)) rfl (q := 54) rfl ?_
              exact k_reti K X0 e0 d1_54 (Nat.le_trans (by decide) hkc) (Nat.le_trans (by decide) hkn) (hQ _ _ _ ⟨(by show some (Value.int (8 : Int32)) = some (Value.int (F_after p0 p1)); simp only [F_after, if_neg hc1, if_neg hc63, if_neg hc125, if_neg hc130, if_neg hc131, if_pos hc132]), rfl, rfl⟩)
            · intro hc132
              refine k_iloadN K X0 d1_46 rfl (q := 47) rfl ?_
              refine k_bipush K X0 d1_47 (v := (7 : Int32)) rfl (q := 49) rfl ?_
              refine k_icmp_ne K X0 d1_49 (by decide) (q := 55) rfl (q' := 52) rfl ?_ ?_
              · intro hc133
                refine k_iloadN K X0 d1_55 rfl (q := 56) rfl ?_
                refine k_iconst K X0 d1_56 (v := (2 : Int32)) rfl (q := 57) rfl ?_
                have J136 : ∀ (d135 : Int32), (if p0 = (2 : Int32) then (-1 : Int32) else p0) = d135 → Run p e below s kc kn Q T0 (mkF m 65 #[.val (.int p0), .val (.int p1)] [(.int d135)]) := by
                  intro d135 hv_d135
                  exact k_reti K X0 e0 d1_65 (Nat.le_trans (by decide) hkc) (Nat.le_trans (by decide) hkn) (hQ _ _ _ ⟨(by show some (Value.int d135) = some (Value.int (F_after p0 p1)); simp only [F_after, hv_d135, if_neg hc1, if_neg hc63, if_neg hc125, if_neg hc130, if_neg hc131, if_neg hc132, if_neg hc133]), rfl, rfl⟩)
                refine k_icmp_ne K X0 d1_57 (by decide) (q := 64) rfl (q' := 60) rfl ?_ ?_
                · intro hc137
                  refine k_iloadN K X0 d1_64 rfl (q := 65) rfl ?_
                  exact J136 _ (by first | rfl | (simp only [if_neg hc137]))
                · intro hc137
                  refine k_iconst K X0 d1_60 (v := (-1 : Int32)) rfl (q := 61) rfl ?_
                  refine k_goto K X0 d1_61 (by decide) (q := 65) rfl ?_
                  exact J136 _ (by first | rfl | (simp only [if_pos hc137]))
              · intro hc133
                refine k_bipush K X0 d1_52 (v := (8 : Int32)) rfl (q := 54) rfl ?_
                exact k_reti K X0 e0 d1_54 (Nat.le_trans (by decide) hkc) (Nat.le_trans (by decide) hkn) (hQ _ _ _ ⟨(by show some (Value.int (8 : Int32)) = some (Value.int (F_after p0 p1)); simp only [F_after, if_neg hc1, if_neg hc63, if_neg hc125, if_neg hc130, if_neg hc131, if_neg hc132, if_pos hc133]), rfl, rfl⟩)
          · intro hc131
            refine k_iconst K X0 d1_38 (v := (5 : Int32)) rfl (q := 39) rfl ?_
            exact k_reti K X0 e0 d1_39 (Nat.le_trans (by decide) hkc) (Nat.le_trans (by decide) hkn) (hQ _ _ _ ⟨(by show some (Value.int (5 : Int32)) = some (Value.int (F_after p0 p1)); simp only [F_after, if_neg hc1, if_neg hc63, if_neg hc125, if_neg hc130, if_pos hc131]), rfl, rfl⟩)
        · intro hc130
          refine k_iloadN K X0 d1_21 rfl (q := 22) rfl ?_
          refine k_bipush K X0 d1_22 (v := (48 : Int32)) rfl (q := 24) rfl ?_
          have J140 : ∀ (d139 : Int32), (if p1 = (48 : Int32) then (2 : Int32) else (3 : Int32)) = d139 → Run p e below s kc kn Q T0 (mkF m 32 #[.val (.int p0), .val (.int p1)] [(.int d139)]) := by
            intro d139 hv_d139
            exact k_reti K X0 e0 d1_32 (Nat.le_trans (by decide) hkc) (Nat.le_trans (by decide) hkn) (hQ _ _ _ ⟨(by show some (Value.int d139) = some (Value.int (F_after p0 p1)); simp only [F_after, hv_d139, if_neg hc1, if_neg hc63, if_neg hc125, if_pos hc130]), rfl, rfl⟩)
          refine k_icmp_ne K X0 d1_24 (by decide) (q := 31) rfl (q' := 27) rfl ?_ ?_
          · intro hc141
            refine k_iconst K X0 d1_31 (v := (3 : Int32)) rfl (q := 32) rfl ?_
            exact J140 _ (by first | rfl | (simp only [if_neg hc141]))
          · intro hc141
            refine k_iconst K X0 d1_27 (v := (2 : Int32)) rfl (q := 28) rfl ?_
            refine k_goto K X0 d1_28 (by decide) (q := 32) rfl ?_
            exact J140 _ (by first | rfl | (simp only [if_pos hc141]))
theorem d2_0 : decode method_3_code 0 = .ok (.iload_n 1, 1) := by decide +kernel
theorem d2_1 : decode method_3_code 1 = .ok (.bipush 48, 2) := by decide +kernel
theorem d2_3 : decode method_3_code 3 = .ok (.if_icmp .lt 13, 3) := by decide +kernel
theorem d2_17 : decode method_3_code 17 = .ok (.istore_n 2, 1) := by decide +kernel
theorem d2_18 : decode method_3_code 18 = .ok (.iload_n 1, 1) := by decide +kernel
theorem d2_19 : decode method_3_code 19 = .ok (.bipush 101, 2) := by decide +kernel
theorem d2_21 : decode method_3_code 21 = .ok (.if_icmp .eq 9, 3) := by decide +kernel
theorem d2_35 : decode method_3_code 35 = .ok (.istore_n 3, 1) := by decide +kernel
theorem d2_36 : decode method_3_code 36 = .ok (.iload_n 0, 1) := by decide +kernel
theorem d2_37 : decode method_3_code 37 = .ok (.ifCond .ne 27, 3) := by decide +kernel
theorem d2_64 : decode method_3_code 64 = .ok (.iload_n 0, 1) := by decide +kernel
theorem d2_65 : decode method_3_code 65 = .ok (.iconst 1, 1) := by decide +kernel
theorem d2_66 : decode method_3_code 66 = .ok (.if_icmp .ne 19, 3) := by decide +kernel
theorem d2_85 : decode method_3_code 85 = .ok (.iload_n 0, 1) := by decide +kernel
theorem d2_86 : decode method_3_code 86 = .ok (.iconst 2, 1) := by decide +kernel
theorem d2_87 : decode method_3_code 87 = .ok (.if_icmp .ne 20, 3) := by decide +kernel
theorem d2_107 : decode method_3_code 107 = .ok (.iload_n 0, 1) := by decide +kernel
theorem d2_108 : decode method_3_code 108 = .ok (.iconst 3, 1) := by decide +kernel
theorem d2_109 : decode method_3_code 109 = .ok (.if_icmp .ne 26, 3) := by decide +kernel
theorem d2_135 : decode method_3_code 135 = .ok (.iload_n 0, 1) := by decide +kernel
theorem d2_136 : decode method_3_code 136 = .ok (.iconst 4, 1) := by decide +kernel
theorem d2_137 : decode method_3_code 137 = .ok (.if_icmp .ne 11, 3) := by decide +kernel
theorem d2_148 : decode method_3_code 148 = .ok (.iload_n 0, 1) := by decide +kernel
theorem d2_149 : decode method_3_code 149 = .ok (.iconst 5, 1) := by decide +kernel
theorem d2_150 : decode method_3_code 150 = .ok (.if_icmp .ne 18, 3) := by decide +kernel
theorem d2_168 : decode method_3_code 168 = .ok (.iload_n 0, 1) := by decide +kernel
theorem d2_169 : decode method_3_code 169 = .ok (.bipush 6, 2) := by decide +kernel
theorem d2_171 : decode method_3_code 171 = .ok (.if_icmp .ne 27, 3) := by decide +kernel
theorem d2_198 : decode method_3_code 198 = .ok (.iload_n 0, 1) := by decide +kernel
theorem d2_199 : decode method_3_code 199 = .ok (.bipush 7, 2) := by decide +kernel
theorem d2_201 : decode method_3_code 201 = .ok (.if_icmp .ne 12, 3) := by decide +kernel
theorem d2_213 : decode method_3_code 213 = .ok (.iload_n 0, 1) := by decide +kernel
theorem d2_214 : decode method_3_code 214 = .ok (.bipush 8, 2) := by decide +kernel
theorem d2_216 : decode method_3_code 216 = .ok (.if_icmp .ne 12, 3) := by decide +kernel
theorem d2_228 : decode method_3_code 228 = .ok (.iconst (-1), 1) := by decide +kernel
theorem d2_229 : decode method_3_code 229 = .ok (.ireturn, 1) := by decide +kernel
theorem d2_219 : decode method_3_code 219 = .ok (.iload_n 2, 1) := by decide +kernel
theorem d2_220 : decode method_3_code 220 = .ok (.ifCond .eq 6, 3) := by decide +kernel
theorem d2_226 : decode method_3_code 226 = .ok (.iconst (-1), 1) := by decide +kernel
theorem d2_227 : decode method_3_code 227 = .ok (.ireturn, 1) := by decide +kernel
theorem d2_223 : decode method_3_code 223 = .ok (.bipush 8, 2) := by decide +kernel
theorem d2_225 : decode method_3_code 225 = .ok (.ireturn, 1) := by decide +kernel
theorem d2_204 : decode method_3_code 204 = .ok (.iload_n 2, 1) := by decide +kernel
theorem d2_205 : decode method_3_code 205 = .ok (.ifCond .eq 6, 3) := by decide +kernel
theorem d2_211 : decode method_3_code 211 = .ok (.iconst (-1), 1) := by decide +kernel
theorem d2_212 : decode method_3_code 212 = .ok (.ireturn, 1) := by decide +kernel
theorem d2_208 : decode method_3_code 208 = .ok (.bipush 8, 2) := by decide +kernel
theorem d2_210 : decode method_3_code 210 = .ok (.ireturn, 1) := by decide +kernel
theorem d2_174 : decode method_3_code 174 = .ok (.iload_n 2, 1) := by decide +kernel
theorem d2_175 : decode method_3_code 175 = .ok (.ifCond .eq 6, 3) := by decide +kernel
theorem d2_181 : decode method_3_code 181 = .ok (.iload_n 1, 1) := by decide +kernel
theorem d2_182 : decode method_3_code 182 = .ok (.bipush 45, 2) := by decide +kernel
theorem d2_184 : decode method_3_code 184 = .ok (.if_icmp .eq 9, 3) := by decide +kernel
theorem d2_193 : decode method_3_code 193 = .ok (.bipush 7, 2) := by decide +kernel
theorem d2_195 : decode method_3_code 195 = .ok (.ireturn, 1) := by decide +kernel
theorem d2_187 : decode method_3_code 187 = .ok (.iload_n 1, 1) := by decide +kernel
theorem d2_188 : decode method_3_code 188 = .ok (.bipush 43, 2) := by decide +kernel
theorem d2_190 : decode method_3_code 190 = .ok (.if_icmp .ne 6, 3) := by decide +kernel
theorem d2_196 : decode method_3_code 196 = .ok (.iconst (-1), 1) := by decide +kernel
theorem d2_197 : decode method_3_code 197 = .ok (.ireturn, 1) := by decide +kernel
theorem d2_178 : decode method_3_code 178 = .ok (.bipush 8, 2) := by decide +kernel
theorem d2_180 : decode method_3_code 180 = .ok (.ireturn, 1) := by decide +kernel
theorem d2_153 : decode method_3_code 153 = .ok (.iload_n 2, 1) := by decide +kernel
theorem d2_154 : decode method_3_code 154 = .ok (.ifCond .eq 5, 3) := by decide +kernel
theorem d2_159 : decode method_3_code 159 = .ok (.iload_n 3, 1) := by decide +kernel
theorem d2_160 : decode method_3_code 160 = .ok (.ifCond .eq 6, 3) := by decide +kernel
theorem d2_166 : decode method_3_code 166 = .ok (.iconst (-1), 1) := by decide +kernel
theorem d2_167 : decode method_3_code 167 = .ok (.ireturn, 1) := by decide +kernel
theorem d2_163 : decode method_3_code 163 = .ok (.bipush 6, 2) := by decide +kernel
theorem d2_165 : decode method_3_code 165 = .ok (.ireturn, 1) := by decide +kernel
theorem d2_157 : decode method_3_code 157 = .ok (.iconst 5, 1) := by decide +kernel
theorem d2_158 : decode method_3_code 158 = .ok (.ireturn, 1) := by decide +kernel
theorem d2_140 : decode method_3_code 140 = .ok (.iload_n 2, 1) := by decide +kernel
theorem d2_141 : decode method_3_code 141 = .ok (.ifCond .eq 5, 3) := by decide +kernel
theorem d2_146 : decode method_3_code 146 = .ok (.iconst (-1), 1) := by decide +kernel
theorem d2_147 : decode method_3_code 147 = .ok (.ireturn, 1) := by decide +kernel
theorem d2_144 : decode method_3_code 144 = .ok (.iconst 5, 1) := by decide +kernel
theorem d2_145 : decode method_3_code 145 = .ok (.ireturn, 1) := by decide +kernel
theorem d2_112 : decode method_3_code 112 = .ok (.iload_n 2, 1) := by decide +kernel
theorem d2_113 : decode method_3_code 113 = .ok (.ifCond .eq 5, 3) := by decide +kernel
theorem d2_118 : decode method_3_code 118 = .ok (.iload_n 1, 1) := by decide +kernel
theorem d2_119 : decode method_3_code 119 = .ok (.bipush 46, 2) := by decide +kernel
theorem d2_121 : decode method_3_code 121 = .ok (.if_icmp .ne 5, 3) := by decide +kernel
theorem d2_126 : decode method_3_code 126 = .ok (.iload_n 3, 1) := by decide +kernel
theorem d2_127 : decode method_3_code 127 = .ok (.ifCond .eq 6, 3) := by decide +kernel
theorem d2_133 : decode method_3_code 133 = .ok (.iconst (-1), 1) := by decide +kernel
theorem d2_134 : decode method_3_code 134 = .ok (.ireturn, 1) := by decide +kernel
theorem d2_130 : decode method_3_code 130 = .ok (.bipush 6, 2) := by decide +kernel
theorem d2_132 : decode method_3_code 132 = .ok (.ireturn, 1) := by decide +kernel
theorem d2_124 : decode method_3_code 124 = .ok (.iconst 4, 1) := by decide +kernel
theorem d2_125 : decode method_3_code 125 = .ok (.ireturn, 1) := by decide +kernel
theorem d2_116 : decode method_3_code 116 = .ok (.iconst 3, 1) := by decide +kernel
theorem d2_117 : decode method_3_code 117 = .ok (.ireturn, 1) := by decide +kernel
theorem d2_90 : decode method_3_code 90 = .ok (.iload_n 1, 1) := by decide +kernel
theorem d2_91 : decode method_3_code 91 = .ok (.bipush 46, 2) := by decide +kernel
theorem d2_93 : decode method_3_code 93 = .ok (.if_icmp .ne 5, 3) := by decide +kernel
theorem d2_98 : decode method_3_code 98 = .ok (.iload_n 3, 1) := by decide +kernel
theorem d2_99 : decode method_3_code 99 = .ok (.ifCond .eq 6, 3) := by decide +kernel
theorem d2_105 : decode method_3_code 105 = .ok (.iconst (-1), 1) := by decide +kernel
theorem d2_106 : decode method_3_code 106 = .ok (.ireturn, 1) := by decide +kernel
theorem d2_102 : decode method_3_code 102 = .ok (.bipush 6, 2) := by decide +kernel
theorem d2_104 : decode method_3_code 104 = .ok (.ireturn, 1) := by decide +kernel
theorem d2_96 : decode method_3_code 96 = .ok (.iconst 4, 1) := by decide +kernel
theorem d2_97 : decode method_3_code 97 = .ok (.ireturn, 1) := by decide +kernel
theorem d2_69 : decode method_3_code 69 = .ok (.iload_n 1, 1) := by decide +kernel
theorem d2_70 : decode method_3_code 70 = .ok (.bipush 48, 2) := by decide +kernel
theorem d2_72 : decode method_3_code 72 = .ok (.if_icmp .ne 5, 3) := by decide +kernel
theorem d2_77 : decode method_3_code 77 = .ok (.iload_n 2, 1) := by decide +kernel
theorem d2_78 : decode method_3_code 78 = .ok (.ifCond .eq 5, 3) := by decide +kernel
theorem d2_83 : decode method_3_code 83 = .ok (.iconst (-1), 1) := by decide +kernel
theorem d2_84 : decode method_3_code 84 = .ok (.ireturn, 1) := by decide +kernel
theorem d2_81 : decode method_3_code 81 = .ok (.iconst 3, 1) := by decide +kernel
theorem d2_82 : decode method_3_code 82 = .ok (.ireturn, 1) := by decide +kernel
theorem d2_75 : decode method_3_code 75 = .ok (.iconst 2, 1) := by decide +kernel
theorem d2_76 : decode method_3_code 76 = .ok (.ireturn, 1) := by decide +kernel
theorem d2_40 : decode method_3_code 40 = .ok (.iload_n 1, 1) := by decide +kernel
theorem d2_41 : decode method_3_code 41 = .ok (.bipush 48, 2) := by decide +kernel
theorem d2_43 : decode method_3_code 43 = .ok (.if_icmp .ne 5, 3) := by decide +kernel
theorem d2_48 : decode method_3_code 48 = .ok (.iload_n 2, 1) := by decide +kernel
theorem d2_49 : decode method_3_code 49 = .ok (.ifCond .eq 5, 3) := by decide +kernel
theorem d2_54 : decode method_3_code 54 = .ok (.iload_n 1, 1) := by decide +kernel
theorem d2_55 : decode method_3_code 55 = .ok (.bipush 45, 2) := by decide +kernel
theorem d2_57 : decode method_3_code 57 = .ok (.if_icmp .ne 5, 3) := by decide +kernel
theorem d2_62 : decode method_3_code 62 = .ok (.iconst (-1), 1) := by decide +kernel
theorem d2_63 : decode method_3_code 63 = .ok (.ireturn, 1) := by decide +kernel
theorem d2_60 : decode method_3_code 60 = .ok (.iconst 1, 1) := by decide +kernel
theorem d2_61 : decode method_3_code 61 = .ok (.ireturn, 1) := by decide +kernel
theorem d2_52 : decode method_3_code 52 = .ok (.iconst 3, 1) := by decide +kernel
theorem d2_53 : decode method_3_code 53 = .ok (.ireturn, 1) := by decide +kernel
theorem d2_46 : decode method_3_code 46 = .ok (.iconst 2, 1) := by decide +kernel
theorem d2_47 : decode method_3_code 47 = .ok (.ireturn, 1) := by decide +kernel
theorem d2_30 : decode method_3_code 30 = .ok (.iconst 1, 1) := by decide +kernel
theorem d2_31 : decode method_3_code 31 = .ok (.goto 4, 3) := by decide +kernel
theorem d2_24 : decode method_3_code 24 = .ok (.iload_n 1, 1) := by decide +kernel
theorem d2_25 : decode method_3_code 25 = .ok (.bipush 69, 2) := by decide +kernel
theorem d2_27 : decode method_3_code 27 = .ok (.if_icmp .ne 7, 3) := by decide +kernel
theorem d2_34 : decode method_3_code 34 = .ok (.iconst 0, 1) := by decide +kernel
theorem d2_16 : decode method_3_code 16 = .ok (.iconst 0, 1) := by decide +kernel
theorem d2_6 : decode method_3_code 6 = .ok (.iload_n 1, 1) := by decide +kernel
theorem d2_7 : decode method_3_code 7 = .ok (.bipush 57, 2) := by decide +kernel
theorem d2_9 : decode method_3_code 9 = .ok (.if_icmp .gt 7, 3) := by decide +kernel
theorem d2_12 : decode method_3_code 12 = .ok (.iconst 1, 1) := by decide +kernel
theorem d2_13 : decode method_3_code 13 = .ok (.goto 4, 3) := by decide +kernel
theorem ef_2 (p0 : Int32) (p1 : Int32) : ∀ m : MethodId, entryFrame m #[(.int p0), (.int p1)] 4 = mkF m 0 #[.val (.int p0), .val (.int p1), .unset, .unset] [] := by intro m; first | (simp [entryFrame, mkF, argsToLocals, Value.category]; done) | rfl
theorem pn_1 : plainName "com/example/centime/centime/DecimalTextAfterPinLaw" = true := by first | (simp [plainName, overriddenIn]; done) | decide +kernel
def F_expected (p0 : Int32) (p1 : Int32) : Int32 :=
  let d144 : Int32 := (if p1 < (48 : Int32) then (0 : Int32) else (if (57 : Int32) < p1 then (0 : Int32) else (1 : Int32)))
  let d148 : Int32 := (if p1 = (101 : Int32) then (1 : Int32) else (if p1 = (69 : Int32) then (1 : Int32) else (0 : Int32)))
  if p0 = (0 : Int32) then
    if p1 = (48 : Int32) then
      (2 : Int32)
    else
      if d144 = (0 : Int32) then
        if p1 = (45 : Int32) then
          (1 : Int32)
        else
          (-1 : Int32)
      else
        (3 : Int32)
  else
    if p0 = (1 : Int32) then
      if p1 = (48 : Int32) then
        (2 : Int32)
      else
        if d144 = (0 : Int32) then
          (-1 : Int32)
        else
          (3 : Int32)
    else
      if p0 = (2 : Int32) then
        if p1 = (46 : Int32) then
          (4 : Int32)
        else
          if d148 = (0 : Int32) then
            (-1 : Int32)
          else
            (6 : Int32)
      else
        if p0 = (3 : Int32) then
          if d144 = (0 : Int32) then
            if p1 = (46 : Int32) then
              (4 : Int32)
            else
              if d148 = (0 : Int32) then
                (-1 : Int32)
              else
                (6 : Int32)
          else
            (3 : Int32)
        else
          if p0 = (4 : Int32) then
            if d144 = (0 : Int32) then
              (-1 : Int32)
            else
              (5 : Int32)
          else
            if p0 = (5 : Int32) then
              if d144 = (0 : Int32) then
                if d148 = (0 : Int32) then
                  (-1 : Int32)
                else
                  (6 : Int32)
              else
                (5 : Int32)
            else
              if p0 = (6 : Int32) then
                if d144 = (0 : Int32) then
                  if p1 = (45 : Int32) then
                    (7 : Int32)
                  else
                    if p1 = (43 : Int32) then
                      (7 : Int32)
                    else
                      (-1 : Int32)
                else
                  (8 : Int32)
              else
                if p0 = (7 : Int32) then
                  if d144 = (0 : Int32) then
                    (-1 : Int32)
                  else
                    (8 : Int32)
                else
                  if p0 = (8 : Int32) then
                    if d144 = (0 : Int32) then
                      (-1 : Int32)
                    else
                      (8 : Int32)
                  else
                    (-1 : Int32)
set_option maxRecDepth 65536 in
set_option maxHeartbeats 40000000 in
theorem rm2 (l : Launch) (Z : State) (az : Array Value) (hw : ∀ d ∈ tables_1, d.before az Z = true) (ws : List Jvm.Cond) (p0 : Int32) (p1 : Int32) (h0 : Heap) :
    Met l (⟨"com/example/centime/centime/DecimalTextAfterPinLaw", "expected", "(IC)I"⟩ : MethodName) method_3_code 4 (some .int) ws ({ frames := 0, cells := 0, slots := 0, locals := 0 } : Room) Z #[(.int p0), (.int p1)] h0 (fun v h' L => v = some (Value.int (F_expected p0 p1)) ∧ h' = h0 ∧ L = []) := by
  refine enter (plainFor_of_name pn_1) (ef_2 p0 p1) ?_
  intro p e s m below meth c T0 kc kn Q hkc hkn hQ K' X0 e0
  have K : Fx p s m meth c method_3_code 4 "com/example/centime/centime/DecimalTextAfterPinLaw" "expected" (some .int) Z := K'
  refine k_iloadN K X0 d2_0 rfl (q := 1) rfl ?_
  refine k_bipush K X0 d2_1 (v := (48 : Int32)) rfl (q := 3) rfl ?_
  have J145 : ∀ (d144 : Int32), (if p1 < (48 : Int32) then (0 : Int32) else (if (57 : Int32) < p1 then (0 : Int32) else (1 : Int32))) = d144 → Run p e below s kc kn Q T0 (mkF m 17 #[.val (.int p0), .val (.int p1), .unset, .unset] [(.int d144)]) := by
    intro d144 hv_d144
    refine k_istoreN K X0 d2_17 rfl (Ls' := #[.val (.int p0), .val (.int p1), .val (.int d144), .unset]) rfl (q := 18) rfl ?_
    refine k_iloadN K X0 d2_18 rfl (q := 19) rfl ?_
    refine k_bipush K X0 d2_19 (v := (101 : Int32)) rfl (q := 21) rfl ?_
    have J149 : ∀ (d148 : Int32), (if p1 = (101 : Int32) then (1 : Int32) else (if p1 = (69 : Int32) then (1 : Int32) else (0 : Int32))) = d148 → Run p e below s kc kn Q T0 (mkF m 35 #[.val (.int p0), .val (.int p1), .val (.int d144), .unset] [(.int d148)]) := by
      intro d148 hv_d148
      refine k_istoreN K X0 d2_35 rfl (Ls' := #[.val (.int p0), .val (.int p1), .val (.int d144), .val (.int d148)]) rfl (q := 36) rfl ?_
      refine k_iloadN K X0 d2_36 rfl (q := 37) rfl ?_
      refine k_if_ne K X0 d2_37 (by decide) (q := 64) rfl (q' := 40) rfl ?_ ?_
      · intro hc150
        refine k_iloadN K X0 d2_64 rfl (q := 65) rfl ?_
        refine k_iconst K X0 d2_65 (v := (1 : Int32)) rfl (q := 66) rfl ?_
        refine k_icmp_ne K X0 d2_66 (by decide) (q := 85) rfl (q' := 69) rfl ?_ ?_
        · intro hc151
          refine k_iloadN K X0 d2_85 rfl (q := 86) rfl ?_
          refine k_iconst K X0 d2_86 (v := (2 : Int32)) rfl (q := 87) rfl ?_
          refine k_icmp_ne K X0 d2_87 (by decide) (q := 107) rfl (q' := 90) rfl ?_ ?_
          · intro hc152
            refine k_iloadN K X0 d2_107 rfl (q := 108) rfl ?_
            refine k_iconst K X0 d2_108 (v := (3 : Int32)) rfl (q := 109) rfl ?_
            refine k_icmp_ne K X0 d2_109 (by decide) (q := 135) rfl (q' := 112) rfl ?_ ?_
            · intro hc153
              refine k_iloadN K X0 d2_135 rfl (q := 136) rfl ?_
              refine k_iconst K X0 d2_136 (v := (4 : Int32)) rfl (q := 137) rfl ?_
              refine k_icmp_ne K X0 d2_137 (by decide) (q := 148) rfl (q' := 140) rfl ?_ ?_
              · intro hc154
                refine k_iloadN K X0 d2_148 rfl (q := 149) rfl ?_
                refine k_iconst K X0 d2_149 (v := (5 : Int32)) rfl (q := 150) rfl ?_
                refine k_icmp_ne K X0 d2_150 (by decide) (q := 168) rfl (q' := 153) rfl ?_ ?_
                · intro hc155
                  refine k_iloadN K X0 d2_168 rfl (q := 169) rfl ?_
                  refine k_bipush K X0 d2_169 (v := (6 : Int32)) rfl (q := 171) rfl ?_
                  refine k_icmp_ne K X0 d2_171 (by decide) (q := 198) rfl (q' := 174) rfl ?_ ?_
                  · intro hc156
                    refine k_iloadN K X0 d2_198 rfl (q := 199) rfl ?_
                    refine k_bipush K X0 d2_199 (v := (7 : Int32)) rfl (q := 201) rfl ?_
                    refine k_icmp_ne K X0 d2_201 (by decide) (q := 213) rfl (q' := 204) rfl ?_ ?_
                    · intro hc157
                      refine k_iloadN K X0 d2_213 rfl (q := 214) rfl ?_
                      refine k_bipush K X0 d2_214 (v := (8 : Int32)) rfl (q := 216) rfl ?_
                      refine k_icmp_ne K X0 d2_216 (by decide) (q := 228) rfl (q' := 219) rfl ?_ ?_
                      · intro hc158
                        refine k_iconst K X0 d2_228 (v := (-1 : Int32)) rfl (q := 229) rfl ?_
                        exact k_reti K X0 e0 d2_229 (Nat.le_trans (by decide) hkc) (Nat.le_trans (by decide) hkn) (hQ _ _ _ ⟨(by show some (Value.int (-1 : Int32)) = some (Value.int (F_expected p0 p1)); simp only [F_expected, hv_d144, hv_d148, if_neg hc150, if_neg hc151, if_neg hc152, if_neg hc153, if_neg hc154, if_neg hc155, if_neg hc156, if_neg hc157, if_neg hc158]), rfl, rfl⟩)
                      · intro hc158
                        refine k_iloadN K X0 d2_219 rfl (q := 220) rfl ?_
                        refine k_if_eq K X0 d2_220 (by decide) (q := 226) rfl (q' := 223) rfl ?_ ?_
                        · intro hc159
                          refine k_iconst K X0 d2_226 (v := (-1 : Int32)) rfl (q := 227) rfl ?_
                          exact k_reti K X0 e0 d2_227 (Nat.le_trans (by decide) hkc) (Nat.le_trans (by decide) hkn) (hQ _ _ _ ⟨(by show some (Value.int (-1 : Int32)) = some (Value.int (F_expected p0 p1)); simp only [F_expected, hv_d144, hv_d148, if_neg hc150, if_neg hc151, if_neg hc152, if_neg hc153, if_neg hc154, if_neg hc155, if_neg hc156, if_neg hc157, if_pos hc158, if_pos hc159]), rfl, rfl⟩)
                        · intro hc159
                          refine k_bipush K X0 d2_223 (v := (8 : Int32)) rfl (q := 225) rfl ?_
                          exact k_reti K X0 e0 d2_225 (Nat.le_trans (by decide) hkc) (Nat.le_trans (by decide) hkn) (hQ _ _ _ ⟨(by show some (Value.int (8 : Int32)) = some (Value.int (F_expected p0 p1)); simp only [F_expected, hv_d144, hv_d148, if_neg hc150, if_neg hc151, if_neg hc152, if_neg hc153, if_neg hc154, if_neg hc155, if_neg hc156, if_neg hc157, if_pos hc158, if_neg hc159]), rfl, rfl⟩)
                    · intro hc157
                      refine k_iloadN K X0 d2_204 rfl (q := 205) rfl ?_
                      refine k_if_eq K X0 d2_205 (by decide) (q := 211) rfl (q' := 208) rfl ?_ ?_
                      · intro hc160
                        refine k_iconst K X0 d2_211 (v := (-1 : Int32)) rfl (q := 212) rfl ?_
                        exact k_reti K X0 e0 d2_212 (Nat.le_trans (by decide) hkc) (Nat.le_trans (by decide) hkn) (hQ _ _ _ ⟨(by show some (Value.int (-1 : Int32)) = some (Value.int (F_expected p0 p1)); simp only [F_expected, hv_d144, hv_d148, if_neg hc150, if_neg hc151, if_neg hc152, if_neg hc153, if_neg hc154, if_neg hc155, if_neg hc156, if_pos hc157, if_pos hc160]), rfl, rfl⟩)
                      · intro hc160
                        refine k_bipush K X0 d2_208 (v := (8 : Int32)) rfl (q := 210) rfl ?_
                        exact k_reti K X0 e0 d2_210 (Nat.le_trans (by decide) hkc) (Nat.le_trans (by decide) hkn) (hQ _ _ _ ⟨(by show some (Value.int (8 : Int32)) = some (Value.int (F_expected p0 p1)); simp only [F_expected, hv_d144, hv_d148, if_neg hc150, if_neg hc151, if_neg hc152, if_neg hc153, if_neg hc154, if_neg hc155, if_neg hc156, if_pos hc157, if_neg hc160]), rfl, rfl⟩)
                  · intro hc156
                    refine k_iloadN K X0 d2_174 rfl (q := 175) rfl ?_
                    refine k_if_eq K X0 d2_175 (by decide) (q := 181) rfl (q' := 178) rfl ?_ ?_
                    · intro hc161
                      refine k_iloadN K X0 d2_181 rfl (q := 182) rfl ?_
                      refine k_bipush K X0 d2_182 (v := (45 : Int32)) rfl (q := 184) rfl ?_
                      refine k_icmp_eq K X0 d2_184 (by decide) (q := 193) rfl (q' := 187) rfl ?_ ?_
                      · intro hc162
                        refine k_bipush K X0 d2_193 (v := (7 : Int32)) rfl (q := 195) rfl ?_
                        exact k_reti K X0 e0 d2_195 (Nat.le_trans (by decide) hkc) (Nat.le_trans (by decide) hkn) (hQ _ _ _ ⟨(by show some (Value.int (7 : Int32)) = some (Value.int (F_expected p0 p1)); simp only [F_expected, hv_d144, hv_d148, if_neg hc150, if_neg hc151, if_neg hc152, if_neg hc153, if_neg hc154, if_neg hc155, if_pos hc156, if_pos hc161, if_pos hc162]), rfl, rfl⟩)
                      · intro hc162
                        refine k_iloadN K X0 d2_187 rfl (q := 188) rfl ?_
                        refine k_bipush K X0 d2_188 (v := (43 : Int32)) rfl (q := 190) rfl ?_
                        refine k_icmp_ne K X0 d2_190 (by decide) (q := 196) rfl (q' := 193) rfl ?_ ?_
                        · intro hc163
                          refine k_iconst K X0 d2_196 (v := (-1 : Int32)) rfl (q := 197) rfl ?_
                          exact k_reti K X0 e0 d2_197 (Nat.le_trans (by decide) hkc) (Nat.le_trans (by decide) hkn) (hQ _ _ _ ⟨(by show some (Value.int (-1 : Int32)) = some (Value.int (F_expected p0 p1)); simp only [F_expected, hv_d144, hv_d148, if_neg hc150, if_neg hc151, if_neg hc152, if_neg hc153, if_neg hc154, if_neg hc155, if_pos hc156, if_pos hc161, if_neg hc162, if_neg hc163]), rfl, rfl⟩)
                        · intro hc163
                          refine k_bipush K X0 d2_193 (v := (7 : Int32)) rfl (q := 195) rfl ?_
                          exact k_reti K X0 e0 d2_195 (Nat.le_trans (by decide) hkc) (Nat.le_trans (by decide) hkn) (hQ _ _ _ ⟨(by show some (Value.int (7 : Int32)) = some (Value.int (F_expected p0 p1)); simp only [F_expected, hv_d144, hv_d148, if_neg hc150, if_neg hc151, if_neg hc152, if_neg hc153, if_neg hc154, if_neg hc155, if_pos hc156, if_pos hc161, if_neg hc162, if_pos hc163]), rfl, rfl⟩)
                    · intro hc161
                      refine k_bipush K X0 d2_178 (v := (8 : Int32)) rfl (q := 180) rfl ?_
                      exact k_reti K X0 e0 d2_180 (Nat.le_trans (by decide) hkc) (Nat.le_trans (by decide) hkn) (hQ _ _ _ ⟨(by show some (Value.int (8 : Int32)) = some (Value.int (F_expected p0 p1)); simp only [F_expected, hv_d144, hv_d148, if_neg hc150, if_neg hc151, if_neg hc152, if_neg hc153, if_neg hc154, if_neg hc155, if_pos hc156, if_neg hc161]), rfl, rfl⟩)
                · intro hc155
                  refine k_iloadN K X0 d2_153 rfl (q := 154) rfl ?_
                  refine k_if_eq K X0 d2_154 (by decide) (q := 159) rfl (q' := 157) rfl ?_ ?_
                  · intro hc164
                    refine k_iloadN K X0 d2_159 rfl (q := 160) rfl ?_
                    refine k_if_eq K X0 d2_160 (by decide) (q := 166) rfl (q' := 163) rfl ?_ ?_
                    · intro hc165
                      refine k_iconst K X0 d2_166 (v := (-1 : Int32)) rfl (q := 167) rfl ?_
                      exact k_reti K X0 e0 d2_167 (Nat.le_trans (by decide) hkc) (Nat.le_trans (by decide) hkn) (hQ _ _ _ ⟨(by show some (Value.int (-1 : Int32)) = some (Value.int (F_expected p0 p1)); simp only [F_expected, hv_d144, hv_d148, if_neg hc150, if_neg hc151, if_neg hc152, if_neg hc153, if_neg hc154, if_pos hc155, if_pos hc164, if_pos hc165]), rfl, rfl⟩)
                    · intro hc165
                      refine k_bipush K X0 d2_163 (v := (6 : Int32)) rfl (q := 165) rfl ?_
                      exact k_reti K X0 e0 d2_165 (Nat.le_trans (by decide) hkc) (Nat.le_trans (by decide) hkn) (hQ _ _ _ ⟨(by show some (Value.int (6 : Int32)) = some (Value.int (F_expected p0 p1)); simp only [F_expected, hv_d144, hv_d148, if_neg hc150, if_neg hc151, if_neg hc152, if_neg hc153, if_neg hc154, if_pos hc155, if_pos hc164, if_neg hc165]), rfl, rfl⟩)
                  · intro hc164
                    refine k_iconst K X0 d2_157 (v := (5 : Int32)) rfl (q := 158) rfl ?_
                    exact k_reti K X0 e0 d2_158 (Nat.le_trans (by decide) hkc) (Nat.le_trans (by decide) hkn) (hQ _ _ _ ⟨(by show some (Value.int (5 : Int32)) = some (Value.int (F_expected p0 p1)); simp only [F_expected, hv_d144, hv_d148, if_neg hc150, if_neg hc151, if_neg hc152, if_neg hc153, if_neg hc154, if_pos hc155, if_neg hc164]), rfl, rfl⟩)
              · intro hc154
                refine k_iloadN K X0 d2_140 rfl (q := 141) rfl ?_
                refine k_if_eq K X0 d2_141 (by decide) (q := 146) rfl (q' := 144) rfl ?_ ?_
                · intro hc166
                  refine k_iconst K X0 d2_146 (v := (-1 : Int32)) rfl (q := 147) rfl ?_
                  exact k_reti K X0 e0 d2_147 (Nat.le_trans (by decide) hkc) (Nat.le_trans (by decide) hkn) (hQ _ _ _ ⟨(by show some (Value.int (-1 : Int32)) = some (Value.int (F_expected p0 p1)); simp only [F_expected, hv_d144, hv_d148, if_neg hc150, if_neg hc151, if_neg hc152, if_neg hc153, if_pos hc154, if_pos hc166]), rfl, rfl⟩)
                · intro hc166
                  refine k_iconst K X0 d2_144 (v := (5 : Int32)) rfl (q := 145) rfl ?_
                  exact k_reti K X0 e0 d2_145 (Nat.le_trans (by decide) hkc) (Nat.le_trans (by decide) hkn) (hQ _ _ _ ⟨(by show some (Value.int (5 : Int32)) = some (Value.int (F_expected p0 p1)); simp only [F_expected, hv_d144, hv_d148, if_neg hc150, if_neg hc151, if_neg hc152, if_neg hc153, if_pos hc154, if_neg hc166]), rfl, rfl⟩)
            · intro hc153
              refine k_iloadN K X0 d2_112 rfl (q := 113) rfl ?_
              refine k_if_eq K X0 d2_113 (by decide) (q := 118) rfl (q' := 116) rfl ?_ ?_
              · intro hc167
                refine k_iloadN K X0 d2_118 rfl (q := 119) rfl ?_
                refine k_bipush K X0 d2_119 (v := (46 : Int32)) rfl (q := 121) rfl ?_
                refine k_icmp_ne K X0 d2_121 (by decide) (q := 126) rfl (q' := 124) rfl ?_ ?_
                · intro hc168
                  refine k_iloadN K X0 d2_126 rfl (q := 127) rfl ?_
                  refine k_if_eq K X0 d2_127 (by decide) (q := 133) rfl (q' := 130) rfl ?_ ?_
                  · intro hc169
                    refine k_iconst K X0 d2_133 (v := (-1 : Int32)) rfl (q := 134) rfl ?_
                    exact k_reti K X0 e0 d2_134 (Nat.le_trans (by decide) hkc) (Nat.le_trans (by decide) hkn) (hQ _ _ _ ⟨(by show some (Value.int (-1 : Int32)) = some (Value.int (F_expected p0 p1)); simp only [F_expected, hv_d144, hv_d148, if_neg hc150, if_neg hc151, if_neg hc152, if_pos hc153, if_pos hc167, if_neg hc168, if_pos hc169]), rfl, rfl⟩)
                  · intro hc169
                    refine k_bipush K X0 d2_130 (v := (6 : Int32)) rfl (q := 132) rfl ?_
                    exact k_reti K X0 e0 d2_132 (Nat.le_trans (by decide) hkc) (Nat.le_trans (by decide) hkn) (hQ _ _ _ ⟨(by show some (Value.int (6 : Int32)) = some (Value.int (F_expected p0 p1)); simp only [F_expected, hv_d144, hv_d148, if_neg hc150, if_neg hc151, if_neg hc152, if_pos hc153, if_pos hc167, if_neg hc168, if_neg hc169]), rfl, rfl⟩)
                · intro hc168
                  refine k_iconst K X0 d2_124 (v := (4 : Int32)) rfl (q := 125) rfl ?_
                  exact k_reti K X0 e0 d2_125 (Nat.le_trans (by decide) hkc) (Nat.le_trans (by decide) hkn) (hQ _ _ _ ⟨(by show some (Value.int (4 : Int32)) = some (Value.int (F_expected p0 p1)); simp only [F_expected, hv_d144, hv_d148, if_neg hc150, if_neg hc151, if_neg hc152, if_pos hc153, if_pos hc167, if_pos hc168]), rfl, rfl⟩)
              · intro hc167
                refine k_iconst K X0 d2_116 (v := (3 : Int32)) rfl (q := 117) rfl ?_
                exact k_reti K X0 e0 d2_117 (Nat.le_trans (by decide) hkc) (Nat.le_trans (by decide) hkn) (hQ _ _ _ ⟨(by show some (Value.int (3 : Int32)) = some (Value.int (F_expected p0 p1)); simp only [F_expected, hv_d144, hv_d148, if_neg hc150, if_neg hc151, if_neg hc152, if_pos hc153, if_neg hc167]), rfl, rfl⟩)
          · intro hc152
            refine k_iloadN K X0 d2_90 rfl (q := 91) rfl ?_
            refine k_bipush K X0 d2_91 (v := (46 : Int32)) rfl (q := 93) rfl ?_
            refine k_icmp_ne K X0 d2_93 (by decide) (q := 98) rfl (q' := 96) rfl ?_ ?_
            · intro hc170
              refine k_iloadN K X0 d2_98 rfl (q := 99) rfl ?_
              refine k_if_eq K X0 d2_99 (by decide) (q := 105) rfl (q' := 102) rfl ?_ ?_
              · intro hc171
                refine k_iconst K X0 d2_105 (v := (-1 : Int32)) rfl (q := 106) rfl ?_
                exact k_reti K X0 e0 d2_106 (Nat.le_trans (by decide) hkc) (Nat.le_trans (by decide) hkn) (hQ _ _ _ ⟨(by show some (Value.int (-1 : Int32)) = some (Value.int (F_expected p0 p1)); simp only [F_expected, hv_d144, hv_d148, if_neg hc150, if_neg hc151, if_pos hc152, if_neg hc170, if_pos hc171]), rfl, rfl⟩)
              · intro hc171
                refine k_bipush K X0 d2_102 (v := (6 : Int32)) rfl (q := 104) rfl ?_
                exact k_reti K X0 e0 d2_104 (Nat.le_trans (by decide) hkc) (Nat.le_trans (by decide) hkn) (hQ _ _ _ ⟨(by show some (Value.int (6 : Int32)) = some (Value.int (F_expected p0 p1)); simp only [F_expected, hv_d144, hv_d148, if_neg hc150, if_neg hc151, if_pos hc152, if_neg hc170, if_neg hc171]), rfl, rfl⟩)
            · intro hc170
              refine k_iconst K X0 d2_96 (v := (4 : Int32)) rfl (q := 97) rfl ?_
              exact k_reti K X0 e0 d2_97 (Nat.le_trans (by decide) hkc) (Nat.le_trans (by decide) hkn) (hQ _ _ _ ⟨(by show some (Value.int (4 : Int32)) = some (Value.int (F_expected p0 p1)); simp only [F_expected, hv_d144, hv_d148, if_neg hc150, if_neg hc151, if_pos hc152, if_pos hc170]), rfl, rfl⟩)
        · intro hc151
          refine k_iloadN K X0 d2_69 rfl (q := 70) rfl ?_
          refine k_bipush K X0 d2_70 (v := (48 : Int32)) rfl (q := 72) rfl ?_
          refine k_icmp_ne K X0 d2_72 (by decide) (q := 77) rfl (q' := 75) rfl ?_ ?_
          · intro hc172
            refine k_iloadN K X0 d2_77 rfl (q := 78) rfl ?_
            refine k_if_eq K X0 d2_78 (by decide) (q := 83) rfl (q' := 81) rfl ?_ ?_
            · intro hc173
              refine k_iconst K X0 d2_83 (v := (-1 : Int32)) rfl (q := 84) rfl ?_
              exact k_reti K X0 e0 d2_84 (Nat.le_trans (by decide) hkc) (Nat.le_trans (by decide) hkn) (hQ _ _ _ ⟨(by show some (Value.int (-1 : Int32)) = some (Value.int (F_expected p0 p1)); simp only [F_expected, hv_d144, hv_d148, if_neg hc150, if_pos hc151, if_neg hc172, if_pos hc173]), rfl, rfl⟩)
            · intro hc173
              refine k_iconst K X0 d2_81 (v := (3 : Int32)) rfl (q := 82) rfl ?_
              exact k_reti K X0 e0 d2_82 (Nat.le_trans (by decide) hkc) (Nat.le_trans (by decide) hkn) (hQ _ _ _ ⟨(by show some (Value.int (3 : Int32)) = some (Value.int (F_expected p0 p1)); simp only [F_expected, hv_d144, hv_d148, if_neg hc150, if_pos hc151, if_neg hc172, if_neg hc173]), rfl, rfl⟩)
          · intro hc172
            refine k_iconst K X0 d2_75 (v := (2 : Int32)) rfl (q := 76) rfl ?_
            exact k_reti K X0 e0 d2_76 (Nat.le_trans (by decide) hkc) (Nat.le_trans (by decide) hkn) (hQ _ _ _ ⟨(by show some (Value.int (2 : Int32)) = some (Value.int (F_expected p0 p1)); simp only [F_expected, hv_d144, hv_d148, if_neg hc150, if_pos hc151, if_pos hc172]), rfl, rfl⟩)
      · intro hc150
        refine k_iloadN K X0 d2_40 rfl (q := 41) rfl ?_
        refine k_bipush K X0 d2_41 (v := (48 : Int32)) rfl (q := 43) rfl ?_
        refine k_icmp_ne K X0 d2_43 (by decide) (q := 48) rfl (q' := 46) rfl ?_ ?_
        · intro hc174
          refine k_iloadN K X0 d2_48 rfl (q := 49) rfl ?_
          refine k_if_eq K X0 d2_49 (by decide) (q := 54) rfl (q' := 52) rfl ?_ ?_
          · intro hc175
            refine k_iloadN K X0 d2_54 rfl (q := 55) rfl ?_
            refine k_bipush K X0 d2_55 (v := (45 : Int32)) rfl (q := 57) rfl ?_
            refine k_icmp_ne K X0 d2_57 (by decide) (q := 62) rfl (q' := 60) rfl ?_ ?_
            · intro hc176
              refine k_iconst K X0 d2_62 (v := (-1 : Int32)) rfl (q := 63) rfl ?_
              exact k_reti K X0 e0 d2_63 (Nat.le_trans (by decide) hkc) (Nat.le_trans (by decide) hkn) (hQ _ _ _ ⟨(by show some (Value.int (-1 : Int32)) = some (Value.int (F_expected p0 p1)); simp only [F_expected, hv_d144, hv_d148, if_pos hc150, if_neg hc174, if_pos hc175, if_neg hc176]), rfl, rfl⟩)
            · intro hc176
              refine k_iconst K X0 d2_60 (v := (1 : Int32)) rfl (q := 61) rfl ?_
              exact k_reti K X0 e0 d2_61 (Nat.le_trans (by decide) hkc) (Nat.le_trans (by decide) hkn) (hQ _ _ _ ⟨(by show some (Value.int (1 : Int32)) = some (Value.int (F_expected p0 p1)); simp only [F_expected, hv_d144, hv_d148, if_pos hc150, if_neg hc174, if_pos hc175, if_pos hc176]), rfl, rfl⟩)
          · intro hc175
            refine k_iconst K X0 d2_52 (v := (3 : Int32)) rfl (q := 53) rfl ?_
            exact k_reti K X0 e0 d2_53 (Nat.le_trans (by decide) hkc) (Nat.le_trans (by decide) hkn) (hQ _ _ _ ⟨(by show some (Value.int (3 : Int32)) = some (Value.int (F_expected p0 p1)); simp only [F_expected, hv_d144, hv_d148, if_pos hc150, if_neg hc174, if_neg hc175]), rfl, rfl⟩)
        · intro hc174
          refine k_iconst K X0 d2_46 (v := (2 : Int32)) rfl (q := 47) rfl ?_
          exact k_reti K X0 e0 d2_47 (Nat.le_trans (by decide) hkc) (Nat.le_trans (by decide) hkn) (hQ _ _ _ ⟨(by show some (Value.int (2 : Int32)) = some (Value.int (F_expected p0 p1)); simp only [F_expected, hv_d144, hv_d148, if_pos hc150, if_pos hc174]), rfl, rfl⟩)
    refine k_icmp_eq K X0 d2_21 (by decide) (q := 30) rfl (q' := 24) rfl ?_ ?_
    · intro hc177
      refine k_iconst K X0 d2_30 (v := (1 : Int32)) rfl (q := 31) rfl ?_
      refine k_goto K X0 d2_31 (by decide) (q := 35) rfl ?_
      exact J149 _ (by first | rfl | (simp only [if_pos hc177]))
    · intro hc177
      refine k_iloadN K X0 d2_24 rfl (q := 25) rfl ?_
      refine k_bipush K X0 d2_25 (v := (69 : Int32)) rfl (q := 27) rfl ?_
      refine k_icmp_ne K X0 d2_27 (by decide) (q := 34) rfl (q' := 30) rfl ?_ ?_
      · intro hc178
        refine k_iconst K X0 d2_34 (v := (0 : Int32)) rfl (q := 35) rfl ?_
        exact J149 _ (by first | rfl | (simp only [if_neg hc177, if_neg hc178]))
      · intro hc178
        refine k_iconst K X0 d2_30 (v := (1 : Int32)) rfl (q := 31) rfl ?_
        refine k_goto K X0 d2_31 (by decide) (q := 35) rfl ?_
        exact J149 _ (by first | rfl | (simp only [if_neg hc177, if_pos hc178]))
  refine k_icmp_lt K X0 d2_3 (by decide) (q := 16) rfl (q' := 6) rfl ?_ ?_
  · intro hc179
    refine k_iconst K X0 d2_16 (v := (0 : Int32)) rfl (q := 17) rfl ?_
    exact J145 _ (by first | rfl | (simp only [if_pos hc179]))
  · intro hc179
    refine k_iloadN K X0 d2_6 rfl (q := 7) rfl ?_
    refine k_bipush K X0 d2_7 (v := (57 : Int32)) rfl (q := 9) rfl ?_
    refine k_icmp_gt K X0 d2_9 (by decide) (q := 16) rfl (q' := 12) rfl ?_ ?_
    · intro hc180
      refine k_iconst K X0 d2_16 (v := (0 : Int32)) rfl (q := 17) rfl ?_
      exact J145 _ (by first | rfl | (simp only [if_neg hc179, if_pos hc180]))
    · intro hc180
      refine k_iconst K X0 d2_12 (v := (1 : Int32)) rfl (q := 13) rfl ?_
      refine k_goto K X0 d2_13 (by decide) (q := 17) rfl ?_
      exact J145 _ (by first | rfl | (simp only [if_neg hc179, if_neg hc180]))
theorem own_eqI {x y : Int32} : x = y ↔ x.toInt = y.toInt := Int32.toInt_inj.symm
theorem own_eqJ {x y : Int64} : x = y ↔ x.toInt = y.toInt := Int64.toInt_inj.symm
theorem own_ltI {x y : Int32} : x < y ↔ x.toInt < y.toInt := Int32.lt_iff_toInt_lt
theorem own_ltJ {x y : Int64} : x < y ↔ x.toInt < y.toInt := Int64.lt_iff_toInt_lt
theorem own_enum (t : Int32) (h1 : -1 ≤ t.toInt) (h2 : t.toInt ≤ 8) : t = (-1 : Int32) ∨ t = (0 : Int32) ∨ t = (1 : Int32) ∨ t = (2 : Int32) ∨ t = (3 : Int32) ∨ t = (4 : Int32) ∨ t = (5 : Int32) ∨ t = (6 : Int32) ∨ t = (7 : Int32) ∨ t = (8 : Int32) := by
  have h : t.toInt = -1 ∨ t.toInt = 0 ∨ t.toInt = 1 ∨ t.toInt = 2 ∨ t.toInt = 3 ∨ t.toInt = 4 ∨ t.toInt = 5 ∨ t.toInt = 6 ∨ t.toInt = 7 ∨ t.toInt = 8 := by omega
  rcases h with h | h | h | h | h | h | h | h | h | h
  · exact Or.inl (Int32.toInt_inj.mp (h.trans (by decide)))
  · exact Or.inr (Or.inl (Int32.toInt_inj.mp (h.trans (by decide))))
  · exact Or.inr (Or.inr (Or.inl (Int32.toInt_inj.mp (h.trans (by decide)))))
  · exact Or.inr (Or.inr (Or.inr (Or.inl (Int32.toInt_inj.mp (h.trans (by decide))))))
  · exact Or.inr (Or.inr (Or.inr (Or.inr (Or.inl (Int32.toInt_inj.mp (h.trans (by decide)))))))
  · exact Or.inr (Or.inr (Or.inr (Or.inr (Or.inr (Or.inl (Int32.toInt_inj.mp (h.trans (by decide))))))))
  · exact Or.inr (Or.inr (Or.inr (Or.inr (Or.inr (Or.inr (Or.inl (Int32.toInt_inj.mp (h.trans (by decide)))))))))
  · exact Or.inr (Or.inr (Or.inr (Or.inr (Or.inr (Or.inr (Or.inr (Or.inl (Int32.toInt_inj.mp (h.trans (by decide))))))))))
  · exact Or.inr (Or.inr (Or.inr (Or.inr (Or.inr (Or.inr (Or.inr (Or.inr (Or.inl (Int32.toInt_inj.mp (h.trans (by decide)))))))))))
  · exact Or.inr (Or.inr (Or.inr (Or.inr (Or.inr (Or.inr (Or.inr (Or.inr (Or.inr (Int32.toInt_inj.mp (h.trans (by decide)))))))))))
theorem own_rem (p0 d : Int32) (n : Int) (hd : d.toInt = n) (h0 : 0 < n) : 0 ≤ ((p0 &&& 2147483647) % d).toInt ∧ ((p0 &&& 2147483647) % d).toInt < n := by
  have h1 := (c_and p0 2147483647 (by decide)).1
  have h2 := (c_irem (p0 &&& 2147483647) d n hd).1 h1
  have h3 := Int.emod_nonneg (p0 &&& 2147483647).toInt (show n ≠ 0 by omega)
  have h4 := Int.emod_lt_of_pos (p0 &&& 2147483647).toInt h0
  omega
theorem own_ix (p0 : Int32) : ¬ ((p0 &&& 2147483647) % 10) < 0 ∧ ((p0 &&& 2147483647) % 10).toNatClampNeg < 10 := by
  have h := own_rem p0 10 10 rfl (by decide)
  refine ⟨fun z => ?_, ?_⟩
  · have := own_ltI.mp z; have e : (0 : Int32).toInt = 0 := rfl
    omega
  · simp only [Int32.toNatClampNeg]; omega
theorem pd_0 : parseMethodDescriptor "(IC)I" = some ⟨[.int, .char], some .int⟩ := by decide +kernel
theorem ef_0 (p0 : Int32) (p1 : Int32) (p2 : Int32) : ∀ m : MethodId, entryFrame m #[(.int p0), (.int p1), (.int p2)] maxLocals = mkF m 0 #[.val (.int p0), .val (.int p1), .val (.int p2), .unset, .unset, .unset, .unset] [] := by intro m; first | (simp [entryFrame, mkF, argsToLocals, Value.category, maxLocals]; done) | rfl
def F_law (p0 : Int32) (p1 : Int32) (p2 : Int32) : Int32 :=
  let v181 : Int32 := (((p0 &&& (2147483647 : Int32)) % (10 : Int32)) - (1 : Int32))
  let v182 : Int32 := (p1 &&& (3 : Int32))
  if v182 = (0 : Int32) then
    let v677 : Int32 := (i2c (p2 &&& (65535 : Int32)))
    let d685 : Int32 := (if (F_after v181 v677) = (F_expected v181 v677) then (1 : Int32) else (0 : Int32))
    (nar .boolean d685)
  else
    if v182 = (1 : Int32) then
      let v666 : Int32 := (i2c ((47 : Int32) + ((p2 &&& (2147483647 : Int32)) % (12 : Int32))))
      let d674 : Int32 := (if (F_after v181 v666) = (F_expected v181 v666) then (1 : Int32) else (0 : Int32))
      (nar .boolean d674)
    else
      if v182 = (2 : Int32) then
        let v655 : Int32 := (List.getD [(45 : Int32), (43 : Int32), (46 : Int32), (101 : Int32), (69 : Int32), (100 : Int32), (102 : Int32), (68 : Int32), (70 : Int32), (44 : Int32)] (Int32.toNatClampNeg ((p2 &&& (2147483647 : Int32)) % (10 : Int32))) 0)
        let d663 : Int32 := (if (F_after v181 v655) = (F_expected v181 v655) then (1 : Int32) else (0 : Int32))
        (nar .boolean d663)
      else
        let v531 : Int32 := (i2c ((65280 : Int32) + (p2 &&& (255 : Int32))))
        let d539 : Int32 := (if (F_after v181 v531) = (F_expected v181 v531) then (1 : Int32) else (0 : Int32))
        (nar .boolean d539)
set_option maxRecDepth 65536 in
set_option maxHeartbeats 40000000 in
theorem rm0 (l : Launch) (Z : State) (az : Array Value) (hw : ∀ d ∈ tables_1, d.before az Z = true) (ws : List Jvm.Cond) (p0 : Int32) (p1 : Int32) (p2 : Int32) (h0 : Heap) (n0 : Nat) (Z0 : n0 ≤ h0.size) :
    Met l x code maxLocals ret ws room_1 Z #[(.int p0), (.int p1), (.int p2)] h0 (fun v h' L => v = some (Value.int (F_law p0 p1 p2)) ∧ Fr n0 L) := by
  refine enter (plainFor_of_name pn_1) (ef_0 p0 p1 p2) ?_
  intro p e s m below meth c T0 kc kn Q hkc hkn hQ K' X0 e0
  have K : Fx p s m meth c code 7 "com/example/centime/centime/DecimalTextAfterPinLaw" "law" (some .boolean) Z := K'
  have N0 := Fr.nil n0
  have K0 : Keep h0 h0 [] := Keep.refl _ _
  refine k_iloadN K X0 at_0 rfl (q := 1) rfl ?_
  refine k_ldc K X0 at_1 (wd hw 0 rfl) (q := 3) rfl ?_
  refine k_iand K X0 at_3 (q := 4) rfl ?_
  refine k_bipush K X0 at_4 (v := (10 : Int32)) rfl (q := 6) rfl ?_
  refine k_irem K X0 at_6 (by decide) (q := 7) rfl ?_
  refine k_iconst K X0 at_7 (v := (1 : Int32)) rfl (q := 8) rfl ?_
  refine k_isub K X0 at_8 (q := 9) rfl ?_
  obtain ⟨v181, hv_v181⟩ : ∃ z : Int32, (((p0 &&& (2147483647 : Int32)) % (10 : Int32)) - (1 : Int32)) = z := ⟨_, rfl⟩
  refine k_istoreN K X0 at_9 hv_v181 (Ls' := #[.val (.int p0), .val (.int p1), .val (.int p2), .val (.int v181), .unset, .unset, .unset]) rfl (q := 10) rfl ?_
  refine k_iloadN K X0 at_10 rfl (q := 11) rfl ?_
  refine k_iconst K X0 at_11 (v := (3 : Int32)) rfl (q := 12) rfl ?_
  refine k_iand K X0 at_12 (q := 13) rfl ?_
  obtain ⟨v182, hv_v182⟩ : ∃ z : Int32, (p1 &&& (3 : Int32)) = z := ⟨_, rfl⟩
  refine k_istore K X0 at_13 hv_v182 (Ls' := #[.val (.int p0), .val (.int p1), .val (.int p2), .val (.int v181), .val (.int v182), .unset, .unset]) rfl (q := 15) rfl ?_
  refine k_iload K X0 at_15 rfl (q := 17) rfl ?_
  refine k_if_ne K X0 at_17 (by decide) (q := 30) rfl (q' := 20) rfl ?_ ?_
  · intro hc299
    refine k_iload K X0 at_30 rfl (q := 32) rfl ?_
    refine k_iconst K X0 at_32 (v := (1 : Int32)) rfl (q := 33) rfl ?_
    refine k_icmp_ne K X0 at_33 (by decide) (q := 52) rfl (q' := 36) rfl ?_ ?_
    · intro hc415
      refine k_iload K X0 at_52 rfl (q := 54) rfl ?_
      refine k_iconst K X0 at_54 (v := (2 : Int32)) rfl (q := 55) rfl ?_
      refine k_icmp_ne K X0 at_55 (by decide) (q := 133) rfl (q' := 58) rfl ?_ ?_
      · intro hc530
        refine k_ldc K X0 at_133 (wd hw 1 rfl) (q := 135) rfl ?_
        refine k_iloadN K X0 at_135 rfl (q := 136) rfl ?_
        refine k_sipush K X0 at_136 (v := (255 : Int32)) rfl (q := 139) rfl ?_
        refine k_iand K X0 at_139 (q := 140) rfl ?_
        refine k_iadd K X0 at_140 (q := 141) rfl ?_
        refine k_i2c K X0 at_141 (q := 142) rfl ?_
        obtain ⟨v531, hv_v531⟩ : ∃ z : Int32, (i2c ((65280 : Int32) + (p2 &&& (255 : Int32)))) = z := ⟨_, rfl⟩
        refine k_istore K X0 at_142 hv_v531 (Ls' := #[.val (.int p0), .val (.int p1), .val (.int p2), .val (.int v181), .val (.int v182), .val (.int v531), .unset]) rfl (q := 144) rfl ?_
        refine k_iloadN K X0 at_144 rfl (q := 145) rfl ?_
        refine k_iload K X0 at_145 rfl (q := 147) rfl ?_
        refine k_staticP K X0 e0 at_147 (wd hw 2 rfl) (wd hw 3 rfl) (wd hw 4 rfl) (wd hw 5 rfl) (by decide) (rm1 l Z az hw [] v181 v531 h0) (W := 0) (by decide) (by decide) (by decide) (by decide) rfl pd_0 (argsL := [(.int v181), (.int v531)]) (rest := []) rfl rfl rfl (Nat.le_of_eq rfl) (q := 150) rfl ?_
        intro T532 X533 e534
        refine k_iloadN K X533 at_150 rfl (q := 151) rfl ?_
        refine k_iload K X533 at_151 rfl (q := 153) rfl ?_
        refine k_staticP K X533 e534 at_153 (wd hw 6 rfl) (wd hw 7 rfl) (wd hw 8 rfl) (wd hw 9 rfl) (by decide) (rm2 l Z az hw [] v181 v531 h0) (W := 1) (by decide) (by decide) (by decide) (by decide) rfl pd_0 (argsL := [(.int v181), (.int v531)]) (rest := [(.int (F_after v181 v531))]) rfl rfl rfl (Nat.le_of_eq rfl) (q := 156) rfl ?_
        intro T535 X536 e537
        have J540 : ∀ (d539 : Int32), (if (F_after v181 v531) = (F_expected v181 v531) then (1 : Int32) else (0 : Int32)) = d539 → Run p e below s kc kn Q T535 (mkF m 164 #[.val (.int p0), .val (.int p1), .val (.int p2), .val (.int v181), .val (.int v182), .val (.int v531), .unset] [(.int d539)]) := by
          intro d539 hv_d539
          exact k_retz K X536 e537 at_164 (Nat.le_trans (by decide) hkc) (Nat.le_trans (by decide) hkn) (hQ _ _ _ ⟨(by show some (Value.int (nar .boolean d539)) = some (Value.int (F_law p0 p1 p2)); simp only [F_law, hv_v181, hv_v182, hv_v531, hv_d539, if_neg hc299, if_neg hc415, if_neg hc530]), N0⟩)
        refine k_icmp_ne K X536 at_156 (by decide) (q := 163) rfl (q' := 159) rfl ?_ ?_
        · intro hc541
          refine k_iconst K X536 at_163 (v := (0 : Int32)) rfl (q := 164) rfl ?_
          exact J540 _ (by first | rfl | (simp only [if_neg hc541]))
        · intro hc541
          refine k_iconst K X536 at_159 (v := (1 : Int32)) rfl (q := 160) rfl ?_
          refine k_goto K X536 at_160 (by decide) (q := 164) rfl ?_
          exact J540 _ (by first | rfl | (simp only [if_pos hc541]))
      · intro hc530
        refine k_bipush K X0 at_58 (v := (10 : Int32)) rfl (q := 60) rfl ?_
        refine k_newarray K X0 e0 at_60 (ty := .char) rfl (wd hw 11 rfl) (n := 10) (cap := 10) (by decide) (by decide) (by decide) (by decide) (by decide) (q := 62) rfl ?_
        intro T542 h543 b544 X545 e546 g547 E548 A549 
        have ge550 : n0 ≤ b544 := Nat.le_trans Z0 (Nat.le_of_eq g547.symm)
        have bn551 : h0.size ≤ b544 := Nat.le_trans K0.1 (Nat.le_of_eq g547.symm)
        have K552 := Keep.ext K0 E548
        have Z553 := Nat.le_trans Z0 E548.1
        have f554 : Ary Z h543 b544 .char 10 (fun i => Value.int (List.getD [(0 : Int32), (0 : Int32), (0 : Int32), (0 : Int32), (0 : Int32), (0 : Int32), (0 : Int32), (0 : Int32), (0 : Int32), (0 : Int32)] i 0)) := Ary.eqv A549 (by intro i hi; match i, hi with | 0, _ => rfl | 1, _ => rfl | 2, _ => rfl | 3, _ => rfl | 4, _ => rfl | 5, _ => rfl | 6, _ => rfl | 7, _ => rfl | 8, _ => rfl | 9, _ => rfl | (k + 10), hi => exact absurd hi (by omega))
        refine k_dup K X545 at_62 rfl (q := 63) rfl ?_
        refine k_iconst K X545 at_63 (v := (0 : Int32)) rfl (q := 64) rfl ?_
        refine k_bipush K X545 at_64 (v := (45 : Int32)) rfl (q := 66) rfl ?_
        refine k_castore K X545 e546 at_66 f554 (i := 0) (by decide) (by decide) (q := 67) rfl ?_
        intro T555 h556 X557 e558 W559 A560
        have f561 : Ary Z h556 b544 .char 10 (fun i => Value.int (List.getD [(45 : Int32), (0 : Int32), (0 : Int32), (0 : Int32), (0 : Int32), (0 : Int32), (0 : Int32), (0 : Int32), (0 : Int32), (0 : Int32)] i 0)) := Ary.eqv A560 (by intro i hi; match i, hi with | 0, _ => rfl | 1, _ => rfl | 2, _ => rfl | 3, _ => rfl | 4, _ => rfl | 5, _ => rfl | 6, _ => rfl | 7, _ => rfl | 8, _ => rfl | 9, _ => rfl | (k + 10), hi => exact absurd hi (by omega))
        have N562 := Fr.snoc X557 N0 ge550
        have K563 := Keep.wr K552 W559 (Or.inr bn551)
        have Z564 := Nat.le_trans Z553 (Nat.le_of_eq (Wr.size W559).symm)
        refine k_dup K X557 at_67 rfl (q := 68) rfl ?_
        refine k_iconst K X557 at_68 (v := (1 : Int32)) rfl (q := 69) rfl ?_
        refine k_bipush K X557 at_69 (v := (43 : Int32)) rfl (q := 71) rfl ?_
        refine k_castore K X557 e558 at_71 f561 (i := 1) (by decide) (by decide) (q := 72) rfl ?_
        intro T565 h566 X567 e568 W569 A570
        have f571 : Ary Z h566 b544 .char 10 (fun i => Value.int (List.getD [(45 : Int32), (43 : Int32), (0 : Int32), (0 : Int32), (0 : Int32), (0 : Int32), (0 : Int32), (0 : Int32), (0 : Int32), (0 : Int32)] i 0)) := Ary.eqv A570 (by intro i hi; match i, hi with | 0, _ => rfl | 1, _ => rfl | 2, _ => rfl | 3, _ => rfl | 4, _ => rfl | 5, _ => rfl | 6, _ => rfl | 7, _ => rfl | 8, _ => rfl | 9, _ => rfl | (k + 10), hi => exact absurd hi (by omega))
        have N572 := Fr.snoc X567 N562 ge550
        have K573 := Keep.wr K563 W569 (Or.inr bn551)
        have Z574 := Nat.le_trans Z564 (Nat.le_of_eq (Wr.size W569).symm)
        refine k_dup K X567 at_72 rfl (q := 73) rfl ?_
        refine k_iconst K X567 at_73 (v := (2 : Int32)) rfl (q := 74) rfl ?_
        refine k_bipush K X567 at_74 (v := (46 : Int32)) rfl (q := 76) rfl ?_
        refine k_castore K X567 e568 at_76 f571 (i := 2) (by decide) (by decide) (q := 77) rfl ?_
        intro T575 h576 X577 e578 W579 A580
        have f581 : Ary Z h576 b544 .char 10 (fun i => Value.int (List.getD [(45 : Int32), (43 : Int32), (46 : Int32), (0 : Int32), (0 : Int32), (0 : Int32), (0 : Int32), (0 : Int32), (0 : Int32), (0 : Int32)] i 0)) := Ary.eqv A580 (by intro i hi; match i, hi with | 0, _ => rfl | 1, _ => rfl | 2, _ => rfl | 3, _ => rfl | 4, _ => rfl | 5, _ => rfl | 6, _ => rfl | 7, _ => rfl | 8, _ => rfl | 9, _ => rfl | (k + 10), hi => exact absurd hi (by omega))
        have N582 := Fr.snoc X577 N572 ge550
        have K583 := Keep.wr K573 W579 (Or.inr bn551)
        have Z584 := Nat.le_trans Z574 (Nat.le_of_eq (Wr.size W579).symm)
        refine k_dup K X577 at_77 rfl (q := 78) rfl ?_
        refine k_iconst K X577 at_78 (v := (3 : Int32)) rfl (q := 79) rfl ?_
        refine k_bipush K X577 at_79 (v := (101 : Int32)) rfl (q := 81) rfl ?_
        refine k_castore K X577 e578 at_81 f581 (i := 3) (by decide) (by decide) (q := 82) rfl ?_
        intro T585 h586 X587 e588 W589 A590
        have f591 : Ary Z h586 b544 .char 10 (fun i => Value.int (List.getD [(45 : Int32), (43 : Int32), (46 : Int32), (101 : Int32), (0 : Int32), (0 : Int32), (0 : Int32), (0 : Int32), (0 : Int32), (0 : Int32)] i 0)) := Ary.eqv A590 (by intro i hi; match i, hi with | 0, _ => rfl | 1, _ => rfl | 2, _ => rfl | 3, _ => rfl | 4, _ => rfl | 5, _ => rfl | 6, _ => rfl | 7, _ => rfl | 8, _ => rfl | 9, _ => rfl | (k + 10), hi => exact absurd hi (by omega))
        have N592 := Fr.snoc X587 N582 ge550
        have K593 := Keep.wr K583 W589 (Or.inr bn551)
        have Z594 := Nat.le_trans Z584 (Nat.le_of_eq (Wr.size W589).symm)
        refine k_dup K X587 at_82 rfl (q := 83) rfl ?_
        refine k_iconst K X587 at_83 (v := (4 : Int32)) rfl (q := 84) rfl ?_
        refine k_bipush K X587 at_84 (v := (69 : Int32)) rfl (q := 86) rfl ?_
        refine k_castore K X587 e588 at_86 f591 (i := 4) (by decide) (by decide) (q := 87) rfl ?_
        intro T595 h596 X597 e598 W599 A600
        have f601 : Ary Z h596 b544 .char 10 (fun i => Value.int (List.getD [(45 : Int32), (43 : Int32), (46 : Int32), (101 : Int32), (69 : Int32), (0 : Int32), (0 : Int32), (0 : Int32), (0 : Int32), (0 : Int32)] i 0)) := Ary.eqv A600 (by intro i hi; match i, hi with | 0, _ => rfl | 1, _ => rfl | 2, _ => rfl | 3, _ => rfl | 4, _ => rfl | 5, _ => rfl | 6, _ => rfl | 7, _ => rfl | 8, _ => rfl | 9, _ => rfl | (k + 10), hi => exact absurd hi (by omega))
        have N602 := Fr.snoc X597 N592 ge550
        have K603 := Keep.wr K593 W599 (Or.inr bn551)
        have Z604 := Nat.le_trans Z594 (Nat.le_of_eq (Wr.size W599).symm)
        refine k_dup K X597 at_87 rfl (q := 88) rfl ?_
        refine k_iconst K X597 at_88 (v := (5 : Int32)) rfl (q := 89) rfl ?_
        refine k_bipush K X597 at_89 (v := (100 : Int32)) rfl (q := 91) rfl ?_
        refine k_castore K X597 e598 at_91 f601 (i := 5) (by decide) (by decide) (q := 92) rfl ?_
        intro T605 h606 X607 e608 W609 A610
        have f611 : Ary Z h606 b544 .char 10 (fun i => Value.int (List.getD [(45 : Int32), (43 : Int32), (46 : Int32), (101 : Int32), (69 : Int32), (100 : Int32), (0 : Int32), (0 : Int32), (0 : Int32), (0 : Int32)] i 0)) := Ary.eqv A610 (by intro i hi; match i, hi with | 0, _ => rfl | 1, _ => rfl | 2, _ => rfl | 3, _ => rfl | 4, _ => rfl | 5, _ => rfl | 6, _ => rfl | 7, _ => rfl | 8, _ => rfl | 9, _ => rfl | (k + 10), hi => exact absurd hi (by omega))
        have N612 := Fr.snoc X607 N602 ge550
        have K613 := Keep.wr K603 W609 (Or.inr bn551)
        have Z614 := Nat.le_trans Z604 (Nat.le_of_eq (Wr.size W609).symm)
        refine k_dup K X607 at_92 rfl (q := 93) rfl ?_
        refine k_bipush K X607 at_93 (v := (6 : Int32)) rfl (q := 95) rfl ?_
        refine k_bipush K X607 at_95 (v := (102 : Int32)) rfl (q := 97) rfl ?_
        refine k_castore K X607 e608 at_97 f611 (i := 6) (by decide) (by decide) (q := 98) rfl ?_
        intro T615 h616 X617 e618 W619 A620
        have f621 : Ary Z h616 b544 .char 10 (fun i => Value.int (List.getD [(45 : Int32), (43 : Int32), (46 : Int32), (101 : Int32), (69 : Int32), (100 : Int32), (102 : Int32), (0 : Int32), (0 : Int32), (0 : Int32)] i 0)) := Ary.eqv A620 (by intro i hi; match i, hi with | 0, _ => rfl | 1, _ => rfl | 2, _ => rfl | 3, _ => rfl | 4, _ => rfl | 5, _ => rfl | 6, _ => rfl | 7, _ => rfl | 8, _ => rfl | 9, _ => rfl | (k + 10), hi => exact absurd hi (by omega))
        have N622 := Fr.snoc X617 N612 ge550
        have K623 := Keep.wr K613 W619 (Or.inr bn551)
        have Z624 := Nat.le_trans Z614 (Nat.le_of_eq (Wr.size W619).symm)
        refine k_dup K X617 at_98 rfl (q := 99) rfl ?_
        refine k_bipush K X617 at_99 (v := (7 : Int32)) rfl (q := 101) rfl ?_
        refine k_bipush K X617 at_101 (v := (68 : Int32)) rfl (q := 103) rfl ?_
        refine k_castore K X617 e618 at_103 f621 (i := 7) (by decide) (by decide) (q := 104) rfl ?_
        intro T625 h626 X627 e628 W629 A630
        have f631 : Ary Z h626 b544 .char 10 (fun i => Value.int (List.getD [(45 : Int32), (43 : Int32), (46 : Int32), (101 : Int32), (69 : Int32), (100 : Int32), (102 : Int32), (68 : Int32), (0 : Int32), (0 : Int32)] i 0)) := Ary.eqv A630 (by intro i hi; match i, hi with | 0, _ => rfl | 1, _ => rfl | 2, _ => rfl | 3, _ => rfl | 4, _ => rfl | 5, _ => rfl | 6, _ => rfl | 7, _ => rfl | 8, _ => rfl | 9, _ => rfl | (k + 10), hi => exact absurd hi (by omega))
        have N632 := Fr.snoc X627 N622 ge550
        have K633 := Keep.wr K623 W629 (Or.inr bn551)
        have Z634 := Nat.le_trans Z624 (Nat.le_of_eq (Wr.size W629).symm)
        refine k_dup K X627 at_104 rfl (q := 105) rfl ?_
        refine k_bipush K X627 at_105 (v := (8 : Int32)) rfl (q := 107) rfl ?_
        refine k_bipush K X627 at_107 (v := (70 : Int32)) rfl (q := 109) rfl ?_
        refine k_castore K X627 e628 at_109 f631 (i := 8) (by decide) (by decide) (q := 110) rfl ?_
        intro T635 h636 X637 e638 W639 A640
        have f641 : Ary Z h636 b544 .char 10 (fun i => Value.int (List.getD [(45 : Int32), (43 : Int32), (46 : Int32), (101 : Int32), (69 : Int32), (100 : Int32), (102 : Int32), (68 : Int32), (70 : Int32), (0 : Int32)] i 0)) := Ary.eqv A640 (by intro i hi; match i, hi with | 0, _ => rfl | 1, _ => rfl | 2, _ => rfl | 3, _ => rfl | 4, _ => rfl | 5, _ => rfl | 6, _ => rfl | 7, _ => rfl | 8, _ => rfl | 9, _ => rfl | (k + 10), hi => exact absurd hi (by omega))
        have N642 := Fr.snoc X637 N632 ge550
        have K643 := Keep.wr K633 W639 (Or.inr bn551)
        have Z644 := Nat.le_trans Z634 (Nat.le_of_eq (Wr.size W639).symm)
        refine k_dup K X637 at_110 rfl (q := 111) rfl ?_
        refine k_bipush K X637 at_111 (v := (9 : Int32)) rfl (q := 113) rfl ?_
        refine k_bipush K X637 at_113 (v := (44 : Int32)) rfl (q := 115) rfl ?_
        refine k_castore K X637 e638 at_115 f641 (i := 9) (by decide) (by decide) (q := 116) rfl ?_
        intro T645 h646 X647 e648 W649 A650
        have f651 : Ary Z h646 b544 .char 10 (fun i => Value.int (List.getD [(45 : Int32), (43 : Int32), (46 : Int32), (101 : Int32), (69 : Int32), (100 : Int32), (102 : Int32), (68 : Int32), (70 : Int32), (44 : Int32)] i 0)) := Ary.eqv A650 (by intro i hi; match i, hi with | 0, _ => rfl | 1, _ => rfl | 2, _ => rfl | 3, _ => rfl | 4, _ => rfl | 5, _ => rfl | 6, _ => rfl | 7, _ => rfl | 8, _ => rfl | 9, _ => rfl | (k + 10), hi => exact absurd hi (by omega))
        have N652 := Fr.snoc X647 N642 ge550
        have K653 := Keep.wr K643 W649 (Or.inr bn551)
        have Z654 := Nat.le_trans Z644 (Nat.le_of_eq (Wr.size W649).symm)
        refine k_astore K X647 at_116 rfl (Ls' := #[.val (.int p0), .val (.int p1), .val (.int p2), .val (.int v181), .val (.int v182), .unset, .val (.ref b544)]) rfl (q := 118) rfl ?_
        refine k_aload K X647 at_118 rfl rfl (q := 120) rfl ?_
        refine k_iloadN K X647 at_120 rfl (q := 121) rfl ?_
        refine k_ldc K X647 at_121 (wd hw 0 rfl) (q := 123) rfl ?_
        refine k_iand K X647 at_123 (q := 124) rfl ?_
        refine k_bipush K X647 at_124 (v := (10 : Int32)) rfl (q := 126) rfl ?_
        refine k_irem K X647 at_126 (by decide) (q := 127) rfl ?_
        refine k_caload K X647 e648 at_127 f651 (i := (Int32.toNatClampNeg ((p2 &&& (2147483647 : Int32)) % (10 : Int32)))) (v := (.int (List.getD [(45 : Int32), (43 : Int32), (46 : Int32), (101 : Int32), (69 : Int32), (100 : Int32), (102 : Int32), (68 : Int32), (70 : Int32), (44 : Int32)] (Int32.toNatClampNeg ((p2 &&& (2147483647 : Int32)) % (10 : Int32))) 0))) ⟨(own_ix _).1, rfl⟩ (own_ix _).2 rfl (q := 128) rfl ?_
        obtain ⟨v655, hv_v655⟩ : ∃ z : Int32, (List.getD [(45 : Int32), (43 : Int32), (46 : Int32), (101 : Int32), (69 : Int32), (100 : Int32), (102 : Int32), (68 : Int32), (70 : Int32), (44 : Int32)] (Int32.toNatClampNeg ((p2 &&& (2147483647 : Int32)) % (10 : Int32))) 0) = z := ⟨_, rfl⟩
        refine k_nameI hv_v655 ?_
        refine k_istore K X647 at_128 rfl (Ls' := #[.val (.int p0), .val (.int p1), .val (.int p2), .val (.int v181), .val (.int v182), .val (.int v655), .val (.ref b544)]) rfl (q := 130) rfl ?_
        refine k_goto K X647 at_130 (by decide) (q := 144) rfl ?_
        refine k_iloadN K X647 at_144 rfl (q := 145) rfl ?_
        refine k_iload K X647 at_145 rfl (q := 147) rfl ?_
        refine k_staticP K X647 e648 at_147 (wd hw 2 rfl) (wd hw 3 rfl) (wd hw 4 rfl) (wd hw 5 rfl) (by decide) (rm1 l Z az hw [] v181 v655 h646) (W := 0) (by decide) (by decide) (by decide) (by decide) rfl pd_0 (argsL := [(.int v181), (.int v655)]) (rest := []) rfl rfl rfl (Nat.le_of_eq rfl) (q := 150) rfl ?_
        intro T656 X657 e658
        refine k_iloadN K X657 at_150 rfl (q := 151) rfl ?_
        refine k_iload K X657 at_151 rfl (q := 153) rfl ?_
        refine k_staticP K X657 e658 at_153 (wd hw 6 rfl) (wd hw 7 rfl) (wd hw 8 rfl) (wd hw 9 rfl) (by decide) (rm2 l Z az hw [] v181 v655 h646) (W := 1) (by decide) (by decide) (by decide) (by decide) rfl pd_0 (argsL := [(.int v181), (.int v655)]) (rest := [(.int (F_after v181 v655))]) rfl rfl rfl (Nat.le_of_eq rfl) (q := 156) rfl ?_
        intro T659 X660 e661
        have J664 : ∀ (d663 : Int32), (if (F_after v181 v655) = (F_expected v181 v655) then (1 : Int32) else (0 : Int32)) = d663 → Run p e below s kc kn Q T659 (mkF m 164 #[.val (.int p0), .val (.int p1), .val (.int p2), .val (.int v181), .val (.int v182), .val (.int v655), .val (.ref b544)] [(.int d663)]) := by
          intro d663 hv_d663
          exact k_retz K X660 e661 at_164 (Nat.le_trans (by decide) hkc) (Nat.le_trans (by decide) hkn) (hQ _ _ _ ⟨(by show some (Value.int (nar .boolean d663)) = some (Value.int (F_law p0 p1 p2)); simp only [F_law, hv_v181, hv_v182, hv_v655, hv_d663, if_neg hc299, if_neg hc415, if_pos hc530]), N652⟩)
        refine k_icmp_ne K X660 at_156 (by decide) (q := 163) rfl (q' := 159) rfl ?_ ?_
        · intro hc665
          refine k_iconst K X660 at_163 (v := (0 : Int32)) rfl (q := 164) rfl ?_
          exact J664 _ (by first | rfl | (simp only [if_neg hc665]))
        · intro hc665
          refine k_iconst K X660 at_159 (v := (1 : Int32)) rfl (q := 160) rfl ?_
          refine k_goto K X660 at_160 (by decide) (q := 164) rfl ?_
          exact J664 _ (by first | rfl | (simp only [if_pos hc665]))
    · intro hc415
      refine k_bipush K X0 at_36 (v := (47 : Int32)) rfl (q := 38) rfl ?_
      refine k_iloadN K X0 at_38 rfl (q := 39) rfl ?_
      refine k_ldc K X0 at_39 (wd hw 0 rfl) (q := 41) rfl ?_
      refine k_iand K X0 at_41 (q := 42) rfl ?_
      refine k_bipush K X0 at_42 (v := (12 : Int32)) rfl (q := 44) rfl ?_
      refine k_irem K X0 at_44 (by decide) (q := 45) rfl ?_
      refine k_iadd K X0 at_45 (q := 46) rfl ?_
      refine k_i2c K X0 at_46 (q := 47) rfl ?_
      obtain ⟨v666, hv_v666⟩ : ∃ z : Int32, (i2c ((47 : Int32) + ((p2 &&& (2147483647 : Int32)) % (12 : Int32)))) = z := ⟨_, rfl⟩
      refine k_istore K X0 at_47 hv_v666 (Ls' := #[.val (.int p0), .val (.int p1), .val (.int p2), .val (.int v181), .val (.int v182), .val (.int v666), .unset]) rfl (q := 49) rfl ?_
      refine k_goto K X0 at_49 (by decide) (q := 144) rfl ?_
      refine k_iloadN K X0 at_144 rfl (q := 145) rfl ?_
      refine k_iload K X0 at_145 rfl (q := 147) rfl ?_
      refine k_staticP K X0 e0 at_147 (wd hw 2 rfl) (wd hw 3 rfl) (wd hw 4 rfl) (wd hw 5 rfl) (by decide) (rm1 l Z az hw [] v181 v666 h0) (W := 0) (by decide) (by decide) (by decide) (by decide) rfl pd_0 (argsL := [(.int v181), (.int v666)]) (rest := []) rfl rfl rfl (Nat.le_of_eq rfl) (q := 150) rfl ?_
      intro T667 X668 e669
      refine k_iloadN K X668 at_150 rfl (q := 151) rfl ?_
      refine k_iload K X668 at_151 rfl (q := 153) rfl ?_
      refine k_staticP K X668 e669 at_153 (wd hw 6 rfl) (wd hw 7 rfl) (wd hw 8 rfl) (wd hw 9 rfl) (by decide) (rm2 l Z az hw [] v181 v666 h0) (W := 1) (by decide) (by decide) (by decide) (by decide) rfl pd_0 (argsL := [(.int v181), (.int v666)]) (rest := [(.int (F_after v181 v666))]) rfl rfl rfl (Nat.le_of_eq rfl) (q := 156) rfl ?_
      intro T670 X671 e672
      have J675 : ∀ (d674 : Int32), (if (F_after v181 v666) = (F_expected v181 v666) then (1 : Int32) else (0 : Int32)) = d674 → Run p e below s kc kn Q T670 (mkF m 164 #[.val (.int p0), .val (.int p1), .val (.int p2), .val (.int v181), .val (.int v182), .val (.int v666), .unset] [(.int d674)]) := by
        intro d674 hv_d674
        exact k_retz K X671 e672 at_164 (Nat.le_trans (by decide) hkc) (Nat.le_trans (by decide) hkn) (hQ _ _ _ ⟨(by show some (Value.int (nar .boolean d674)) = some (Value.int (F_law p0 p1 p2)); simp only [F_law, hv_v181, hv_v182, hv_v666, hv_d674, if_neg hc299, if_pos hc415]), N0⟩)
      refine k_icmp_ne K X671 at_156 (by decide) (q := 163) rfl (q' := 159) rfl ?_ ?_
      · intro hc676
        refine k_iconst K X671 at_163 (v := (0 : Int32)) rfl (q := 164) rfl ?_
        exact J675 _ (by first | rfl | (simp only [if_neg hc676]))
      · intro hc676
        refine k_iconst K X671 at_159 (v := (1 : Int32)) rfl (q := 160) rfl ?_
        refine k_goto K X671 at_160 (by decide) (q := 164) rfl ?_
        exact J675 _ (by first | rfl | (simp only [if_pos hc676]))
  · intro hc299
    refine k_iloadN K X0 at_20 rfl (q := 21) rfl ?_
    refine k_ldc K X0 at_21 (wd hw 10 rfl) (q := 23) rfl ?_
    refine k_iand K X0 at_23 (q := 24) rfl ?_
    refine k_i2c K X0 at_24 (q := 25) rfl ?_
    obtain ⟨v677, hv_v677⟩ : ∃ z : Int32, (i2c (p2 &&& (65535 : Int32))) = z := ⟨_, rfl⟩
    refine k_istore K X0 at_25 hv_v677 (Ls' := #[.val (.int p0), .val (.int p1), .val (.int p2), .val (.int v181), .val (.int v182), .val (.int v677), .unset]) rfl (q := 27) rfl ?_
    refine k_goto K X0 at_27 (by decide) (q := 144) rfl ?_
    refine k_iloadN K X0 at_144 rfl (q := 145) rfl ?_
    refine k_iload K X0 at_145 rfl (q := 147) rfl ?_
    refine k_staticP K X0 e0 at_147 (wd hw 2 rfl) (wd hw 3 rfl) (wd hw 4 rfl) (wd hw 5 rfl) (by decide) (rm1 l Z az hw [] v181 v677 h0) (W := 0) (by decide) (by decide) (by decide) (by decide) rfl pd_0 (argsL := [(.int v181), (.int v677)]) (rest := []) rfl rfl rfl (Nat.le_of_eq rfl) (q := 150) rfl ?_
    intro T678 X679 e680
    refine k_iloadN K X679 at_150 rfl (q := 151) rfl ?_
    refine k_iload K X679 at_151 rfl (q := 153) rfl ?_
    refine k_staticP K X679 e680 at_153 (wd hw 6 rfl) (wd hw 7 rfl) (wd hw 8 rfl) (wd hw 9 rfl) (by decide) (rm2 l Z az hw [] v181 v677 h0) (W := 1) (by decide) (by decide) (by decide) (by decide) rfl pd_0 (argsL := [(.int v181), (.int v677)]) (rest := [(.int (F_after v181 v677))]) rfl rfl rfl (Nat.le_of_eq rfl) (q := 156) rfl ?_
    intro T681 X682 e683
    have J686 : ∀ (d685 : Int32), (if (F_after v181 v677) = (F_expected v181 v677) then (1 : Int32) else (0 : Int32)) = d685 → Run p e below s kc kn Q T681 (mkF m 164 #[.val (.int p0), .val (.int p1), .val (.int p2), .val (.int v181), .val (.int v182), .val (.int v677), .unset] [(.int d685)]) := by
      intro d685 hv_d685
      exact k_retz K X682 e683 at_164 (Nat.le_trans (by decide) hkc) (Nat.le_trans (by decide) hkn) (hQ _ _ _ ⟨(by show some (Value.int (nar .boolean d685)) = some (Value.int (F_law p0 p1 p2)); simp only [F_law, hv_v181, hv_v182, hv_v677, hv_d685, if_pos hc299]), N0⟩)
    refine k_icmp_ne K X682 at_156 (by decide) (q := 163) rfl (q' := 159) rfl ?_ ?_
    · intro hc687
      refine k_iconst K X682 at_163 (v := (0 : Int32)) rfl (q := 164) rfl ?_
      exact J686 _ (by first | rfl | (simp only [if_neg hc687]))
    · intro hc687
      refine k_iconst K X682 at_159 (v := (1 : Int32)) rfl (q := 160) rfl ?_
      refine k_goto K X682 at_160 (by decide) (q := 164) rfl ?_
      exact J686 _ (by first | rfl | (simp only [if_pos hc687]))
theorem own_ae (t c : Int32) (h : t = -1 ∨ t = 0 ∨ t = 1 ∨ t = 2 ∨ t = 3 ∨ t = 4 ∨ t = 5 ∨ t = 6 ∨ t = 7 ∨ t = 8) : F_after t c = F_expected t c := by
  by_cases n43 : c = 43
  · subst n43; rcases h with rfl | rfl | rfl | rfl | rfl | rfl | rfl | rfl | rfl | rfl <;> decide
  by_cases n45 : c = 45
  · subst n45; rcases h with rfl | rfl | rfl | rfl | rfl | rfl | rfl | rfl | rfl | rfl <;> decide
  by_cases n46 : c = 46
  · subst n46; rcases h with rfl | rfl | rfl | rfl | rfl | rfl | rfl | rfl | rfl | rfl <;> decide
  by_cases n48 : c = 48
  · subst n48; rcases h with rfl | rfl | rfl | rfl | rfl | rfl | rfl | rfl | rfl | rfl <;> decide
  by_cases n69 : c = 69
  · subst n69; rcases h with rfl | rfl | rfl | rfl | rfl | rfl | rfl | rfl | rfl | rfl <;> decide
  by_cases n101 : c = 101
  · subst n101; rcases h with rfl | rfl | rfl | rfl | rfl | rfl | rfl | rfl | rfl | rfl <;> decide
  by_cases a : c < 48
  · simp only [F_after, F_expected, if_pos a, if_neg n43, if_neg n45, if_neg n46, if_neg n48, if_neg n69, if_neg n101]
    rcases h with rfl | rfl | rfl | rfl | rfl | rfl | rfl | rfl | rfl | rfl <;> decide
  · by_cases b : 57 < c
    · simp only [F_after, F_expected, if_neg a, if_pos b, if_neg n43, if_neg n45, if_neg n46, if_neg n48, if_neg n69, if_neg n101]
      rcases h with rfl | rfl | rfl | rfl | rfl | rfl | rfl | rfl | rfl | rfl <;> decide
    · simp only [F_after, F_expected, if_neg a, if_neg b, if_neg n43, if_neg n45, if_neg n46, if_neg n48, if_neg n69, if_neg n101]
      rcases h with rfl | rfl | rfl | rfl | rfl | rfl | rfl | rfl | rfl | rfl <;> decide
theorem own_rng (p0 : Int32) : -1 ≤ ((p0 &&& 2147483647) % 10 - 1).toInt ∧ ((p0 &&& 2147483647) % 10 - 1).toInt ≤ 8 := by
  have h2 := own_rem p0 10 10 rfl (by decide)
  have h3 := c_isub ((p0 &&& 2147483647) % 10) 1
  have h4 := rng32 ((p0 &&& 2147483647) % 10 - 1)
  have e : (1 : Int32).toInt = 1 := rfl
  omega
theorem law_eq (p0 p1 p2 : Int32) : F_law p0 p1 p2 = 1 := by
  have h := own_rng p0
  have ht := own_enum _ h.1 h.2
  simp only [F_law, own_ae _ _ ht, if_true]
  split
  · decide
  · split
    · decide
    · split <;> decide
set_option maxRecDepth 65536 in
set_option maxHeartbeats 40000000 in
theorem comes_1 {Post : Tables → Env → Array Value → State → Outcome → State → Prop} (hpost : ∀ tb e args s v u, (limb_1_1.after args s (.returned v) u = true ∧ limb_1_2.after args s (.returned v) u = true ∧ True) → FrameEnd s (.returned v) u (Jvm.fieldLocs frame_1_writes args s ++ Jvm.arrayLocs frame_1_arrays args s ++ Jvm.staticLocs frame_1_statics s) 16 128 → Post tb e args s (.returned v) u) :
    ArmFor flags0 classFile x code maxLocals ret World_1 tables_1 room_1 Calls_1 rest_1 Pre_1 Post := by
  intro l hfl _ _ p e ha hc hk s m args below hf hA hF happ hP
  obtain ⟨hcalls, hrest, hpre⟩ := hP
  obtain ⟨-, -, -, hnamed, -, -, -, hat⟩ := (Spec.applies_iff hf).mp happ
  obtain ⟨hg, hn⟩ := and_e (Cond.before_iff.mp (show (Jvm.Cond.and given_1 narrow_1).before args s = true from hpre))
  obtain ⟨gc, g0⟩ := and_e hg
  obtain ⟨ga0, g1⟩ := and_e g0
  obtain ⟨ga1, g2⟩ := and_e g1
  obtain ⟨w0, w1, w2, rfl⟩ : ∃ w0 w1 w2 : Value, args = #[w0, w1, w2] := by
    have hs : args.size = 3 := by simpa [Cond.value, given_1] using gc
    obtain ⟨L⟩ := args
    match L, hs with
    | [w0, w1, w2], _ => exact ⟨w0, w1, w2, rfl⟩
  have hw := fun d (hd : d ∈ tables_1) => atoms_spec (ws := Jvm.Cond.code x code maxLocals ret :: tables_1) hat d (List.mem_cons_of_mem _ hd)
  obtain ⟨i0, ei0⟩ := is_v ga0
  obtain rfl : w0 = (.int i0) := Option.some.inj ei0
  obtain ⟨i1, ei1⟩ := is_v ga1
  obtain rfl : w1 = (.int i1) := Option.some.inj ei1
  obtain ⟨i2, ei2⟩ := is_v g2
  obtain rfl : w2 = (.int i2) := Option.some.inj ei2
  obtain ⟨n, o, h1, h2, h3, _, L, rfl, ⟨rfl, N⟩, hq⟩ := rm0 l s _ hw tables_1 i0 i1 i2 s.heap s.heap.size (Nat.le_refl _) p e ha hc hk s m _ below hf ((Spec.applies_iff_loose hf).mp happ).1 ⟨rfl, State.Warmed39.refl s, rfl⟩ trivial
  rw [law_eq] at *
  refine ⟨n, _, h1, h2, h3, hpost _ _ _ _ _ _ ⟨Cond.after_iff.mpr rfl, Cond.after_iff.mpr (eq_i res_at (Term.int_eval (1)) rfl), trivial⟩ ⟨hq.1, hq.2.1, (hq.2.2.sift fun y hy => Or.inr (N y hy)).mono (by decide) (by decide)⟩⟩
theorem main_1_1 : Claimed_1_1 := comes_1 fun _ _ _ _ _ _ h hF => ⟨h.1, hF⟩
theorem main_1_2 : Claimed_1_2 := comes_1 fun _ _ _ _ _ _ h hF => ⟨h.2.1, hF⟩
end Jvm.Pilot.@@N@@
namespace Jvm.Pilot.@@N@@
open Jvm Jvm.ClassFile Sem Op Lib Jvm.Free Jvm.Stand Jvm.Pilot.@@N@@.Jvm.D
/-! MADE BY PROGRAM (witnessworld.py) out of the Statement's table words and the real class files: 11 classes; the members and pool entries that the words name. The judged class is class 1, her method 1. -/
namespace start1
open Jvm.ClassFile
def u (s : String) : CpInfo := .utf8 (stringToUtf16 s)
/-- a pool by its gaps: so many unusable entries, then the entry; so many at the end -/
def gap : Nat → List CpInfo → List CpInfo
  | 0, r => r
  | n + 1, r => .unusable :: gap n r
def poolList (es : List (Nat × CpInfo)) (last : Nat) : List CpInfo := es.foldr (fun e r => gap e.1 (e.2 :: r)) (gap last [])
def pool (es : List (Nat × CpInfo)) (last : Nat) : Array CpInfo := ⟨poolList es last⟩
def fileOf (pool : Array CpInfo) (this : Nat) (attrs : Array Attribute := #[]) (ms : Array MethodInfo := #[]) (fl : Nat := 33) (sup : Nat := 0) (ifs : Array Nat := #[]) (fds : Array FieldInfo := #[]) : ClassFile where
  minorVersion := 0
  majorVersion := 65
  constantPool := pool
  accessFlags := fl
  thisClass := this
  superClass := sup
  interfaces := ifs
  fields := fds
  methods := ms
  attributes := attrs
def plain (name : String) (sup : Option ClassId) : Class where
  name := name
  kind := .ordinary
  loader := none
  accessFlags := 33
  super := sup
  interfaces := #[]
  cf := none
  fields := #[]
  methods := #[]
  instanceTypes := #[]
  staticTypes := #[]
  resolved := #[]
  callSites := []
  init := .initialized
  statics := none
  mirror := none

def pool0 : Array CpInfo := pool [(5, u "<init>"), (0, u "()V"), (1, .class_ 10), (1, u "java/lang/Object")] 113

def k0m0 : Method := { name := "<init>", desc := "()V", sig := { parameters := [], returnType := none }, accessFlags := 1, code := none }
/-- java/lang/Object -/
def k0 : Class := { plain "java/lang/Object" none with
  accessFlags := 33
  interfaces := #[]
  cf := some (fileOf pool0 8 #[] #[{ accessFlags := 1, nameIndex := 5, descriptorIndex := 6, attributes := #[] }] 33 0 #[] #[])
  fields := #[]
  methods := #[k0m0]
  instanceTypes := #[]
  staticTypes := #[]
  resolved := Array.replicate 124 none
  statics := none }

def pool1 : Array CpInfo := pool [(2, .class_ 4), (1, u "java/lang/Object"), (0, u "<init>"), (0, u "()V"), (0, .integer 2147483647), (0, .integer 65535), (0, .integer 65280), (0, .methodref 11 12), (0, .class_ 13), (0, .nameAndType 14 15), (0, u "com/example/centime/centime/DecimalText"), (0, u "after"), (0, u "(IC)I"), (0, .methodref 17 18), (0, .class_ 19), (0, .nameAndType 20 15), (0, u "com/example/centime/centime/DecimalTextAfterPinLaw"), (0, u "expected"), (2, u "law"), (0, u "(III)Z")] 3

def k1m0 : Method := { name := "<init>", desc := "()V", sig := { parameters := [], returnType := none }, accessFlags := 2, code := none }
def k1c1 : Code := { maxStack := 4, maxLocals := 7, code := code, exceptionTable := #[], attributes := #[] }
def k1m1 : Method := { name := "law", desc := "(III)Z", sig := { parameters := [.int, .int, .int], returnType := some .boolean }, accessFlags := 9, code := some k1c1 }
def k1c2 : Code := { maxStack := 2, maxLocals := 4, code := method_3_code, exceptionTable := #[], attributes := #[] }
def k1m2 : Method := { name := "expected", desc := "(IC)I", sig := { parameters := [.int, .char], returnType := some .int }, accessFlags := 10, code := some k1c2 }
/-- com/example/centime/centime/DecimalTextAfterPinLaw -/
def k1 : Class := { plain "com/example/centime/centime/DecimalTextAfterPinLaw" (some 0) with
  accessFlags := 49
  interfaces := #[]
  cf := some (fileOf pool1 17 #[] #[{ accessFlags := 2, nameIndex := 5, descriptorIndex := 6, attributes := #[] }, { accessFlags := 9, nameIndex := 23, descriptorIndex := 24, attributes := #[] }, { accessFlags := 10, nameIndex := 20, descriptorIndex := 15, attributes := #[] }] 49 2 #[] #[])
  fields := #[]
  methods := #[k1m0, k1m1, k1m2]
  instanceTypes := #[]
  staticTypes := #[]
  resolved := Array.replicate 28 none
  statics := none }

def pool2 : Array CpInfo := pool [(2, .class_ 4), (1, u "java/lang/Object"), (0, u "<init>"), (0, u "()V"), (1, .class_ 10), (1, u "com/example/centime/centime/DecimalText"), (55, u "after"), (0, u "(IC)I"), (4, u "MAX_LENGTH"), (0, u "I"), (2, u "REFUSED"), (1, u "START"), (1, u "SIGN"), (1, u "ZERO"), (1, u "WHOLE"), (1, u "POINT"), (1, u "FRACTION"), (1, u "EXPONENT_MARK"), (1, u "EXPONENT_SIGN"), (1, u "EXPONENT")] 28

def k2m0 : Method := { name := "<init>", desc := "()V", sig := { parameters := [], returnType := none }, accessFlags := 2, code := none }
def k2c1 : Code := { maxStack := 2, maxLocals := 2, code := prog_5_method_5_code, exceptionTable := #[], attributes := #[] }
def k2m1 : Method := { name := "after", desc := "(IC)I", sig := { parameters := [.int, .char], returnType := some .int }, accessFlags := 8, code := some k2c1 }
/-- com/example/centime/centime/DecimalText -/
def k2 : Class := { plain "com/example/centime/centime/DecimalText" (some 0) with
  accessFlags := 48
  interfaces := #[]
  cf := some (fileOf pool2 8 #[] #[{ accessFlags := 2, nameIndex := 5, descriptorIndex := 6, attributes := #[] }, { accessFlags := 8, nameIndex := 66, descriptorIndex := 67, attributes := #[] }] 48 2 #[] #[{ accessFlags := 26, nameIndex := 72, descriptorIndex := 73, attributes := #[] }, { accessFlags := 24, nameIndex := 76, descriptorIndex := 73, attributes := #[] }, { accessFlags := 24, nameIndex := 78, descriptorIndex := 73, attributes := #[] }, { accessFlags := 26, nameIndex := 80, descriptorIndex := 73, attributes := #[] }, { accessFlags := 26, nameIndex := 82, descriptorIndex := 73, attributes := #[] }, { accessFlags := 26, nameIndex := 84, descriptorIndex := 73, attributes := #[] }, { accessFlags := 26, nameIndex := 86, descriptorIndex := 73, attributes := #[] }, { accessFlags := 26, nameIndex := 88, descriptorIndex := 73, attributes := #[] }, { accessFlags := 26, nameIndex := 90, descriptorIndex := 73, attributes := #[] }, { accessFlags := 26, nameIndex := 92, descriptorIndex := 73, attributes := #[] }, { accessFlags := 26, nameIndex := 94, descriptorIndex := 73, attributes := #[] }])
  fields := #[{ name := "MAX_LENGTH", type := .int, accessFlags := 26, slot := 0, constantValue := 0 }, { name := "REFUSED", type := .int, accessFlags := 24, slot := 1, constantValue := 0 }, { name := "START", type := .int, accessFlags := 24, slot := 2, constantValue := 0 }, { name := "SIGN", type := .int, accessFlags := 26, slot := 3, constantValue := 0 }, { name := "ZERO", type := .int, accessFlags := 26, slot := 4, constantValue := 0 }, { name := "WHOLE", type := .int, accessFlags := 26, slot := 5, constantValue := 0 }, { name := "POINT", type := .int, accessFlags := 26, slot := 6, constantValue := 0 }, { name := "FRACTION", type := .int, accessFlags := 26, slot := 7, constantValue := 0 }, { name := "EXPONENT_MARK", type := .int, accessFlags := 26, slot := 8, constantValue := 0 }, { name := "EXPONENT_SIGN", type := .int, accessFlags := 26, slot := 9, constantValue := 0 }, { name := "EXPONENT", type := .int, accessFlags := 26, slot := 10, constantValue := 0 }]
  methods := #[k2m0, k2m1]
  instanceTypes := #[]
  staticTypes := #[.int, .int, .int, .int, .int, .int, .int, .int, .int, .int, .int]
  resolved := Array.replicate 123 none
  statics := none }

def pool3 : Array CpInfo := pool [(1, u "java/lang/Cloneable"), (0, .class_ 1), (0, u "java/lang/Object"), (0, .class_ 3)] 3

/-- java/lang/Cloneable -/
def k3 : Class := { plain "java/lang/Cloneable" (some 0) with
  accessFlags := 1537
  interfaces := #[]
  cf := some (fileOf pool3 2 #[] #[] 1537 4 #[] #[])
  fields := #[]
  methods := #[]
  instanceTypes := #[]
  staticTypes := #[]
  resolved := Array.replicate 8 none
  statics := none }

def pool4 : Array CpInfo := pool [(1, u "java/io/Serializable"), (0, .class_ 1), (0, u "java/lang/Object"), (0, .class_ 3)] 3

/-- java/io/Serializable -/
def k4 : Class := { plain "java/io/Serializable" (some 0) with
  accessFlags := 1537
  interfaces := #[]
  cf := some (fileOf pool4 2 #[] #[] 1537 4 #[] #[])
  fields := #[]
  methods := #[]
  instanceTypes := #[]
  staticTypes := #[]
  resolved := Array.replicate 8 none
  statics := none }

/-- the primitive byte -/
def k5 : Class := { plain "byte" none with kind := .primitive 'B', accessFlags := 0x411 }
/-- [B -/
def k6 : Class := { plain "[B" (some 0) with kind := .array 5 .byte, interfaces := #[3, 4], accessFlags := 1041 }

/-- the primitive char -/
def k7 : Class := { plain "char" none with kind := .primitive 'C', accessFlags := 0x411 }
/-- [C -/
def k8 : Class := { plain "[C" (some 0) with kind := .array 7 .char, interfaces := #[3, 4], accessFlags := 1041 }

/-- the primitive int -/
def k9 : Class := { plain "int" none with kind := .primitive 'I', accessFlags := 0x411 }
/-- [I -/
def k10 : Class := { plain "[I" (some 0) with kind := .array 9 .int, interfaces := #[3, 4], accessFlags := 1041 }

def heap : Heap := #[]
def classes : Array Class := #[k0, k1, k2, k3, k4, k5, k6, k7, k8, k9, k10]
def interned : List (Array UInt16 × Addr) := []
def slotsUsed : Nat := 0
def theMethod : MethodId := ⟨1, 1⟩
def args0 : Array Value := #[.int 5, .int 7, .int 9]
def aboutOver (below : List Frame) : State where
  vm := { classes := classes, interned := interned.toArray }
  heap := heap
  slotsUsed := slotsUsed
  threads := #[{ frames := .invoking theMethod args0 :: below }]
def below0 : List Frame := [.native { method := ⟨0, 0⟩, args := #[] }]
def about1 : State := aboutOver below0
def p0 : Program := .bare "" "" ""
def e0 : Env := launch0.env 0 0 0
theorem w_frames : about1.frames = Frame.invoking theMethod args0 :: below0 := rfl
set_option maxRecDepth 65536 in
theorem w_args : argsFit about1.vm theMethod args0 = true := by decide +kernel
set_option maxRecDepth 65536 in
theorem w_heap : heapFits about1 = true := by decide +kernel
set_option maxRecDepth 65536 in
theorem w_runnable : about1.curStatus? = some .runnable := by decide +kernel
set_option maxRecDepth 65536 in
theorem w_alone : about1.alone = true := by decide +kernel
set_option maxRecDepth 65536 in
theorem w_named : about1.methodNamed? x = some theMethod := by decide +kernel
set_option maxRecDepth 65536 in
theorem w_hears : about1.hears theMethod below0 = true := by decide +kernel
set_option maxRecDepth 65536 in
theorem w_ripe : about1.ripe theMethod args0 below0 = true := by decide +kernel
theorem w_running : about1.status = .running := rfl
set_option maxRecDepth 65536 in
theorem w_room : about1.hasRoom e0.platform room_1 = true :=
  launch0.hasRoom_least _ room_1 (by decide +kernel) (by decide +kernel) (by decide +kernel) (by decide +kernel) (by decide +kernel) (by decide +kernel)
theorem allAtoms_all (ts : List Jvm.Cond) (a : Array Jvm.Value) (st : Jvm.State) : (allAtoms ts).before a st = ts.all (fun c => c.before a st) := by
  induction ts with
  | nil => rfl
  | cons c t ih =>
    show (Jvm.Cond.and c (allAtoms t)).before a st = _
    rw [Jvm.Cond.before_and, ih, List.all_cons]
def words1 : List Jvm.Cond := Jvm.Cond.code x code maxLocals ret :: tables_1
/-- a 'code' word, met by the world's own term for the bytes: nothing is compared byte by byte -/
theorem code_word {y : MethodName} {bytes : ByteArray} {mx : Nat} {rt : Option FieldType} {a : Array Value} {s : State} {m : MethodId} {meth : Method} {c : Code} (h1 : s.methodNamed? y = some m) (h2 : s.vm.method? m = some meth) (h3 : meth.code = some c) (h4 : c.code = bytes)
    (h5 : (c.maxLocals == mx && c.exceptionTable.isEmpty && decide (c.maxStack ≤ mostOperands) && decide (meth.sig.returnType = rt) && !meth.locks && decide (parseMethodDescriptor y.desc = some meth.sig)) = true) : (Jvm.Cond.code y bytes mx rt).before a s = true := by
  simp only [Bool.and_eq_true, beq_iff_eq, Bool.not_eq_true', decide_eq_true_eq] at h5
  obtain ⟨⟨⟨⟨⟨g1, g2⟩, g3⟩, g4⟩, g5⟩, g6⟩ := h5
  simp [Cond.before, Cond.holds, Cond.value, h1, h2, h3, h4, g1, g2, g3, g4, g5, g6]
def isCode : Jvm.Cond → Bool
  | .code _ _ _ _ => true
  | _ => false
theorem all_split {L : List Jvm.Cond} {P : Jvm.Cond → Bool} (h1 : L.all (fun c => isCode c || P c) = true) (h2 : ∀ c ∈ L.filter isCode, P c = true) : L.all P = true := by
  refine List.all_eq_true.mpr fun c hc => ?_
  have h := List.all_eq_true.mp h1 c hc
  rcases Bool.eq_false_or_eq_true (isCode c) with hi | hi
  · exact h2 c (List.mem_filter.mpr ⟨hc, hi⟩)
  · simpa [hi] using h
set_option maxRecDepth 65536 in
theorem w_c0 : (Jvm.Cond.code x code maxLocals ret).before args0 about1 = true := code_word (m := ⟨1, 1⟩) (meth := k1m1) (c := k1c1) (by decide +kernel) rfl rfl rfl (by decide +kernel)
set_option maxRecDepth 65536 in
theorem w_c1 : (Jvm.Cond.code ({ cls := "com/example/centime/centime/DecimalText", name := "after", desc := "(IC)I" } : Jvm.MethodName) prog_5_method_5_code (2 : Nat) (Option.some Jvm.ClassFile.FieldType.int)).before args0 about1 = true := code_word (m := ⟨2, 1⟩) (meth := k2m1) (c := k2c1) (by decide +kernel) rfl rfl rfl (by decide +kernel)
set_option maxRecDepth 65536 in
theorem w_c2 : (Jvm.Cond.code ({ cls := "com/example/centime/centime/DecimalTextAfterPinLaw", name := "expected", desc := "(IC)I" } : Jvm.MethodName) method_3_code (4 : Nat) (Option.some Jvm.ClassFile.FieldType.int)).before args0 about1 = true := code_word (m := ⟨1, 2⟩) (meth := k1m2) (c := k1c2) (by decide +kernel) rfl rfl rfl (by decide +kernel)
def codes1 : List Jvm.Cond := [Jvm.Cond.code x code maxLocals ret, Jvm.Cond.code ({ cls := "com/example/centime/centime/DecimalText", name := "after", desc := "(IC)I" } : Jvm.MethodName) prog_5_method_5_code (2 : Nat) (Option.some Jvm.ClassFile.FieldType.int), Jvm.Cond.code ({ cls := "com/example/centime/centime/DecimalTextAfterPinLaw", name := "expected", desc := "(IC)I" } : Jvm.MethodName) method_3_code (4 : Nat) (Option.some Jvm.ClassFile.FieldType.int)]
set_option maxRecDepth 65536 in
theorem codes_eq : words1.filter isCode = codes1 := rfl
theorem w_codes : ∀ c ∈ words1.filter isCode, c.before args0 about1 = true := by
  rw [codes_eq]
  intro c hc
  simp only [codes1, List.mem_cons, List.not_mem_nil, or_false] at hc
  rcases hc with rfl | rfl | rfl
  · exact w_c0
  · exact w_c1
  · exact w_c2
set_option maxRecDepth 65536 in
theorem w_t1 : words1.all (fun c => isCode c || c.before args0 about1) = true := by decide +kernel
theorem w_tables : (allAtoms (Jvm.Cond.code x code maxLocals ret :: tables_1)).before args0 about1 = true := by
  rw [allAtoms_all]
  show words1.all (fun c => c.before args0 about1) = true
  refine all_split ?_ w_codes
  rw [w_t1]
set_option maxRecDepth 65536 in
theorem w_case : (Jvm.Cond.and given_1 narrow_1).before args0 about1 = true := by decide +kernel
theorem w_applies : (headSpec (Jvm.Cond.code x code maxLocals ret :: tables_1) room_1).applies x e0.platform about1 = true :=
  (Spec.applies_iff w_frames).mpr ⟨w_running, w_runnable, w_alone, w_named, w_hears, w_ripe, w_room, w_tables⟩
theorem atStart : AtStart classFile x code maxLocals ret World_1 tables_1 room_1 Calls_1 rest_1 Pre_1 launch0 p0 e0 about1 theMethod args0 below0 :=
  ⟨lists_1, trivial, launch0.admits_env _ _ _, launch0.least_env, fairChoices_fair.cas, fairChoices_fair.clock, w_frames, w_args, w_heap, w_applies, trivial, trivial, w_case⟩
end start1
theorem witness_1 : WitnessClaimed_1 := ⟨start1.p0, start1.e0, start1.about1, start1.theMethod, start1.args0, start1.below0, start1.atStart⟩
end Jvm.Pilot.@@N@@
