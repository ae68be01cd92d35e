import JvmDerived
import JvmDerived.Pilot.@@N@@Statement
import JvmDerived.Pilot.@@N@@Code
set_option linter.unusedVariables false
set_option linter.unusedSimpArgs false
namespace Jvm.Pilot.@@N@@
open Jvm Jvm.ClassFile Sem Op Lib Jvm.Free Jvm.Stand Jvm.LawKit Jvm.RoadKit Bundle Jvm.Pilot.@@N@@.Jvm.D
section OwnKit
variable {p : Program} {l : Launch} {e : Env} {R : Room} {s : State} {m : MethodId} {args : Array Value} {below : List Frame} {meth : Method} {c : Code} {T T' : State} {locs : List Loc} {cells slots kc kn : Nat} {Q : Option Value → Heap → List Loc → Prop} {f f' : JFrame} {pc q q' : Nat} {Ls Ls' : Array Slot} {st : List Value} {Z : State} {a0 : Array Value} {h : Heap} {by' : ByteArray} {ml : Nat} {own nm : String} {ret : Option FieldType}
/-- from this state, with this frame on top, the body returns as Q says -/
def Run (p : Program) (e : Env) (below : List Frame) (s : State) (kc kn : Nat) (Q : Option Value → Heap → List Loc → Prop) (T : State) (f : JFrame) : Prop :=
  ∃ t o, Steps p.tables e below (T.setTop f) t ∧ t.status = .running ∧ Ended t below o ∧ ∃ v L, o = .returned v ∧ Q v t.heap L ∧ FrameEnd s o t L kc kn
theorem Run.by (st : ∀ t, Steps p.tables e below (T'.setTop f') t → Steps p.tables e below (T.setTop f) t) (k : Run p e below s kc kn Q T' f') : Run p e below s kc kn Q T f := by
  obtain ⟨t, o, h1, r⟩ := k
  exact ⟨t, o, st t h1, r⟩
theorem Run.on (k : Run p e below s kc kn Q T' f') (st : Steps p.tables e below (T.setTop f) (T'.setTop f')) : Run p e below s kc kn Q T f := k.by fun _ h1 => st.trans h1
/-- what a walk knows of its method throughout -/
def Fx (p : Program) (s : State) (m : MethodId) (meth : Method) (c : Code) (by' : ByteArray) (ml : Nat) (own nm : String) (ret : Option FieldType) (Z : State) : Prop :=
  p.tables.exec = Jvm.exec ∧ c.code = by' ∧ c.maxLocals = ml ∧ s.vm.findClass own = some m.cls ∧ Z.Warmed39 s.vm ∧ meth.sig.returnType = ret ∧ meth.locks = false ∧ meth.name = nm
def ushrI (x k : Int32) : Int32 := (x.toUInt32 >>> (k &&& 31).toUInt32).toInt32
def i2c (x : Int32) : Int32 := x.toUInt32.toUInt16.toUInt32.toInt32
theorem k_iloadN (K : Fx p s m meth c by' ml own nm ret Z) (X : Stand p l e R s m args below meth c T locs cells slots) {k' : Fin 4} {v : Int32} (hd : decode by' pc = .ok (.iload_n k', 1)) (hl : Ls[k'.val]? = some (.val (.int v))) (hq : pc + 1 = q) (k : Run p e below s kc kn Q T (mkF m q Ls (.int v :: st))) : Run p e below s kc kn Q T (mkF m pc Ls st) := by
  subst hq; exact k.by fun t => XS.iloadN X.here K.1 rfl (hb K.2.1 hd) hl
theorem k_iload (K : Fx p s m meth c by' ml own nm ret Z) (X : Stand p l e R s m args below meth c T locs cells slots) {k' : Nat} {v : Int32} (hd : decode by' pc = .ok (.iload k', 2)) (hl : Ls[k']? = some (.val (.int v))) (hq : pc + 2 = q) (k : Run p e below s kc kn Q T (mkF m q Ls (.int v :: st))) : Run p e below s kc kn Q T (mkF m pc Ls st) := by
  subst hq; exact k.by fun t => XS.iload X.here K.1 rfl (hb K.2.1 hd) hl
theorem k_aloadN (K : Fx p s m meth c by' ml own nm ret Z) (X : Stand p l e R s m args below meth c T locs cells slots) {k' : Fin 4} {v : Value} (hd : decode by' pc = .ok (.aload_n k', 1)) (hl : Ls[k'.val]? = some (.val v)) (hv : v.isRef = true) (hq : pc + 1 = q) (k : Run p e below s kc kn Q T (mkF m q Ls (v :: st))) : Run p e below s kc kn Q T (mkF m pc Ls st) := by
  subst hq; exact k.by fun t => XS.aloadN X.here K.1 rfl (hb K.2.1 hd) hl hv
theorem k_aload (K : Fx p s m meth c by' ml own nm ret Z) (X : Stand p l e R s m args below meth c T locs cells slots) {k' : Nat} {v : Value} (hd : decode by' pc = .ok (.aload k', 2)) (hl : Ls[k']? = some (.val v)) (hv : v.isRef = true) (hq : pc + 2 = q) (k : Run p e below s kc kn Q T (mkF m q Ls (v :: st))) : Run p e below s kc kn Q T (mkF m pc Ls st) := by
  subst hq; exact k.by fun t => XS.aload X.here K.1 rfl (hb K.2.1 hd) hl hv
theorem k_istoreN (K : Fx p s m meth c by' ml own nm ret Z) (X : Stand p l e R s m args below meth c T locs cells slots) {k' : Fin 4} {v x : Int32} (hd : decode by' pc = .ok (.istore_n k', 1)) (hv : x = v) (hl : storeLocals Ls k'.val (.int v) = some Ls') (hq : pc + 1 = q) (k : Run p e below s kc kn Q T (mkF m q Ls' st)) : Run p e below s kc kn Q T (mkF m pc Ls (.int x :: st)) := by
  subst hq hv; exact k.by fun t => XS.istoreN X.here K.1 rfl (hb K.2.1 hd) rfl hl
theorem k_istore (K : Fx p s m meth c by' ml own nm ret Z) (X : Stand p l e R s m args below meth c T locs cells slots) {k' : Nat} {v x : Int32} (hd : decode by' pc = .ok (.istore k', 2)) (hv : x = v) (hl : storeLocals Ls k' (.int v) = some Ls') (hq : pc + 2 = q) (k : Run p e below s kc kn Q T (mkF m q Ls' st)) : Run p e below s kc kn Q T (mkF m pc Ls (.int x :: st)) := by
  subst hq hv; exact k.by fun t => XS.istore X.here K.1 rfl (hb K.2.1 hd) rfl hl
theorem k_astore (K : Fx p s m meth c by' ml own nm ret Z) (X : Stand p l e R s m args below meth c T locs cells slots) {k' : Nat} {v : Value} (hd : decode by' pc = .ok (.astore k', 2)) (hv : v.isRef = true) (hl : storeLocals Ls k' v = some Ls') (hq : pc + 2 = q) (k : Run p e below s kc kn Q T (mkF m q Ls' st)) : Run p e below s kc kn Q T (mkF m pc Ls (v :: st)) := by
  subst hq; exact k.by fun t => XS.astore X.here K.1 rfl (hb K.2.1 hd) rfl hv hl
theorem k_iconst (K : Fx p s m meth c by' ml own nm ret Z) (X : Stand p l e R s m args below meth c T locs cells slots) {i : Int} {v : Int32} (hd : decode by' pc = .ok (.iconst i, 1)) (hv : Int32.ofInt i = v) (hq : pc + 1 = q) (k : Run p e below s kc kn Q T (mkF m q Ls (.int v :: st))) : Run p e below s kc kn Q T (mkF m pc Ls st) := by
  subst hq hv; exact k.by fun t => XS.iconst X.here K.1 rfl (hb K.2.1 hd)
theorem k_bipush (K : Fx p s m meth c by' ml own nm ret Z) (X : Stand p l e R s m args below meth c T locs cells slots) {i : Int} {v : Int32} (hd : decode by' pc = .ok (.bipush i, 2)) (hv : (Int8.ofInt i).toInt32 = v) (hq : pc + 2 = q) (k : Run p e below s kc kn Q T (mkF m q Ls (.int v :: st))) : Run p e below s kc kn Q T (mkF m pc Ls st) := by
  subst hq hv; exact k.by fun t => XS.bipush X.here K.1 rfl (hb K.2.1 hd)
theorem k_sipush (K : Fx p s m meth c by' ml own nm ret Z) (X : Stand p l e R s m args below meth c T locs cells slots) {i : Int} {v : Int32} (hd : decode by' pc = .ok (.sipush i, 3)) (hv : (Int16.ofInt i).toInt32 = v) (hq : pc + 3 = q) (k : Run p e below s kc kn Q T (mkF m q Ls (.int v :: st))) : Run p e below s kc kn Q T (mkF m pc Ls st) := by
  subst hq hv; exact k.by fun t => XS.sipush X.here K.1 rfl (hb K.2.1 hd)
theorem k_iadd (K : Fx p s m meth c by' ml own nm ret Z) (X : Stand p l e R s m args below meth c T locs cells slots) {x y : Int32} (hd : decode by' pc = .ok (.iadd, 1)) (hq : pc + 1 = q) (k : Run p e below s kc kn Q T (mkF m q Ls (.int (x + y) :: st))) : Run p e below s kc kn Q T (mkF m pc Ls (.int y :: .int x :: st)) := by
  subst hq; exact k.by fun t => XS.iadd X.here K.1 rfl (hb K.2.1 hd) rfl
theorem k_isub (K : Fx p s m meth c by' ml own nm ret Z) (X : Stand p l e R s m args below meth c T locs cells slots) {x y : Int32} (hd : decode by' pc = .ok (.isub, 1)) (hq : pc + 1 = q) (k : Run p e below s kc kn Q T (mkF m q Ls (.int (x - y) :: st))) : Run p e below s kc kn Q T (mkF m pc Ls (.int y :: .int x :: st)) := by
  subst hq; exact k.by fun t => XS.isub X.here K.1 rfl (hb K.2.1 hd) rfl
theorem k_iand (K : Fx p s m meth c by' ml own nm ret Z) (X : Stand p l e R s m args below meth c T locs cells slots) {x y : Int32} (hd : decode by' pc = .ok (.iand, 1)) (hq : pc + 1 = q) (k : Run p e below s kc kn Q T (mkF m q Ls (.int (x &&& y) :: st))) : Run p e below s kc kn Q T (mkF m pc Ls (.int y :: .int x :: st)) := by
  subst hq; exact k.by fun t => XS.iand X.here K.1 rfl (hb K.2.1 hd) rfl
theorem k_iushr (K : Fx p s m meth c by' ml own nm ret Z) (X : Stand p l e R s m args below meth c T locs cells slots) {x y : Int32} (hd : decode by' pc = .ok (.iushr, 1)) (hq : pc + 1 = q) (k : Run p e below s kc kn Q T (mkF m q Ls (.int (ushrI x y) :: st))) : Run p e below s kc kn Q T (mkF m pc Ls (.int y :: .int x :: st)) := by
  subst hq; exact k.by fun t => XS.iushr X.here K.1 rfl (hb K.2.1 hd) rfl
theorem k_i2c (K : Fx p s m meth c by' ml own nm ret Z) (X : Stand p l e R s m args below meth c T locs cells slots) {x : Int32} (hd : decode by' pc = .ok (.i2c, 1)) (hq : pc + 1 = q) (k : Run p e below s kc kn Q T (mkF m q Ls (.int (i2c x) :: st))) : Run p e below s kc kn Q T (mkF m pc Ls (.int x :: st)) := by
  subst hq; exact k.by fun t => XS.i2c X.here K.1 rfl (hb K.2.1 hd) rfl
theorem k_irem (K : Fx p s m meth c by' ml own nm ret Z) (X : Stand p l e R s m args below meth c T locs cells slots) {x y : Int32} (hd : decode by' pc = .ok (.irem, 1)) (hy : y ≠ 0) (hq : pc + 1 = q) (k : Run p e below s kc kn Q T (mkF m q Ls (.int (x % y) :: st))) : Run p e below s kc kn Q T (mkF m pc Ls (.int y :: .int x :: st)) := by
  subst hq; exact k.by fun t => iremM X K.1 rfl (hb K.2.1 hd) rfl hy
theorem k_dup (K : Fx p s m meth c by' ml own nm ret Z) (X : Stand p l e R s m args below meth c T locs cells slots) {v : Value} (hd : decode by' pc = .ok (.dup, 1)) (hc : v.category = 1) (hq : pc + 1 = q) (k : Run p e below s kc kn Q T (mkF m q Ls (v :: v :: st))) : Run p e below s kc kn Q T (mkF m pc Ls (v :: st)) := by
  subst hq; exact k.by fun t => XS.dup X.here K.1 rfl (hb K.2.1 hd) rfl hc
theorem k_goto (K : Fx p s m meth c by' ml own nm ret Z) (X : Stand p l e R s m args below meth c T locs cells slots) {o : Int} (hd : decode by' pc = .ok (.goto o, 3)) (ho : 0 ≤ (pc : Int) + o) (hq : ((pc : Int) + o).toNat = q) (k : Run p e below s kc kn Q T (mkF m q Ls st)) : Run p e below s kc kn Q T (mkF m pc Ls st) := k.by fun t => XS.goto X.here K.1 rfl rfl (hb K.2.1 hd) ho hq
theorem k_nameI {x v : Int32} (hv : x = v) (k : Run p e below s kc kn Q T (mkF m pc Ls (.int v :: st))) : Run p e below s kc kn Q T (mkF m pc Ls (.int x :: st)) := by
  subst hv; exact k
theorem k_if_eq_y (K : Fx p s m meth c by' ml own nm ret Z) (X : Stand p l e R s m args below meth c T locs cells slots) {x : Int32} {o : Int} (hd : decode by' pc = .ok (.ifCond .eq o, 3)) (hc : x = 0) (ho : 0 ≤ (pc : Int) + o) (hq : ((pc : Int) + o).toNat = q) (k : Run p e below s kc kn Q T (mkF m q Ls st)) : Run p e below s kc kn Q T (mkF m pc Ls (.int x :: st)) := k.by fun t => XS.ifYes X.here K.1 rfl rfl (hb K.2.1 hd) rfl ((if0 _ _).trans (teq hc).1) ho hq
theorem k_if_eq_n (K : Fx p s m meth c by' ml own nm ret Z) (X : Stand p l e R s m args below meth c T locs cells slots) {x : Int32} {o : Int} (hd : decode by' pc = .ok (.ifCond .eq o, 3)) (hc : ¬ x = 0) (hq : pc + 3 = q) (k : Run p e below s kc kn Q T (mkF m q Ls st)) : Run p e below s kc kn Q T (mkF m pc Ls (.int x :: st)) := by
  subst hq; exact k.by fun t => XS.ifNo X.here K.1 rfl (hb K.2.1 hd) rfl ((if0 _ _).trans (feq hc).1)
theorem k_if_eq (K : Fx p s m meth c by' ml own nm ret Z) (X : Stand p l e R s m args below meth c T locs cells slots) {x : Int32} {o : Int} (hd : decode by' pc = .ok (.ifCond .eq o, 3)) (ho : 0 ≤ (pc : Int) + o) (hq : ((pc : Int) + o).toNat = q) (hq' : pc + 3 = q') (ky : x = 0 → Run p e below s kc kn Q T (mkF m q Ls st)) (kno : ¬ x = 0 → Run p e below s kc kn Q T (mkF m q' Ls st)) : Run p e below s kc kn Q T (mkF m pc Ls (.int x :: st)) := by
  by_cases hc : x = 0
  · exact k_if_eq_y K X hd hc ho hq (ky hc)
  · exact k_if_eq_n K X hd hc hq' (kno hc)
theorem k_if_ne_y (K : Fx p s m meth c by' ml own nm ret Z) (X : Stand p l e R s m args below meth c T locs cells slots) {x : Int32} {o : Int} (hd : decode by' pc = .ok (.ifCond .ne o, 3)) (hc : ¬ x = 0) (ho : 0 ≤ (pc : Int) + o) (hq : ((pc : Int) + o).toNat = q) (k : Run p e below s kc kn Q T (mkF m q Ls st)) : Run p e below s kc kn Q T (mkF m pc Ls (.int x :: st)) := k.by fun t => XS.ifYes X.here K.1 rfl rfl (hb K.2.1 hd) rfl ((if0 _ _).trans (feq hc).2) ho hq
theorem k_if_ne_n (K : Fx p s m meth c by' ml own nm ret Z) (X : Stand p l e R s m args below meth c T locs cells slots) {x : Int32} {o : Int} (hd : decode by' pc = .ok (.ifCond .ne o, 3)) (hc : x = 0) (hq : pc + 3 = q) (k : Run p e below s kc kn Q T (mkF m q Ls st)) : Run p e below s kc kn Q T (mkF m pc Ls (.int x :: st)) := by
  subst hq; exact k.by fun t => XS.ifNo X.here K.1 rfl (hb K.2.1 hd) rfl ((if0 _ _).trans (teq hc).2)
theorem k_if_ne (K : Fx p s m meth c by' ml own nm ret Z) (X : Stand p l e R s m args below meth c T locs cells slots) {x : Int32} {o : Int} (hd : decode by' pc = .ok (.ifCond .ne o, 3)) (ho : 0 ≤ (pc : Int) + o) (hq : ((pc : Int) + o).toNat = q) (hq' : pc + 3 = q') (ky : ¬ x = 0 → Run p e below s kc kn Q T (mkF m q Ls st)) (kno : x = 0 → Run p e below s kc kn Q T (mkF m q' Ls st)) : Run p e below s kc kn Q T (mkF m pc Ls (.int x :: st)) := by
  by_cases hc : x = 0
  · exact k_if_ne_n K X hd hc hq' (kno hc)
  · exact k_if_ne_y K X hd hc ho hq (ky hc)
theorem k_icmp_ne_y (K : Fx p s m meth c by' ml own nm ret Z) (X : Stand p l e R s m args below meth c T locs cells slots) {x y : Int32} {o : Int} (hd : decode by' pc = .ok (.if_icmp .ne o, 3)) (hc : ¬ x = y) (ho : 0 ≤ (pc : Int) + o) (hq : ((pc : Int) + o).toNat = q) (k : Run p e below s kc kn Q T (mkF m q Ls st)) : Run p e below s kc kn Q T (mkF m pc Ls (.int y :: .int x :: st)) := k.by fun t => XS.icmpYes X.here K.1 rfl rfl (hb K.2.1 hd) rfl (feq hc).2 ho hq
theorem k_icmp_ne_n (K : Fx p s m meth c by' ml own nm ret Z) (X : Stand p l e R s m args below meth c T locs cells slots) {x y : Int32} {o : Int} (hd : decode by' pc = .ok (.if_icmp .ne o, 3)) (hc : x = y) (hq : pc + 3 = q) (k : Run p e below s kc kn Q T (mkF m q Ls st)) : Run p e below s kc kn Q T (mkF m pc Ls (.int y :: .int x :: st)) := by
  subst hq; exact k.by fun t => XS.icmpNo X.here K.1 rfl (hb K.2.1 hd) rfl (teq hc).2
theorem k_icmp_ne (K : Fx p s m meth c by' ml own nm ret Z) (X : Stand p l e R s m args below meth c T locs cells slots) {x y : Int32} {o : Int} (hd : decode by' pc = .ok (.if_icmp .ne o, 3)) (ho : 0 ≤ (pc : Int) + o) (hq : ((pc : Int) + o).toNat = q) (hq' : pc + 3 = q') (ky : ¬ x = y → Run p e below s kc kn Q T (mkF m q Ls st)) (kno : x = y → Run p e below s kc kn Q T (mkF m q' Ls st)) : Run p e below s kc kn Q T (mkF m pc Ls (.int y :: .int x :: st)) := by
  by_cases hc : x = y
  · exact k_icmp_ne_n K X hd hc hq' (kno hc)
  · exact k_icmp_ne_y K X hd hc ho hq (ky hc)
theorem k_if_gt_y (K : Fx p s m meth c by' ml own nm ret Z) (X : Stand p l e R s m args below meth c T locs cells slots) {x : Int32} {o : Int} (hd : decode by' pc = .ok (.ifCond .gt o, 3)) (hc : 0 < x) (ho : 0 ≤ (pc : Int) + o) (hq : ((pc : Int) + o).toNat = q) (k : Run p e below s kc kn Q T (mkF m q Ls st)) : Run p e below s kc kn Q T (mkF m pc Ls (.int x :: st)) := k.by fun t => XS.ifYes X.here K.1 rfl rfl (hb K.2.1 hd) rfl ((if0 _ _).trans (tlt hc).2.2.1) ho hq
theorem k_if_gt_n (K : Fx p s m meth c by' ml own nm ret Z) (X : Stand p l e R s m args below meth c T locs cells slots) {x : Int32} {o : Int} (hd : decode by' pc = .ok (.ifCond .gt o, 3)) (hc : ¬ 0 < x) (hq : pc + 3 = q) (k : Run p e below s kc kn Q T (mkF m q Ls st)) : Run p e below s kc kn Q T (mkF m pc Ls (.int x :: st)) := by
  subst hq; exact k.by fun t => XS.ifNo X.here K.1 rfl (hb K.2.1 hd) rfl ((if0 _ _).trans (flt hc).2.2.1)
theorem k_if_gt (K : Fx p s m meth c by' ml own nm ret Z) (X : Stand p l e R s m args below meth c T locs cells slots) {x : Int32} {o : Int} (hd : decode by' pc = .ok (.ifCond .gt o, 3)) (ho : 0 ≤ (pc : Int) + o) (hq : ((pc : Int) + o).toNat = q) (hq' : pc + 3 = q') (ky : 0 < x → Run p e below s kc kn Q T (mkF m q Ls st)) (kno : ¬ 0 < x → Run p e below s kc kn Q T (mkF m q' Ls st)) : Run p e below s kc kn Q T (mkF m pc Ls (.int x :: st)) := by
  by_cases hc : 0 < x
  · exact k_if_gt_y K X hd hc ho hq (ky hc)
  · exact k_if_gt_n K X hd hc hq' (kno hc)
theorem k_icmp_gt_y (K : Fx p s m meth c by' ml own nm ret Z) (X : Stand p l e R s m args below meth c T locs cells slots) {x y : Int32} {o : Int} (hd : decode by' pc = .ok (.if_icmp .gt o, 3)) (hc : y < x) (ho : 0 ≤ (pc : Int) + o) (hq : ((pc : Int) + o).toNat = q) (k : Run p e below s kc kn Q T (mkF m q Ls st)) : Run p e below s kc kn Q T (mkF m pc Ls (.int y :: .int x :: st)) := k.by fun t => XS.icmpYes X.here K.1 rfl rfl (hb K.2.1 hd) rfl (tlt hc).2.2.1 ho hq
theorem k_icmp_gt_n (K : Fx p s m meth c by' ml own nm ret Z) (X : Stand p l e R s m args below meth c T locs cells slots) {x y : Int32} {o : Int} (hd : decode by' pc = .ok (.if_icmp .gt o, 3)) (hc : ¬ y < x) (hq : pc + 3 = q) (k : Run p e below s kc kn Q T (mkF m q Ls st)) : Run p e below s kc kn Q T (mkF m pc Ls (.int y :: .int x :: st)) := by
  subst hq; exact k.by fun t => XS.icmpNo X.here K.1 rfl (hb K.2.1 hd) rfl (flt hc).2.2.1
theorem k_icmp_gt (K : Fx p s m meth c by' ml own nm ret Z) (X : Stand p l e R s m args below meth c T locs cells slots) {x y : Int32} {o : Int} (hd : decode by' pc = .ok (.if_icmp .gt o, 3)) (ho : 0 ≤ (pc : Int) + o) (hq : ((pc : Int) + o).toNat = q) (hq' : pc + 3 = q') (ky : y < x → Run p e below s kc kn Q T (mkF m q Ls st)) (kno : ¬ y < x → Run p e below s kc kn Q T (mkF m q' Ls st)) : Run p e below s kc kn Q T (mkF m pc Ls (.int y :: .int x :: st)) := by
  by_cases hc : y < x
  · exact k_icmp_gt_y K X hd hc ho hq (ky hc)
  · exact k_icmp_gt_n K X hd hc hq' (kno hc)
theorem k_if_le_y (K : Fx p s m meth c by' ml own nm ret Z) (X : Stand p l e R s m args below meth c T locs cells slots) {x : Int32} {o : Int} (hd : decode by' pc = .ok (.ifCond .le o, 3)) (hc : ¬ 0 < x) (ho : 0 ≤ (pc : Int) + o) (hq : ((pc : Int) + o).toNat = q) (k : Run p e below s kc kn Q T (mkF m q Ls st)) : Run p e below s kc kn Q T (mkF m pc Ls (.int x :: st)) := k.by fun t => XS.ifYes X.here K.1 rfl rfl (hb K.2.1 hd) rfl ((if0 _ _).trans (flt hc).2.2.2) ho hq
theorem k_if_le_n (K : Fx p s m meth c by' ml own nm ret Z) (X : Stand p l e R s m args below meth c T locs cells slots) {x : Int32} {o : Int} (hd : decode by' pc = .ok (.ifCond .le o, 3)) (hc : 0 < x) (hq : pc + 3 = q) (k : Run p e below s kc kn Q T (mkF m q Ls st)) : Run p e below s kc kn Q T (mkF m pc Ls (.int x :: st)) := by
  subst hq; exact k.by fun t => XS.ifNo X.here K.1 rfl (hb K.2.1 hd) rfl ((if0 _ _).trans (tlt hc).2.2.2)
theorem k_if_le (K : Fx p s m meth c by' ml own nm ret Z) (X : Stand p l e R s m args below meth c T locs cells slots) {x : Int32} {o : Int} (hd : decode by' pc = .ok (.ifCond .le o, 3)) (ho : 0 ≤ (pc : Int) + o) (hq : ((pc : Int) + o).toNat = q) (hq' : pc + 3 = q') (ky : ¬ 0 < x → Run p e below s kc kn Q T (mkF m q Ls st)) (kno : 0 < x → Run p e below s kc kn Q T (mkF m q' Ls st)) : Run p e below s kc kn Q T (mkF m pc Ls (.int x :: st)) := by
  by_cases hc : 0 < x
  · exact k_if_le_n K X hd hc hq' (kno hc)
  · exact k_if_le_y K X hd hc ho hq (ky hc)
theorem k_icmp_le_y (K : Fx p s m meth c by' ml own nm ret Z) (X : Stand p l e R s m args below meth c T locs cells slots) {x y : Int32} {o : Int} (hd : decode by' pc = .ok (.if_icmp .le o, 3)) (hc : ¬ y < x) (ho : 0 ≤ (pc : Int) + o) (hq : ((pc : Int) + o).toNat = q) (k : Run p e below s kc kn Q T (mkF m q Ls st)) : Run p e below s kc kn Q T (mkF m pc Ls (.int y :: .int x :: st)) := k.by fun t => XS.icmpYes X.here K.1 rfl rfl (hb K.2.1 hd) rfl (flt hc).2.2.2 ho hq
theorem k_icmp_le_n (K : Fx p s m meth c by' ml own nm ret Z) (X : Stand p l e R s m args below meth c T locs cells slots) {x y : Int32} {o : Int} (hd : decode by' pc = .ok (.if_icmp .le o, 3)) (hc : y < x) (hq : pc + 3 = q) (k : Run p e below s kc kn Q T (mkF m q Ls st)) : Run p e below s kc kn Q T (mkF m pc Ls (.int y :: .int x :: st)) := by
  subst hq; exact k.by fun t => XS.icmpNo X.here K.1 rfl (hb K.2.1 hd) rfl (tlt hc).2.2.2
theorem k_reti (K : Fx p s m meth c by' ml own nm (some .int) Z) (X : Stand p l e R s m args below meth c T locs cells slots) {x : Int32} (eT : T.heap = h) (hd : decode by' pc = .ok (.ireturn, 1)) (hc : cells ≤ kc) (hn : slots ≤ kn) (hQ : Q (some (.int x)) h locs) : Run p e below s kc kn Q T (mkF m pc Ls [.int x]) := by
  subst eT
  have hlk := K.2.2.2.2.2.2.1
  obtain ⟨fs, hr, hrun, hended, hW, hsame⟩ := X.leave (v := (some (.int x))) (fun z => by rw [K.2.2.2.2.2.1] at z; cases z)
  exact ⟨_, _, X.ireturnOut K.1 K.2.2.2.2.2.1 rfl (Or.inl rfl) (hb K.2.1 hd) hr, hrun, hended, _, _, rfl, hQ, ⟨_, rfl⟩, hW, hsame.mono hc hn⟩
theorem k_retz (K : Fx p s m meth c by' ml own nm (some .boolean) Z) (X : Stand p l e R s m args below meth c T locs cells slots) {x : Int32} (eT : T.heap = h) (hd : decode by' pc = .ok (.ireturn, 1)) (hc : cells ≤ kc) (hn : slots ≤ kn) (hQ : Q (some (.int (nar .boolean x))) h locs) : Run p e below s kc kn Q T (mkF m pc Ls [.int x]) := by
  subst eT
  have hlk := K.2.2.2.2.2.2.1
  obtain ⟨fs, hr, hrun, hended, hW, hsame⟩ := X.leave (v := (some (.int (nar .boolean x)))) (fun z => by rw [K.2.2.2.2.2.1] at z; cases z)
  exact ⟨_, _, retN X K.1 K.2.2.2.2.2.1 (by simp) (hb K.2.1 hd) hr, hrun, hended, _, _, rfl, hQ, ⟨_, rfl⟩, hW, hsame.mono hc hn⟩
theorem k_retc (K : Fx p s m meth c by' ml own nm (some .char) Z) (X : Stand p l e R s m args below meth c T locs cells slots) {x : Int32} (eT : T.heap = h) (hd : decode by' pc = .ok (.ireturn, 1)) (hc : cells ≤ kc) (hn : slots ≤ kn) (hQ : Q (some (.int (nar .char x))) h locs) : Run p e below s kc kn Q T (mkF m pc Ls [.int x]) := by
  subst eT
  have hlk := K.2.2.2.2.2.2.1
  obtain ⟨fs, hr, hrun, hended, hW, hsame⟩ := X.leave (v := (some (.int (nar .char x)))) (fun z => by rw [K.2.2.2.2.2.1] at z; cases z)
  exact ⟨_, _, retN X K.1 K.2.2.2.2.2.1 (by simp) (hb K.2.1 hd) hr, hrun, hended, _, _, rfl, hQ, ⟨_, rfl⟩, hW, hsame.mono hc hn⟩
theorem k_retv (K : Fx p s m meth c by' ml own nm none Z) (X : Stand p l e R s m args below meth c T locs cells slots)  (eT : T.heap = h) (hd : decode by' pc = .ok (.return_, 1)) (hc : cells ≤ kc) (hn : slots ≤ kn) (hQ : Q none h locs) : Run p e below s kc kn Q T (mkF m pc Ls []) := by
  subst eT
  have hlk := K.2.2.2.2.2.2.1
  obtain ⟨fs, hr, hrun, hended, hW, hsame⟩ := X.leave (v := none) (fun _ => rfl)
  exact ⟨_, _, X.returnOut K.1 K.2.2.2.2.2.1 (hb K.2.1 hd) hr, hrun, hended, _, _, rfl, hQ, ⟨_, rfl⟩, hW, hsame.mono hc hn⟩
/-- a contract: with these arguments over this heap the body returns as Q says, within the room -/
abbrev Met (l : Launch) (y : MethodName) (bytes : ByteArray) (maxL : Nat) (ret : Option FieldType) (ws : List Jvm.Cond) (rm : Room) (Z : State) (as' : Array Value) (h0 : Heap) (Q : Option Value → Heap → List Loc → Prop) : Prop :=
  MetFree l y (head1 (Jvm.Cond.code y bytes maxL ret :: ws) rm) (fun a U => a = as' ∧ Z.Warmed39 U.vm ∧ U.heap = h0) (fun _ _ _ _ _ => True) (fun _ U o U' => ∃ v L, o = .returned v ∧ Q v U'.heap L ∧ FrameEnd U o U' L rm.cells rm.slots)
theorem enter {y : MethodName} {bytes : ByteArray} {maxL : Nat} {ws : List Jvm.Cond} {rm : Room} {as' : Array Value} {h0 : Heap} (hpl : plainFor y = true) (hef : ∀ m, entryFrame m as' maxL = mkF m 0 Ls [])
    (body : ∀ p e s m below meth c T kc kn Q', rm.cells ≤ kc → rm.slots ≤ kn → (∀ v h L, Q v h L → Q' v h L) → Fx p s m meth c bytes maxL y.cls y.name ret Z → Stand p l e rm s m as' below meth c T [] 0 0 → T.heap = h0 → Run p e below s kc kn Q' T (mkF m 0 Ls [])) : Met l y bytes maxL ret ws rm Z as' h0 Q := by
  refine MetFree.of_bodySF hpl hisR ?_
  intro p e s m args below meth c s₁ Bd hml0 hP hK
  obtain ⟨rfl, hZ, hh⟩ := hP
  obtain ⟨t, o, h1, h2, h3, v, L, h4, h5, h6⟩ := body p e s m below meth c s₁ _ _ Q (Nat.le_refl _) (Nat.le_refl _) (fun _ _ _ z => z) ⟨Bd.exec, Bd.bytes, hml0, findClass_of_methodNamed Bd.named, hZ, Bd.returns, BodyLoose.notSynchronized Bd, (name_of_methodNamed Bd.named Bd.method).1⟩ (Stand.of_body Bd) (by rw [← hh, Bd.state]; rfl)
  exact ⟨t, o, castTop (hef m) h1, h2, h3, v, L, h4, h5, h6⟩
theorem k_static (K : Fx p s m meth c by' ml own nm ret Z) (X : Stand p l e R s m args below meth c T locs cells slots) (eT : T.heap = h) {y : MethodName} {bytes : ByteArray} {maxL i W : Nat} {rt : Option FieldType} {rm : Room} {as' : Array Value} {Q' : Option Value → Heap → List Loc → Prop}
    (hd : decode by' pc = .ok (.invokestatic i, 3)) (w1 : (Cond.methodLink own i y).before a0 Z = true) (w2 : (Cond.static y).before a0 Z = true) (w3 : (Cond.initialized y.cls).before a0 Z = true) (w4 : (Cond.code y bytes maxL rt).before a0 Z = true) (hy : y.cls ≠ "java/lang/invoke/MethodHandle" ∧ y.cls ≠ "java/lang/invoke/VarHandle")
    (hM : Met l y bytes maxL rt [] rm Z as' h Q') (hf : rm.frames + 1 ≤ R.frames) (hl : W + (maxL + 11) + rm.locals ≤ R.locals) (hc : cells + rm.cells ≤ R.cells) (hn : slots + rm.slots ≤ R.slots) (hsz : Ls.size = ml)
    {sig : MethodDescriptor} (hdesc : parseMethodDescriptor y.desc = some sig) {argsL rest : List Value} (ha : as' = argsL.toArray) (hlen : argsL.length = sig.parameters.length) (hst : st = argsL.reverse ++ rest) (hW : (rest.map fun v => v.category).sum ≤ W) (hq : pc + 3 = q)
    (k : ∀ v T' L, Stand p l e R s m args below meth c T' (locs ++ L) (cells + rm.cells) (slots + rm.slots) → Q' v T'.heap L → Run p e below s kc kn Q T' (mkF m q Ls (v.toList ++ rest))) : Run p e below s kc kn Q T (mkF m pc Ls st) := by
  have hZ := K.2.2.2.2.1
  subst hq
  obtain ⟨v, _, ⟨T2, L2, k2, n2⟩, -, X2, ⟨Lc, hQ2, l2, y2, z2⟩, st2⟩ := Jvm.LawKit.callS X K.1 (y := y) K.2.2.2.1 (mvT hZ w1) (mvT hZ w2) (mvT hZ w3) (mvT hZ w4) hy (backOf (W := W) hM hZ w4 w3 hf hl) (g := mkF m pc Ls st) rfl (by rw [K.2.2.1]; exact hsz) (argsL := argsL) (rest := rest) (fun sg hs => by cases hdesc.symm.trans hs; exact hlen) hst (by show 2 * 0 + _ ≤ _; omega) (hb K.2.1 hd) (fun _ _ => ⟨ha.symm, eT, hc, hn⟩)
  dsimp only [Pt.U, Pt.locs, Pt.cells, Pt.slots] at X2 l2 y2 z2 st2 hQ2
  subst l2 y2 z2
  exact (k v T2 Lc X2 hQ2).by st2
/-- a static callee that leaves the heap as it was -/
theorem k_staticP (K : Fx p s m meth c by' ml own nm ret Z) (X : Stand p l e R s m args below meth c T locs cells slots) (eT : T.heap = h) {y : MethodName} {bytes : ByteArray} {maxL i W fr lo : Nat} {rt : Option FieldType} {as' : Array Value} {w : Value}
    (hd : decode by' pc = .ok (.invokestatic i, 3)) (w1 : (Cond.methodLink own i y).before a0 Z = true) (w2 : (Cond.static y).before a0 Z = true) (w3 : (Cond.initialized y.cls).before a0 Z = true) (w4 : (Cond.code y bytes maxL rt).before a0 Z = true) (hy : y.cls ≠ "java/lang/invoke/MethodHandle" ∧ y.cls ≠ "java/lang/invoke/VarHandle")
    (hM : Met l y bytes maxL rt [] { frames := fr, cells := 0, slots := 0, locals := lo } Z as' h (fun v h' L => v = some w ∧ h' = h ∧ L = [])) (hf : fr + 1 ≤ R.frames) (hl : W + (maxL + 11) + lo ≤ R.locals) (hc : cells ≤ R.cells) (hn : slots ≤ R.slots) (hsz : Ls.size = ml)
    {sig : MethodDescriptor} (hdesc : parseMethodDescriptor y.desc = some sig) {argsL rest : List Value} (ha : as' = argsL.toArray) (hlen : argsL.length = sig.parameters.length) (hst : st = argsL.reverse ++ rest) (hW : (rest.map fun v => v.category).sum ≤ W) (hq : pc + 3 = q)
    (k : ∀ T', Stand p l e R s m args below meth c T' locs cells slots → T'.heap = h → Run p e below s kc kn Q T' (mkF m q Ls (w :: rest))) : Run p e below s kc kn Q T (mkF m pc Ls st) := by
  refine k_static K X eT hd w1 w2 w3 w4 hy hM hf hl hc hn hsz hdesc ha hlen hst hW hq ?_
  rintro v T' L X' ⟨rfl, h2, rfl⟩
  rw [List.append_nil] at X'
  exact k T' X' h2
theorem k_special (K : Fx p s m meth c by' ml own nm ret Z) (X : Stand p l e R s m args below meth c T locs cells slots) (eT : T.heap = h) {y : MethodName} {bytes : ByteArray} {maxL i W : Nat} {rm : Room} {as' : Array Value} {Q' : Option Value → Heap → List Loc → Prop} {a : Addr}
    (hd : decode by' pc = .ok (.invokespecial i, 3)) (hy1 : y.name = "<init>") (w1 : (Cond.methodLink own i y).before a0 Z = true) (w2 : (Cond.instanceMethod y).before a0 Z = true) (w3 : (Cond.initialized y.cls).before a0 Z = true) (w4 : (Cond.code y bytes maxL none).before a0 Z = true) (hy : y.cls ≠ "java/lang/invoke/MethodHandle" ∧ y.cls ≠ "java/lang/invoke/VarHandle")
    (hM : Met l y bytes maxL none [] rm Z as' h Q') (hf : rm.frames + 1 ≤ R.frames) (hl : W + (maxL + 11) + rm.locals ≤ R.locals) (hc : cells + rm.cells ≤ R.cells) (hn : slots + rm.slots ≤ R.slots) (hsz : Ls.size = ml)
    {sig : MethodDescriptor} (hdesc : parseMethodDescriptor y.desc = some sig) {argsL rest : List Value} (ha : as' = (.ref a :: argsL).toArray) (hlen : argsL.length = sig.parameters.length) (hst : st = argsL.reverse ++ .ref a :: rest) (hW : (rest.map fun v => v.category).sum ≤ W) (hq : pc + 3 = q)
    (k : ∀ v T' L, Stand p l e R s m args below meth c T' (locs ++ L) (cells + rm.cells) (slots + rm.slots) → Q' v T'.heap L → Run p e below s kc kn Q T' (mkF m q Ls (v.toList ++ rest))) : Run p e below s kc kn Q T (mkF m pc Ls st) := by
  have hZ := K.2.2.2.2.1
  subst hq
  obtain ⟨v, _, ⟨T2, L2, k2, n2⟩, -, X2, ⟨Lc, hQ2, l2, y2, z2⟩, st2⟩ := X.specialBack K.1 (y := y) hy1 K.2.2.2.1 (mvT hZ w1) (mvT hZ w2) (mvT hZ w4) hy (backOf (W := W) hM hZ w4 w3 hf hl) (g := mkF m pc Ls st) rfl (by rw [K.2.2.1]; exact hsz) (Steps.refl _) (a := a) (argsL := argsL) (rest := rest) (fun sg hs => by cases hdesc.symm.trans hs; exact hlen) hst (by show 2 * 0 + _ ≤ _; omega) (hb K.2.1 hd) (fun _ _ => ⟨ha.symm, eT, hc, hn⟩)
  dsimp only [Pt.U, Pt.locs, Pt.cells, Pt.slots] at X2 l2 y2 z2 st2 hQ2
  subst l2 y2 z2
  exact (k v T2 Lc X2 hQ2).on st2
theorem k_virtual (K : Fx p s m meth c by' ml own nm ret Z) (X : Stand p l e R s m args below meth c T locs cells slots) (eT : T.heap = h) {y : MethodName} {bytes : ByteArray} {maxL i W : Nat} {rt : Option FieldType} {rm : Room} {as' : Array Value} {Q' : Option Value → Heap → List Loc → Prop} {a : Addr}
    (hd : decode by' pc = .ok (.invokevirtual i, 3)) (w1 : (Cond.methodLink own i y).before a0 Z = true) (w2 : (Cond.declares y).before a0 Z = true) (w5 : (Cond.selects y.cls y y).before a0 Z = true) (w6 : (Cond.instanceMethod y).before a0 Z = true) (w3 : (Cond.initialized y.cls).before a0 Z = true) (w4 : (Cond.code y bytes maxL rt).before a0 Z = true) (hy : y.cls ≠ "java/lang/invoke/MethodHandle" ∧ y.cls ≠ "java/lang/invoke/VarHandle")
    (hE : Exa Z h a y.cls) (hM : Met l y bytes maxL rt [] rm Z as' h Q') (hf : rm.frames + 1 ≤ R.frames) (hl : W + (maxL + 11) + rm.locals ≤ R.locals) (hc : cells + rm.cells ≤ R.cells) (hn : slots + rm.slots ≤ R.slots) (hsz : Ls.size = ml)
    {sig : MethodDescriptor} (hdesc : parseMethodDescriptor y.desc = some sig) {argsL rest : List Value} (ha : as' = (.ref a :: argsL).toArray) (hlen : argsL.length = sig.parameters.length) (hst : st = argsL.reverse ++ .ref a :: rest) (hW : (rest.map fun v => v.category).sum ≤ W) (hq : pc + 3 = q)
    (k : ∀ v T' L, Stand p l e R s m args below meth c T' (locs ++ L) (cells + rm.cells) (slots + rm.slots) → Q' v T'.heap L → Run p e below s kc kn Q T' (mkF m q Ls (v.toList ++ rest))) : Run p e below s kc kn Q T (mkF m pc Ls st) := by
  have hZ := K.2.2.2.2.1
  subst hq
  obtain ⟨cq, kq, qa, qb, qc⟩ := isOf hZ eT hE
  obtain ⟨v, _, ⟨T2, L2, k2, n2⟩, -, X2, ⟨Lc, hQ2, l2, y2, z2⟩, st2⟩ := X.virtualBack K.1 (y := y) (z := y) K.2.2.2.1 (mvT hZ w1) (mvT hZ w2) (notFace_of_selects (args := #[]) (mvT hZ w5)) (mvT hZ w5) (mvT hZ w6) hy (backOf (W := W) hM hZ w4 w3 hf hl) qa qc (g := mkF m pc Ls st) rfl (by rw [K.2.2.1]; exact hsz) (Steps.refl _) (argsL := argsL) (rest := rest) (fun sg hs => by cases hdesc.symm.trans hs; exact hlen) hst (by show 2 * 0 + _ ≤ _; omega) (hb K.2.1 hd) (fun _ _ => ⟨ha.symm, eT, hc, hn⟩)
  dsimp only [Pt.U, Pt.locs, Pt.cells, Pt.slots] at X2 l2 y2 z2 st2 hQ2
  subst l2 y2 z2
  exact (k v T2 Lc X2 hQ2).on st2
theorem k_initO (K : Fx p s m meth c by' ml own nm ret Z) (X : Stand p l e R s m args below meth c T locs cells slots) (eT : T.heap = h) {i W : Nat} {a : Addr} (hd : decode by' pc = .ok (.invokespecial i, 3)) (w1 : (Cond.methodLink own i Lib.objectInit).before a0 Z = true) (w2 : (Cond.instanceMethod Lib.objectInit).before a0 Z = true) (w3 : (Cond.code Lib.objectInit ⟨#[0xb1]⟩ 1 none).before a0 Z = true)
    (hsz : Ls.size = ml) (hf : 1 ≤ R.frames) (hW : (st.map fun v => v.category).sum ≤ W) (hl : W + 12 ≤ R.locals) (hq : pc + 3 = q)
    (k : ∀ T', Stand p l e R s m args below meth c T' locs cells slots → T'.heap = h → Run p e below s kc kn Q T' (mkF m q Ls st)) : Run p e below s kc kn Q T (mkF m pc Ls (.ref a :: st)) := by
  subst hq
  obtain ⟨T2, X2, e2, st2⟩ := initO X K.1 K.2.2.2.2.1 K.2.2.2.1 w1 w2 w3 eT (g := mkF m pc Ls (.ref a :: st)) rfl (by rw [K.2.2.1]; exact hsz) rfl (hb K.2.1 hd) hf (W := W) (by show 2 * 0 + _ ≤ _; omega) hl
  exact (k T2 X2 e2).by st2
theorem k_new (K : Fx p s m meth c by' ml own nm ret Z) (X : Stand p l e R s m args below meth c T locs cells slots) (eT : T.heap = h) {i n : Nat} {C : String} (hd : decode by' pc = .ok (.new i, 3)) (w1 : (Cond.classLink own i C).before a0 Z = true) (w2 : (Cond.instantiable C n).before a0 Z = true) (w3 : (Cond.initialized C).before a0 Z = true) (hc : cells + 1 ≤ R.cells) (hn : slots + n ≤ R.slots) (hq : pc + 3 = q)
    (k : ∀ T' h' a, Stand p l e R s m args below meth c T' locs (cells + 1) (slots + n) → T'.heap = h' → a = h.size → Ext h h' → Exa Z h' a C → (∀ {O fn d : String} {ty : FieldType}, Laid Z a0 C O fn d → parseFieldDescriptor d = some ty → Fld Z h' a O fn d (defaultValue ty)) → Run p e below s kc kn Q T' (mkF m q Ls (.ref a :: st))) : Run p e below s kc kn Q T (mkF m pc Ls st) := by
  subst hq
  obtain ⟨T2, h2, X2, e2, E2, A2, D2, -, st2⟩ := newO X K.1 K.2.2.2.2.1 K.2.2.2.1 w1 w2 w3 eT (g := mkF m pc Ls st) rfl (hb K.2.1 hd) hc hn
  exact (k T2 h2 h.size X2 e2 rfl E2 A2 D2).by st2
theorem k_getfield (K : Fx p s m meth c by' ml own nm ret Z) (X : Stand p l e R s m args below meth c T locs cells slots) (eT : T.heap = h) {i : Nat} {O fn d : String} {a : Addr} {v : Value} (hd : decode by' pc = .ok (.getfield i, 3)) (w : (Cond.fieldLink own i O fn d).before a0 Z = true) (F : Fld Z h a O fn d v) (hq : pc + 3 = q)
    (k : ∀ T', Stand p l e R s m args below meth c T' locs cells slots → T'.heap = h → Run p e below s kc kn Q T' (mkF m q Ls (v :: st))) : Run p e below s kc kn Q T (mkF m pc Ls (.ref a :: st)) := by
  subst hq
  obtain ⟨T2, X2, e2, st2⟩ := getF X K.1 K.2.2.2.2.1 K.2.2.2.1 (host := "") (Or.inl w) Via.refl eT F (g := mkF m pc Ls (.ref a :: st)) rfl rfl (hb K.2.1 hd)
  exact (k T2 X2 e2).by st2
theorem k_putfield (K : Fx p s m meth c by' ml own nm ret Z) (X : Stand p l e R s m args below meth c T locs cells slots) (eT : T.heap = h) {i n : Nat} {O C fn d : String} {ty : FieldType} {a : Addr} {v old : Value} (hd : decode by' pc = .ok (.putfield i, 3)) (w : (Cond.fieldLink own i O fn d).before a0 Z = true) (F : Fld Z h a O fn d old) (E : Exa Z h a C) (L : (Cond.lays C O fn d).before a0 Z = true ∨ ((Cond.laysFinal C O fn d).before a0 Z = true ∧ own = O ∧ nm = "<init>")) (wi : (Cond.instantiable C n).before a0 Z = true)
    (hty : parseFieldDescriptor d = some ty) (hnar : narrow ty v = v) (hfit : fits ty v = true) (hq : pc + 3 = q)
    (k : ∀ T' h', Stand p l e R s m args below meth c T' (locs ++ [⟨a, Jvm.RoadKit.slotOf Z O fn d⟩]) cells slots → T'.heap = h' → Wr h h' a (Jvm.RoadKit.slotOf Z O fn d) v → Run p e below s kc kn Q T' (mkF m q Ls st)) : Run p e below s kc kn Q T (mkF m pc Ls (v :: .ref a :: st)) := by
  subst hq
  obtain ⟨T2, h2, X2, e2, W2, st2⟩ := putF X K.1 K.2.2.2.2.1 K.2.2.2.1 (host := "") (Or.inl w) Via.refl eT F E (L.imp id fun z => ⟨z.1, z.2.1, K.2.2.2.2.2.2.2.trans z.2.2⟩) wi hty hnar hfit (g := mkF m pc Ls (v :: .ref a :: st)) rfl rfl (hb K.2.1 hd)
  exact (k T2 h2 X2 e2 W2).by st2
theorem k_putfieldN (K : Fx p s m meth c by' ml own nm ret Z) (X : Stand p l e R s m args below meth c T locs cells slots) (eT : T.heap = h) {i n : Nat} {O C fn d : String} {ty : FieldType} {a : Addr} {v v' old : Value} (hd : decode by' pc = .ok (.putfield i, 3)) (w : (Cond.fieldLink own i O fn d).before a0 Z = true) (F : Fld Z h a O fn d old) (E : Exa Z h a C) (L : (Cond.lays C O fn d).before a0 Z = true ∨ ((Cond.laysFinal C O fn d).before a0 Z = true ∧ own = O ∧ nm = "<init>")) (wi : (Cond.instantiable C n).before a0 Z = true)
    (hty : parseFieldDescriptor d = some ty) (hnar : narrow ty v = v') (hfit : fits ty v' = true) (hq : pc + 3 = q)
    (k : ∀ T' h', Stand p l e R s m args below meth c T' (locs ++ [⟨a, Jvm.RoadKit.slotOf Z O fn d⟩]) cells slots → T'.heap = h' → Wr h h' a (Jvm.RoadKit.slotOf Z O fn d) v' → Run p e below s kc kn Q T' (mkF m q Ls st)) : Run p e below s kc kn Q T (mkF m pc Ls (v :: .ref a :: st)) := by
  subst hq
  obtain ⟨T2, h2, X2, e2, W2, st2⟩ := putFN X K.1 K.2.2.2.2.1 K.2.2.2.1 w Via.refl eT F E (L.imp id fun z => ⟨z.1, z.2.1, K.2.2.2.2.2.2.2.trans z.2.2⟩) wi hty hnar hfit (g := mkF m pc Ls (v :: .ref a :: st)) rfl rfl (hb K.2.1 hd)
  exact (k T2 h2 X2 e2 W2).by st2
/-- an instance method that leaves the heap as it was -/
theorem k_virtualP (K : Fx p s m meth c by' ml own nm ret Z) (X : Stand p l e R s m args below meth c T locs cells slots) (eT : T.heap = h) {y : MethodName} {bytes : ByteArray} {maxL i W fr lo : Nat} {rt : Option FieldType} {as' : Array Value} {w : Value} {a : Addr}
    (hd : decode by' pc = .ok (.invokevirtual i, 3)) (w1 : (Cond.methodLink own i y).before a0 Z = true) (w2 : (Cond.declares y).before a0 Z = true) (w5 : (Cond.selects y.cls y y).before a0 Z = true) (w6 : (Cond.instanceMethod y).before a0 Z = true) (w3 : (Cond.initialized y.cls).before a0 Z = true) (w4 : (Cond.code y bytes maxL rt).before a0 Z = true) (hy : y.cls ≠ "java/lang/invoke/MethodHandle" ∧ y.cls ≠ "java/lang/invoke/VarHandle")
    (hE : Exa Z h a y.cls) (hM : Met l y bytes maxL rt [] { frames := fr, cells := 0, slots := 0, locals := lo } Z as' h (fun v h' L => v = some w ∧ h' = h ∧ L = [])) (hf : fr + 1 ≤ R.frames) (hl : W + (maxL + 11) + lo ≤ R.locals) (hc : cells ≤ R.cells) (hn : slots ≤ R.slots) (hsz : Ls.size = ml)
    {sig : MethodDescriptor} (hdesc : parseMethodDescriptor y.desc = some sig) {argsL rest : List Value} (ha : as' = (.ref a :: argsL).toArray) (hlen : argsL.length = sig.parameters.length) (hst : st = argsL.reverse ++ .ref a :: rest) (hW : (rest.map fun v => v.category).sum ≤ W) (hq : pc + 3 = q)
    (k : ∀ T', Stand p l e R s m args below meth c T' locs cells slots → T'.heap = h → Run p e below s kc kn Q T' (mkF m q Ls (w :: rest))) : Run p e below s kc kn Q T (mkF m pc Ls st) := by
  refine k_virtual K X eT hd w1 w2 w5 w6 w3 w4 hy hE hM hf hl hc hn hsz hdesc ha hlen hst hW hq ?_
  rintro v T' L X' ⟨rfl, h2, rfl⟩
  rw [List.append_nil] at X'
  exact k T' X' h2
/-- a constructor that does nothing to the heap -/
theorem k_specialP (K : Fx p s m meth c by' ml own nm ret Z) (X : Stand p l e R s m args below meth c T locs cells slots) (eT : T.heap = h) {y : MethodName} {bytes : ByteArray} {maxL i W fr lo : Nat} {as' : Array Value} {a : Addr}
    (hd : decode by' pc = .ok (.invokespecial i, 3)) (hy1 : y.name = "<init>") (w1 : (Cond.methodLink own i y).before a0 Z = true) (w2 : (Cond.instanceMethod y).before a0 Z = true) (w3 : (Cond.initialized y.cls).before a0 Z = true) (w4 : (Cond.code y bytes maxL none).before a0 Z = true) (hy : y.cls ≠ "java/lang/invoke/MethodHandle" ∧ y.cls ≠ "java/lang/invoke/VarHandle")
    (hM : Met l y bytes maxL none [] { frames := fr, cells := 0, slots := 0, locals := lo } Z as' h (fun v h' L => v = none ∧ h' = h ∧ L = [])) (hf : fr + 1 ≤ R.frames) (hl : W + (maxL + 11) + lo ≤ R.locals) (hc : cells ≤ R.cells) (hn : slots ≤ R.slots) (hsz : Ls.size = ml)
    {sig : MethodDescriptor} (hdesc : parseMethodDescriptor y.desc = some sig) {argsL rest : List Value} (ha : as' = (.ref a :: argsL).toArray) (hlen : argsL.length = sig.parameters.length) (hst : st = argsL.reverse ++ .ref a :: rest) (hW : (rest.map fun v => v.category).sum ≤ W) (hq : pc + 3 = q)
    (k : ∀ T', Stand p l e R s m args below meth c T' locs cells slots → T'.heap = h → Run p e below s kc kn Q T' (mkF m q Ls rest)) : Run p e below s kc kn Q T (mkF m pc Ls st) := by
  refine k_special K X eT hd hy1 w1 w2 w3 w4 hy hM hf hl hc hn hsz hdesc ha hlen hst hW hq ?_
  rintro v T' L X' ⟨rfl, h2, rfl⟩
  rw [List.append_nil] at X'
  exact k T' X' h2
/-- an array of n places; place i holds g i -/
def Ary (Z : State) (h : Heap) (a : Addr) (ty : FieldType) (n : Nat) (g : Nat → Value) : Prop := ∃ c : Cell, Arr Z h a c ty ∧ c.slots.size = n ∧ n < 2147483648 ∧ (∀ i, i < n → c.slots[i]? = some (g i)) ∧ ∀ i, i < n → fits ty (g i) = true
theorem Ary.ext {h' : Heap} {a : Addr} {ty : FieldType} {n : Nat} {g : Nat → Value} (F : Ary Z h a ty n g) (E : Ext h h') : Ary Z h' a ty n g := by obtain ⟨c, A, r⟩ := F; exact ⟨c, A.ext E, r⟩
theorem Ary.other {h' : Heap} {a b : Addr} {ty : FieldType} {n sl : Nat} {v : Value} {g : Nat → Value} (F : Ary Z h b ty n g) (W : Wr h h' a sl v) (q : b ≠ a) : Ary Z h' b ty n g := by obtain ⟨c, A, r⟩ := F; exact ⟨c, A.other W q, r⟩
theorem Ary.keep {h' : Heap} {a : Addr} {ty : FieldType} {n : Nat} {g : Nat → Value} {ws : List Addr} (F : Ary Z h a ty n g) (K : Keep h h' ws) (q : a ∉ ws) : Ary Z h' a ty n g := by obtain ⟨c, A, r⟩ := F; exact ⟨c, ⟨K.2.1 a c A.1 q, A.2⟩, r⟩
/-- the int j is the place i -/
abbrev Ix (j : Int32) (i : Nat) : Prop := ¬ j < 0 ∧ j.toNatClampNeg = i
theorem Ix.of {j : Int32} {i : Nat} (h : j.toInt = i) : Ix j i := by
  refine ⟨?_, ?_⟩
  · rw [Int32.lt_iff_toInt_lt, h]; have : (0 : Int32).toInt = 0 := rfl
    omega
  · simp only [Int32.toNatClampNeg, h]; omega
end OwnKit

theorem wd {Z : State} {az : Array Value} (hw : ∀ d ∈ tables_1, d.before az Z = true) (k : Nat) {d : Jvm.Cond} (h : tables_1[k]? = some d) : d.before az Z = true := hw _ (List.mem_of_getElem? h)
theorem d1_0 : decode method_2_code 0 = .ok (.iload_n 0, 1) := by decide +kernel
theorem d1_1 : decode method_2_code 1 = .ok (.iconst 3, 1) := by decide +kernel
theorem d1_2 : decode method_2_code 2 = .ok (.iand, 1) := by decide +kernel
theorem d1_3 : decode method_2_code 3 = .ok (.istore_n 1, 1) := by decide +kernel
theorem d1_4 : decode method_2_code 4 = .ok (.iload_n 1, 1) := by decide +kernel
theorem d1_5 : decode method_2_code 5 = .ok (.ifCond .ne 7, 3) := by decide +kernel
theorem d1_12 : decode method_2_code 12 = .ok (.iload_n 1, 1) := by decide +kernel
theorem d1_13 : decode method_2_code 13 = .ok (.iconst 1, 1) := by decide +kernel
theorem d1_14 : decode method_2_code 14 = .ok (.if_icmp .ne 7, 3) := by decide +kernel
theorem d1_21 : decode method_2_code 21 = .ok (.iload_n 1, 1) := by decide +kernel
theorem d1_22 : decode method_2_code 22 = .ok (.iconst 2, 1) := by decide +kernel
theorem d1_23 : decode method_2_code 23 = .ok (.if_icmp .ne 6, 3) := by decide +kernel
theorem d1_29 : decode method_2_code 29 = .ok (.iload_n 0, 1) := by decide +kernel
theorem d1_30 : decode method_2_code 30 = .ok (.bipush 16, 2) := by decide +kernel
theorem d1_32 : decode method_2_code 32 = .ok (.iushr, 1) := by decide +kernel
theorem d1_33 : decode method_2_code 33 = .ok (.i2c, 1) := by decide +kernel
theorem d1_34 : decode method_2_code 34 = .ok (.ireturn, 1) := by decide +kernel
theorem d1_26 : decode method_2_code 26 = .ok (.bipush 34, 2) := by decide +kernel
theorem d1_28 : decode method_2_code 28 = .ok (.ireturn, 1) := by decide +kernel
theorem d1_17 : decode method_2_code 17 = .ok (.sipush 8221, 3) := by decide +kernel
theorem d1_20 : decode method_2_code 20 = .ok (.ireturn, 1) := by decide +kernel
theorem d1_8 : decode method_2_code 8 = .ok (.sipush 8220, 3) := by decide +kernel
theorem d1_11 : decode method_2_code 11 = .ok (.ireturn, 1) := by decide +kernel
theorem ef_1 (p0 : Int32) : ∀ m : MethodId, entryFrame m #[(.int p0)] 2 = mkF m 0 #[.val (.int p0), .unset] [] := by intro m; first | (simp [entryFrame, mkF, argsToLocals, Value.category]; done) | rfl
theorem pn_0 : plainName "com/example/wherefore/wherefore/instrument/QuotationInsidePinLaw" = true := by first | (simp [plainName, overriddenIn]; done) | decide +kernel
def F_pick (p0 : Int32) : Int32 :=
  let v1 : Int32 := (p0 &&& (3 : Int32))
  if v1 = (0 : Int32) then
    (8220 : Int32)
  else
    if v1 = (1 : Int32) then
      (8221 : Int32)
    else
      if v1 = (2 : Int32) then
        (34 : Int32)
      else
        (nar .char (i2c (ushrI p0 (16 : Int32))))
set_option maxRecDepth 65536 in
set_option maxHeartbeats 40000000 in
theorem rm1 (l : Launch) (Z : State) (az : Array Value) (hw : ∀ d ∈ tables_1, d.before az Z = true) (ws : List Jvm.Cond) (p0 : Int32) (h0 : Heap) :
    Met l (⟨"com/example/wherefore/wherefore/instrument/QuotationInsidePinLaw", "pick", "(I)C"⟩ : MethodName) method_2_code 2 (some .char) ws ({ frames := 0, cells := 0, slots := 0, locals := 0 } : Room) Z #[(.int p0)] h0 (fun v h' L => v = some (Value.int (F_pick p0)) ∧ h' = h0 ∧ L = []) := by
  refine enter (plainFor_of_name pn_0) (ef_1 p0) ?_
  intro p e s m below meth c T0 kc kn Q hkc hkn hQ K' X0 e0
  have K : Fx p s m meth c method_2_code 2 "com/example/wherefore/wherefore/instrument/QuotationInsidePinLaw" "pick" (some .char) Z := K'
  refine k_iloadN K X0 d1_0 rfl (q := 1) rfl ?_
  refine k_iconst K X0 d1_1 (v := (3 : Int32)) rfl (q := 2) rfl ?_
  refine k_iand K X0 d1_2 (q := 3) rfl ?_
  obtain ⟨v1, hv_v1⟩ : ∃ z : Int32, (p0 &&& (3 : Int32)) = z := ⟨_, rfl⟩
  refine k_istoreN K X0 d1_3 hv_v1 (Ls' := #[.val (.int p0), .val (.int v1)]) rfl (q := 4) rfl ?_
  refine k_iloadN K X0 d1_4 rfl (q := 5) rfl ?_
  refine k_if_ne K X0 d1_5 (by decide) (q := 12) rfl (q' := 8) rfl ?_ ?_
  · intro hc2
    refine k_iloadN K X0 d1_12 rfl (q := 13) rfl ?_
    refine k_iconst K X0 d1_13 (v := (1 : Int32)) rfl (q := 14) rfl ?_
    refine k_icmp_ne K X0 d1_14 (by decide) (q := 21) rfl (q' := 17) rfl ?_ ?_
    · intro hc3
      refine k_iloadN K X0 d1_21 rfl (q := 22) rfl ?_
      refine k_iconst K X0 d1_22 (v := (2 : Int32)) rfl (q := 23) rfl ?_
      refine k_icmp_ne K X0 d1_23 (by decide) (q := 29) rfl (q' := 26) rfl ?_ ?_
      · intro hc4
        refine k_iloadN K X0 d1_29 rfl (q := 30) rfl ?_
        refine k_bipush K X0 d1_30 (v := (16 : Int32)) rfl (q := 32) rfl ?_
        refine k_iushr K X0 d1_32 (q := 33) rfl ?_
        refine k_i2c K X0 d1_33 (q := 34) rfl ?_
        exact k_retc K X0 e0 d1_34 (Nat.le_trans (by decide) hkc) (Nat.le_trans (by decide) hkn) (hQ _ _ _ ⟨(by show some (Value.int (nar .char (i2c (ushrI p0 (16 : Int32))))) = some (Value.int (F_pick p0)); simp only [F_pick, hv_v1, if_neg hc2, if_neg hc3, if_neg hc4]), rfl, rfl⟩)
      · intro hc4
        refine k_bipush K X0 d1_26 (v := (34 : Int32)) rfl (q := 28) rfl ?_
        exact k_retc K X0 e0 d1_28 (Nat.le_trans (by decide) hkc) (Nat.le_trans (by decide) hkn) (hQ _ _ _ ⟨(by show some (Value.int (34 : Int32)) = some (Value.int (F_pick p0)); simp only [F_pick, hv_v1, if_neg hc2, if_neg hc3, if_pos hc4]), rfl, rfl⟩)
    · intro hc3
      refine k_sipush K X0 d1_17 (v := (8221 : Int32)) rfl (q := 20) rfl ?_
      exact k_retc K X0 e0 d1_20 (Nat.le_trans (by decide) hkc) (Nat.le_trans (by decide) hkn) (hQ _ _ _ ⟨(by show some (Value.int (8221 : Int32)) = some (Value.int (F_pick p0)); simp only [F_pick, hv_v1, if_neg hc2, if_pos hc3]), rfl, rfl⟩)
  · intro hc2
    refine k_sipush K X0 d1_8 (v := (8220 : Int32)) rfl (q := 11) rfl ?_
    exact k_retc K X0 e0 d1_11 (Nat.le_trans (by decide) hkc) (Nat.le_trans (by decide) hkn) (hQ _ _ _ ⟨(by show some (Value.int (8220 : Int32)) = some (Value.int (F_pick p0)); simp only [F_pick, hv_v1, if_pos hc2]), rfl, rfl⟩)
theorem d7_0 : decode method_3_code 0 = .ok (.iload_n 0, 1) := by decide +kernel
theorem d7_1 : decode method_3_code 1 = .ok (.sipush 8220, 3) := by decide +kernel
theorem d7_4 : decode method_3_code 4 = .ok (.if_icmp .ne 5, 3) := by decide +kernel
theorem d7_9 : decode method_3_code 9 = .ok (.iload_n 0, 1) := by decide +kernel
theorem d7_10 : decode method_3_code 10 = .ok (.sipush 8221, 3) := by decide +kernel
theorem d7_13 : decode method_3_code 13 = .ok (.if_icmp .ne 5, 3) := by decide +kernel
theorem d7_18 : decode method_3_code 18 = .ok (.iconst 0, 1) := by decide +kernel
theorem d7_19 : decode method_3_code 19 = .ok (.ireturn, 1) := by decide +kernel
theorem d7_16 : decode method_3_code 16 = .ok (.iconst (-1), 1) := by decide +kernel
theorem d7_17 : decode method_3_code 17 = .ok (.ireturn, 1) := by decide +kernel
theorem d7_7 : decode method_3_code 7 = .ok (.iconst 1, 1) := by decide +kernel
theorem d7_8 : decode method_3_code 8 = .ok (.ireturn, 1) := by decide +kernel
theorem ef_7 (p0 : Int32) : ∀ m : MethodId, entryFrame m #[(.int p0)] 1 = mkF m 0 #[.val (.int p0)] [] := by intro m; first | (simp [entryFrame, mkF, argsToLocals, Value.category]; done) | rfl
def F_delta (p0 : Int32) : Int32 :=
  if p0 = (8220 : Int32) then
    (1 : Int32)
  else
    if p0 = (8221 : Int32) then
      (-1 : Int32)
    else
      (0 : Int32)
set_option maxRecDepth 65536 in
set_option maxHeartbeats 40000000 in
theorem rm7 (l : Launch) (Z : State) (az : Array Value) (hw : ∀ d ∈ tables_1, d.before az Z = true) (ws : List Jvm.Cond) (p0 : Int32) (h0 : Heap) :
    Met l (⟨"com/example/wherefore/wherefore/instrument/QuotationInsidePinLaw", "delta", "(C)I"⟩ : MethodName) method_3_code 1 (some .int) ws ({ frames := 0, cells := 0, slots := 0, locals := 0 } : Room) Z #[(.int p0)] h0 (fun v h' L => v = some (Value.int (F_delta p0)) ∧ h' = h0 ∧ L = []) := by
  refine enter (plainFor_of_name pn_0) (ef_7 p0) ?_
  intro p e s m below meth c T0 kc kn Q hkc hkn hQ K' X0 e0
  have K : Fx p s m meth c method_3_code 1 "com/example/wherefore/wherefore/instrument/QuotationInsidePinLaw" "delta" (some .int) Z := K'
  refine k_iloadN K X0 d7_0 rfl (q := 1) rfl ?_
  refine k_sipush K X0 d7_1 (v := (8220 : Int32)) rfl (q := 4) rfl ?_
  refine k_icmp_ne K X0 d7_4 (by decide) (q := 9) rfl (q' := 7) rfl ?_ ?_
  · intro hc5
    refine k_iloadN K X0 d7_9 rfl (q := 10) rfl ?_
    refine k_sipush K X0 d7_10 (v := (8221 : Int32)) rfl (q := 13) rfl ?_
    refine k_icmp_ne K X0 d7_13 (by decide) (q := 18) rfl (q' := 16) rfl ?_ ?_
    · intro hc6
      refine k_iconst K X0 d7_18 (v := (0 : Int32)) rfl (q := 19) rfl ?_
      exact k_reti K X0 e0 d7_19 (Nat.le_trans (by decide) hkc) (Nat.le_trans (by decide) hkn) (hQ _ _ _ ⟨(by show some (Value.int (0 : Int32)) = some (Value.int (F_delta p0)); simp only [F_delta, if_neg hc5, if_neg hc6]), rfl, rfl⟩)
    · intro hc6
      refine k_iconst K X0 d7_16 (v := (-1 : Int32)) rfl (q := 17) rfl ?_
      exact k_reti K X0 e0 d7_17 (Nat.le_trans (by decide) hkc) (Nat.le_trans (by decide) hkn) (hQ _ _ _ ⟨(by show some (Value.int (-1 : Int32)) = some (Value.int (F_delta p0)); simp only [F_delta, if_neg hc5, if_pos hc6]), rfl, rfl⟩)
  · intro hc5
    refine k_iconst K X0 d7_7 (v := (1 : Int32)) rfl (q := 8) rfl ?_
    exact k_reti K X0 e0 d7_8 (Nat.le_trans (by decide) hkc) (Nat.le_trans (by decide) hkn) (hQ _ _ _ ⟨(by show some (Value.int (1 : Int32)) = some (Value.int (F_delta p0)); simp only [F_delta, if_pos hc5]), rfl, rfl⟩)
theorem d8_0 : decode method_4_code 0 = .ok (.iload_n 0, 1) := by decide +kernel
theorem d8_1 : decode method_4_code 1 = .ok (.bipush 34, 2) := by decide +kernel
theorem d8_3 : decode method_4_code 3 = .ok (.if_icmp .ne 7, 3) := by decide +kernel
theorem d8_11 : decode method_4_code 11 = .ok (.ireturn, 1) := by decide +kernel
theorem d8_10 : decode method_4_code 10 = .ok (.iconst 0, 1) := by decide +kernel
theorem d8_6 : decode method_4_code 6 = .ok (.iconst 1, 1) := by decide +kernel
theorem d8_7 : decode method_4_code 7 = .ok (.goto 4, 3) := by decide +kernel
theorem ef_8 (p0 : Int32) : ∀ m : MethodId, entryFrame m #[(.int p0)] 1 = mkF m 0 #[.val (.int p0)] [] := by intro m; first | (simp [entryFrame, mkF, argsToLocals, Value.category]; done) | rfl
def F_quote (p0 : Int32) : Int32 :=
  let d8 : Int32 := (if p0 = (34 : Int32) then (1 : Int32) else (0 : Int32))
  d8
set_option maxRecDepth 65536 in
set_option maxHeartbeats 40000000 in
theorem rm8 (l : Launch) (Z : State) (az : Array Value) (hw : ∀ d ∈ tables_1, d.before az Z = true) (ws : List Jvm.Cond) (p0 : Int32) (h0 : Heap) :
    Met l (⟨"com/example/wherefore/wherefore/instrument/QuotationInsidePinLaw", "quote", "(C)I"⟩ : MethodName) method_4_code 1 (some .int) ws ({ frames := 0, cells := 0, slots := 0, locals := 0 } : Room) Z #[(.int p0)] h0 (fun v h' L => v = some (Value.int (F_quote p0)) ∧ h' = h0 ∧ L = []) := by
  refine enter (plainFor_of_name pn_0) (ef_8 p0) ?_
  intro p e s m below meth c T0 kc kn Q hkc hkn hQ K' X0 e0
  have K : Fx p s m meth c method_4_code 1 "com/example/wherefore/wherefore/instrument/QuotationInsidePinLaw" "quote" (some .int) Z := K'
  refine k_iloadN K X0 d8_0 rfl (q := 1) rfl ?_
  refine k_bipush K X0 d8_1 (v := (34 : Int32)) rfl (q := 3) rfl ?_
  have J9 : ∀ (d8 : Int32), (if p0 = (34 : Int32) then (1 : Int32) else (0 : Int32)) = d8 → Run p e below s kc kn Q T0 (mkF m 11 #[.val (.int p0)] [(.int d8)]) := by
    intro d8 hv_d8
    exact k_reti K X0 e0 d8_11 (Nat.le_trans (by decide) hkc) (Nat.le_trans (by decide) hkn) (hQ _ _ _ ⟨(by show some (Value.int d8) = some (Value.int (F_quote p0)); simp only [F_quote, hv_d8]), rfl, rfl⟩)
  refine k_icmp_ne K X0 d8_3 (by decide) (q := 10) rfl (q' := 6) rfl ?_ ?_
  · intro hc10
    refine k_iconst K X0 d8_10 (v := (0 : Int32)) rfl (q := 11) rfl ?_
    exact J9 _ (by first | rfl | (simp only [if_neg hc10]))
  · intro hc10
    refine k_iconst K X0 d8_6 (v := (1 : Int32)) rfl (q := 7) rfl ?_
    refine k_goto K X0 d8_7 (by decide) (q := 11) rfl ?_
    exact J9 _ (by first | rfl | (simp only [if_pos hc10]))
theorem d5_0 : decode jdk_29_method_69_code 0 = .ok (.iload_n 0, 1) := by decide +kernel
theorem d5_1 : decode jdk_29_method_69_code 1 = .ok (.iload_n 1, 1) := by decide +kernel
theorem d5_2 : decode jdk_29_method_69_code 2 = .ok (.if_icmp .gt 7, 3) := by decide +kernel
theorem d5_10 : decode jdk_29_method_69_code 10 = .ok (.ireturn, 1) := by decide +kernel
theorem d5_9 : decode jdk_29_method_69_code 9 = .ok (.iload_n 1, 1) := by decide +kernel
theorem d5_5 : decode jdk_29_method_69_code 5 = .ok (.iload_n 0, 1) := by decide +kernel
theorem d5_6 : decode jdk_29_method_69_code 6 = .ok (.goto 4, 3) := by decide +kernel
theorem ef_5 (p0 : Int32) (p1 : Int32) : ∀ m : MethodId, entryFrame m #[(.int p0), (.int p1)] 2 = mkF m 0 #[.val (.int p0), .val (.int p1)] [] := by intro m; first | (simp [entryFrame, mkF, argsToLocals, Value.category]; done) | rfl
def F_min (p0 : Int32) (p1 : Int32) : Int32 :=
  let d12 : Int32 := (if p1 < p0 then p1 else p0)
  d12
set_option maxRecDepth 65536 in
set_option maxHeartbeats 40000000 in
theorem rm5 (l : Launch) (Z : State) (az : Array Value) (hw : ∀ d ∈ tables_1, d.before az Z = true) (ws : List Jvm.Cond) (p0 : Int32) (p1 : Int32) (h0 : Heap) :
    Met l (⟨"java/lang/Math", "min", "(II)I"⟩ : MethodName) jdk_29_method_69_code 2 (some .int) ws ({ frames := 0, cells := 0, slots := 0, locals := 0 } : Room) Z #[(.int p0), (.int p1)] h0 (fun v h' L => v = some (Value.int (F_min p0 p1)) ∧ h' = h0 ∧ L = []) := by
  refine enter (Jvm.Free.JP.mathPlain rfl (by decide +kernel)) (ef_5 p0 p1) ?_
  intro p e s m below meth c T0 kc kn Q hkc hkn hQ K' X0 e0
  have K : Fx p s m meth c jdk_29_method_69_code 2 "java/lang/Math" "min" (some .int) Z := K'
  refine k_iloadN K X0 d5_0 rfl (q := 1) rfl ?_
  refine k_iloadN K X0 d5_1 rfl (q := 2) rfl ?_
  have J13 : ∀ (d12 : Int32), (if p1 < p0 then p1 else p0) = d12 → Run p e below s kc kn Q T0 (mkF m 10 #[.val (.int p0), .val (.int p1)] [(.int d12)]) := by
    intro d12 hv_d12
    exact k_reti K X0 e0 d5_10 (Nat.le_trans (by decide) hkc) (Nat.le_trans (by decide) hkn) (hQ _ _ _ ⟨(by show some (Value.int d12) = some (Value.int (F_min p0 p1)); simp only [F_min, hv_d12]), rfl, rfl⟩)
  refine k_icmp_gt K X0 d5_2 (by decide) (q := 9) rfl (q' := 5) rfl ?_ ?_
  · intro hc14
    refine k_iloadN K X0 d5_9 rfl (q := 10) rfl ?_
    exact J13 _ (by first | rfl | (simp only [if_pos hc14]))
  · intro hc14
    refine k_iloadN K X0 d5_5 rfl (q := 6) rfl ?_
    refine k_goto K X0 d5_6 (by decide) (q := 10) rfl ?_
    exact J13 _ (by first | rfl | (simp only [if_neg hc14]))
theorem d2_0 : decode prog_71_method_1_code 0 = .ok (.aload_n 0, 1) := by decide +kernel
theorem d2_1 : decode prog_71_method_1_code 1 = .ok (.invokespecial 1, 3) := by decide +kernel
theorem d2_4 : decode prog_71_method_1_code 4 = .ok (.return_, 1) := by decide +kernel
theorem ef_2 (a0 : Addr) : ∀ m : MethodId, entryFrame m #[(.ref a0)] 1 = mkF m 0 #[.val (.ref a0)] [] := by intro m; first | (simp [entryFrame, mkF, argsToLocals, Value.category]; done) | rfl
theorem pn_1 : plainName "com/example/wherefore/wherefore/instrument/Quotation" = true := by first | (simp [plainName, overriddenIn]; done) | decide +kernel
set_option maxRecDepth 65536 in
set_option maxHeartbeats 40000000 in
theorem rm2 (l : Launch) (Z : State) (az : Array Value) (hw : ∀ d ∈ tables_1, d.before az Z = true) (ws : List Jvm.Cond) (a0 : Addr) (h0 : Heap) :
    Met l (⟨"com/example/wherefore/wherefore/instrument/Quotation", "<init>", "()V"⟩ : MethodName) prog_71_method_1_code 1 none ws ({ frames := 1, cells := 0, slots := 0, locals := 12 } : Room) Z #[(.ref a0)] h0 (fun v h' L => v = none ∧ h' = h0 ∧ L = []) := by
  refine enter (plainFor_of_name pn_1) (ef_2 a0) ?_
  intro p e s m below meth c T0 kc kn Q hkc hkn hQ K' X0 e0
  have K : Fx p s m meth c prog_71_method_1_code 1 "com/example/wherefore/wherefore/instrument/Quotation" "<init>" none Z := K'
  refine k_aloadN K X0 d2_0 rfl rfl (q := 1) rfl ?_
  refine k_initO K X0 e0 d2_1 (wd hw 10 rfl) (wd hw 11 rfl) (wd hw 12 rfl) rfl (by decide) (W := 0) (Nat.le_of_eq rfl) (by decide) (q := 4) rfl ?_
  intro T15 X16 e17
  exact k_retv K X16 e17 d2_4 (Nat.le_trans (by decide) hkc) (Nat.le_trans (by decide) hkn) (hQ _ _ _ ⟨rfl, rfl, rfl⟩)
theorem d6_0 : decode prog_71_method_3_code 0 = .ok (.iload_n 1, 1) := by decide +kernel
theorem d6_1 : decode prog_71_method_3_code 1 = .ok (.sipush 8220, 3) := by decide +kernel
theorem d6_4 : decode prog_71_method_3_code 4 = .ok (.if_icmp .ne 16, 3) := by decide +kernel
theorem d6_20 : decode prog_71_method_3_code 20 = .ok (.iload_n 1, 1) := by decide +kernel
theorem d6_21 : decode prog_71_method_3_code 21 = .ok (.sipush 8221, 3) := by decide +kernel
theorem d6_24 : decode prog_71_method_3_code 24 = .ok (.if_icmp .ne 23, 3) := by decide +kernel
theorem d6_47 : decode prog_71_method_3_code 47 = .ok (.iload_n 1, 1) := by decide +kernel
theorem d6_48 : decode prog_71_method_3_code 48 = .ok (.bipush 34, 2) := by decide +kernel
theorem d6_50 : decode prog_71_method_3_code 50 = .ok (.if_icmp .ne 19, 3) := by decide +kernel
theorem d6_69 : decode prog_71_method_3_code 69 = .ok (.return_, 1) := by decide +kernel
theorem d6_53 : decode prog_71_method_3_code 53 = .ok (.aload_n 0, 1) := by decide +kernel
theorem d6_54 : decode prog_71_method_3_code 54 = .ok (.aload_n 0, 1) := by decide +kernel
theorem d6_55 : decode prog_71_method_3_code 55 = .ok (.getfield 13, 3) := by decide +kernel
theorem d6_58 : decode prog_71_method_3_code 58 = .ok (.ifCond .ne 7, 3) := by decide +kernel
theorem d6_66 : decode prog_71_method_3_code 66 = .ok (.putfield 13, 3) := by decide +kernel
theorem d6_65 : decode prog_71_method_3_code 65 = .ok (.iconst 0, 1) := by decide +kernel
theorem d6_61 : decode prog_71_method_3_code 61 = .ok (.iconst 1, 1) := by decide +kernel
theorem d6_62 : decode prog_71_method_3_code 62 = .ok (.goto 4, 3) := by decide +kernel
theorem d6_27 : decode prog_71_method_3_code 27 = .ok (.aload_n 0, 1) := by decide +kernel
theorem d6_28 : decode prog_71_method_3_code 28 = .ok (.getfield 7, 3) := by decide +kernel
theorem d6_31 : decode prog_71_method_3_code 31 = .ok (.ifCond .le 16, 3) := by decide +kernel
theorem d6_34 : decode prog_71_method_3_code 34 = .ok (.aload_n 0, 1) := by decide +kernel
theorem d6_35 : decode prog_71_method_3_code 35 = .ok (.dup, 1) := by decide +kernel
theorem d6_36 : decode prog_71_method_3_code 36 = .ok (.getfield 7, 3) := by decide +kernel
theorem d6_39 : decode prog_71_method_3_code 39 = .ok (.iconst 1, 1) := by decide +kernel
theorem d6_40 : decode prog_71_method_3_code 40 = .ok (.isub, 1) := by decide +kernel
theorem d6_41 : decode prog_71_method_3_code 41 = .ok (.putfield 7, 3) := by decide +kernel
theorem d6_44 : decode prog_71_method_3_code 44 = .ok (.goto 25, 3) := by decide +kernel
theorem d6_7 : decode prog_71_method_3_code 7 = .ok (.aload_n 0, 1) := by decide +kernel
theorem d6_8 : decode prog_71_method_3_code 8 = .ok (.dup, 1) := by decide +kernel
theorem d6_9 : decode prog_71_method_3_code 9 = .ok (.getfield 7, 3) := by decide +kernel
theorem d6_12 : decode prog_71_method_3_code 12 = .ok (.iconst 1, 1) := by decide +kernel
theorem d6_13 : decode prog_71_method_3_code 13 = .ok (.iadd, 1) := by decide +kernel
theorem d6_14 : decode prog_71_method_3_code 14 = .ok (.putfield 7, 3) := by decide +kernel
theorem d6_17 : decode prog_71_method_3_code 17 = .ok (.goto 52, 3) := by decide +kernel
theorem ef_6 (a0 : Addr) (p1 : Int32) : ∀ m : MethodId, entryFrame m #[(.ref a0), (.int p1)] 2 = mkF m 0 #[.val (.ref a0), .val (.int p1)] [] := by intro m; first | (simp [entryFrame, mkF, argsToLocals, Value.category]; done) | rfl
def F_read_a0_depth (p1 : Int32) (w_a0_straight : Int32) (w_a0_depth : Int32) : Int32 :=
  if p1 = (8220 : Int32) then
    (w_a0_depth + (1 : Int32))
  else
    if p1 = (8221 : Int32) then
      if (0 : Int32) < w_a0_depth then
        (w_a0_depth - (1 : Int32))
      else
        if p1 = (34 : Int32) then
          let d272 : Int32 := (if w_a0_straight = (0 : Int32) then (1 : Int32) else (0 : Int32))
          w_a0_depth
        else
          w_a0_depth
    else
      if p1 = (34 : Int32) then
        let d200 : Int32 := (if w_a0_straight = (0 : Int32) then (1 : Int32) else (0 : Int32))
        w_a0_depth
      else
        w_a0_depth
def F_read_a0_straight (p1 : Int32) (w_a0_straight : Int32) (w_a0_depth : Int32) : Int32 :=
  if p1 = (8220 : Int32) then
    w_a0_straight
  else
    if p1 = (8221 : Int32) then
      if (0 : Int32) < w_a0_depth then
        w_a0_straight
      else
        if p1 = (34 : Int32) then
          let d272 : Int32 := (if w_a0_straight = (0 : Int32) then (1 : Int32) else (0 : Int32))
          (nar .boolean d272)
        else
          w_a0_straight
    else
      if p1 = (34 : Int32) then
        let d200 : Int32 := (if w_a0_straight = (0 : Int32) then (1 : Int32) else (0 : Int32))
        (nar .boolean d200)
      else
        w_a0_straight
set_option maxRecDepth 65536 in
set_option maxHeartbeats 40000000 in
theorem rm6 (l : Launch) (Z : State) (az : Array Value) (hw : ∀ d ∈ tables_1, d.before az Z = true) (ws : List Jvm.Cond) (a0 : Addr) (p1 : Int32) (w_a0_straight : Int32) (w_a0_depth : Int32) (h0 : Heap) (n0 : Nat) (Z0 : n0 ≤ h0.size) (F_a0_straight : Fld Z h0 a0 "com/example/wherefore/wherefore/instrument/Quotation" "straight" "Z" (.int w_a0_straight)) (E_a0 : Exa Z h0 a0 "com/example/wherefore/wherefore/instrument/Quotation") (g_a0 : n0 ≤ a0) (F_a0_depth : Fld Z h0 a0 "com/example/wherefore/wherefore/instrument/Quotation" "depth" "I" (.int w_a0_depth)) :
    Met l (⟨"com/example/wherefore/wherefore/instrument/Quotation", "read", "(C)V"⟩ : MethodName) prog_71_method_3_code 2 none ws ({ frames := 0, cells := 0, slots := 0, locals := 0 } : Room) Z #[(.ref a0), (.int p1)] h0 (fun v h' L => v = none ∧ Fr n0 L ∧ Keep h0 h' [a0] ∧ Fld Z h' a0 "com/example/wherefore/wherefore/instrument/Quotation" "depth" "I" (.int (F_read_a0_depth p1 w_a0_straight w_a0_depth)) ∧ Fld Z h' a0 "com/example/wherefore/wherefore/instrument/Quotation" "straight" "Z" (.int (F_read_a0_straight p1 w_a0_straight w_a0_depth))) := by
  refine enter (plainFor_of_name pn_1) (ef_6 a0 p1) ?_
  intro p e s m below meth c T0 kc kn Q hkc hkn hQ K' X0 e0
  have K : Fx p s m meth c prog_71_method_3_code 2 "com/example/wherefore/wherefore/instrument/Quotation" "read" none Z := K'
  have N0 := Fr.nil n0
  have K0 : Keep h0 h0 [a0] := Keep.refl _ _
  refine k_iloadN K X0 d6_0 rfl (q := 1) rfl ?_
  refine k_sipush K X0 d6_1 (v := (8220 : Int32)) rfl (q := 4) rfl ?_
  refine k_icmp_ne K X0 d6_4 (by decide) (q := 20) rfl (q' := 7) rfl ?_ ?_
  · intro hc123
    refine k_iloadN K X0 d6_20 rfl (q := 21) rfl ?_
    refine k_sipush K X0 d6_21 (v := (8221 : Int32)) rfl (q := 24) rfl ?_
    refine k_icmp_ne K X0 d6_24 (by decide) (q := 47) rfl (q' := 27) rfl ?_ ?_
    · intro hc177
      refine k_iloadN K X0 d6_47 rfl (q := 48) rfl ?_
      refine k_bipush K X0 d6_48 (v := (34 : Int32)) rfl (q := 50) rfl ?_
      refine k_icmp_ne K X0 d6_50 (by decide) (q := 69) rfl (q' := 53) rfl ?_ ?_
      · intro hc195
        exact k_retv K X0 e0 d6_69 (Nat.le_trans (by decide) hkc) (Nat.le_trans (by decide) hkn) (hQ _ _ _ ⟨rfl, N0, K0, (by rw [(show F_read_a0_depth p1 w_a0_straight w_a0_depth = w_a0_depth from by simp only [F_read_a0_depth, if_neg hc123, if_neg hc177, if_neg hc195])]; exact F_a0_depth), (by rw [(show F_read_a0_straight p1 w_a0_straight w_a0_depth = w_a0_straight from by simp only [F_read_a0_straight, if_neg hc123, if_neg hc177, if_neg hc195])]; exact F_a0_straight)⟩)
      · intro hc195
        refine k_aloadN K X0 d6_53 rfl rfl (q := 54) rfl ?_
        refine k_aloadN K X0 d6_54 rfl rfl (q := 55) rfl ?_
        refine k_getfield K X0 e0 d6_55 (wd hw 20 rfl) F_a0_straight (q := 58) rfl ?_
        intro T196 X197 e198
        have J201 : ∀ (d200 : Int32), (if w_a0_straight = (0 : Int32) then (1 : Int32) else (0 : Int32)) = d200 → Run p e below s kc kn Q T196 (mkF m 66 #[.val (.ref a0), .val (.int p1)] [(.int d200), (.ref a0)]) := by
          intro d200 hv_d200
          refine k_putfieldN K X197 e198 d6_66 (wd hw 20 rfl) F_a0_straight E_a0 (Or.inl (wd hw 21 rfl)) (wd hw 5 rfl) (ty := .boolean) (v' := (.int (nar .boolean d200))) (by decide) rfl (fits_nar_bool _) (q := 69) rfl ?_
          intro T202 h203 X204 e205 W206
          have f207 := Fld.same W206 F_a0_straight
          have f208 := Exa.wr W206 E_a0
          have f209 := Fld.other W206 F_a0_depth (Or.inr (slot_ne (Or.inl (wd hw 19 rfl)) (Or.inl (wd hw 21 rfl)) (by decide) (t := .int) (t' := .boolean) (by decide) (by decide)))
          have N210 := Fr.snoc X204 N0 g_a0
          have K211 := Keep.wr K0 W206 (Or.inl (List.mem_of_getElem? (i := 0) rfl))
          have Z212 := Nat.le_trans Z0 (Nat.le_of_eq (Wr.size W206).symm)
          exact k_retv K X204 e205 d6_69 (Nat.le_trans (by decide) hkc) (Nat.le_trans (by decide) hkn) (hQ _ _ _ ⟨rfl, N210, K211, (by rw [(show F_read_a0_depth p1 w_a0_straight w_a0_depth = w_a0_depth from by simp only [F_read_a0_depth, hv_d200, if_neg hc123, if_neg hc177, if_pos hc195])]; exact f209), (by rw [(show F_read_a0_straight p1 w_a0_straight w_a0_depth = (nar .boolean d200) from by simp only [F_read_a0_straight, hv_d200, if_neg hc123, if_neg hc177, if_pos hc195])]; exact f207)⟩)
        refine k_if_ne K X197 d6_58 (by decide) (q := 65) rfl (q' := 61) rfl ?_ ?_
        · intro hc213
          refine k_iconst K X197 d6_65 (v := (0 : Int32)) rfl (q := 66) rfl ?_
          exact J201 _ (by first | rfl | (simp only [if_neg hc213]))
        · intro hc213
          refine k_iconst K X197 d6_61 (v := (1 : Int32)) rfl (q := 62) rfl ?_
          refine k_goto K X197 d6_62 (by decide) (q := 66) rfl ?_
          exact J201 _ (by first | rfl | (simp only [if_pos hc213]))
    · intro hc177
      refine k_aloadN K X0 d6_27 rfl rfl (q := 28) rfl ?_
      refine k_getfield K X0 e0 d6_28 (wd hw 18 rfl) F_a0_depth (q := 31) rfl ?_
      intro T214 X215 e216
      refine k_if_le K X215 d6_31 (by decide) (q := 47) rfl (q' := 34) rfl ?_ ?_
      · intro hc249
        refine k_iloadN K X215 d6_47 rfl (q := 48) rfl ?_
        refine k_bipush K X215 d6_48 (v := (34 : Int32)) rfl (q := 50) rfl ?_
        refine k_icmp_ne K X215 d6_50 (by decide) (q := 69) rfl (q' := 53) rfl ?_ ?_
        · intro hc267
          exact k_retv K X215 e216 d6_69 (Nat.le_trans (by decide) hkc) (Nat.le_trans (by decide) hkn) (hQ _ _ _ ⟨rfl, N0, K0, (by rw [(show F_read_a0_depth p1 w_a0_straight w_a0_depth = w_a0_depth from by simp only [F_read_a0_depth, if_neg hc123, if_pos hc177, if_neg hc249, if_neg hc267])]; exact F_a0_depth), (by rw [(show F_read_a0_straight p1 w_a0_straight w_a0_depth = w_a0_straight from by simp only [F_read_a0_straight, if_neg hc123, if_pos hc177, if_neg hc249, if_neg hc267])]; exact F_a0_straight)⟩)
        · intro hc267
          refine k_aloadN K X215 d6_53 rfl rfl (q := 54) rfl ?_
          refine k_aloadN K X215 d6_54 rfl rfl (q := 55) rfl ?_
          refine k_getfield K X215 e216 d6_55 (wd hw 20 rfl) F_a0_straight (q := 58) rfl ?_
          intro T268 X269 e270
          have J273 : ∀ (d272 : Int32), (if w_a0_straight = (0 : Int32) then (1 : Int32) else (0 : Int32)) = d272 → Run p e below s kc kn Q T268 (mkF m 66 #[.val (.ref a0), .val (.int p1)] [(.int d272), (.ref a0)]) := by
            intro d272 hv_d272
            refine k_putfieldN K X269 e270 d6_66 (wd hw 20 rfl) F_a0_straight E_a0 (Or.inl (wd hw 21 rfl)) (wd hw 5 rfl) (ty := .boolean) (v' := (.int (nar .boolean d272))) (by decide) rfl (fits_nar_bool _) (q := 69) rfl ?_
            intro T274 h275 X276 e277 W278
            have f279 := Fld.same W278 F_a0_straight
            have f280 := Exa.wr W278 E_a0
            have f281 := Fld.other W278 F_a0_depth (Or.inr (slot_ne (Or.inl (wd hw 19 rfl)) (Or.inl (wd hw 21 rfl)) (by decide) (t := .int) (t' := .boolean) (by decide) (by decide)))
            have N282 := Fr.snoc X276 N0 g_a0
            have K283 := Keep.wr K0 W278 (Or.inl (List.mem_of_getElem? (i := 0) rfl))
            have Z284 := Nat.le_trans Z0 (Nat.le_of_eq (Wr.size W278).symm)
            exact k_retv K X276 e277 d6_69 (Nat.le_trans (by decide) hkc) (Nat.le_trans (by decide) hkn) (hQ _ _ _ ⟨rfl, N282, K283, (by rw [(show F_read_a0_depth p1 w_a0_straight w_a0_depth = w_a0_depth from by simp only [F_read_a0_depth, hv_d272, if_neg hc123, if_pos hc177, if_neg hc249, if_pos hc267])]; exact f281), (by rw [(show F_read_a0_straight p1 w_a0_straight w_a0_depth = (nar .boolean d272) from by simp only [F_read_a0_straight, hv_d272, if_neg hc123, if_pos hc177, if_neg hc249, if_pos hc267])]; exact f279)⟩)
          refine k_if_ne K X269 d6_58 (by decide) (q := 65) rfl (q' := 61) rfl ?_ ?_
          · intro hc285
            refine k_iconst K X269 d6_65 (v := (0 : Int32)) rfl (q := 66) rfl ?_
            exact J273 _ (by first | rfl | (simp only [if_neg hc285]))
          · intro hc285
            refine k_iconst K X269 d6_61 (v := (1 : Int32)) rfl (q := 62) rfl ?_
            refine k_goto K X269 d6_62 (by decide) (q := 66) rfl ?_
            exact J273 _ (by first | rfl | (simp only [if_pos hc285]))
      · intro hc249
        refine k_aloadN K X215 d6_34 rfl rfl (q := 35) rfl ?_
        refine k_dup K X215 d6_35 rfl (q := 36) rfl ?_
        refine k_getfield K X215 e216 d6_36 (wd hw 18 rfl) F_a0_depth (q := 39) rfl ?_
        intro T286 X287 e288
        refine k_iconst K X287 d6_39 (v := (1 : Int32)) rfl (q := 40) rfl ?_
        refine k_isub K X287 d6_40 (q := 41) rfl ?_
        refine k_putfield K X287 e288 d6_41 (wd hw 18 rfl) F_a0_depth E_a0 (Or.inl (wd hw 19 rfl)) (wd hw 5 rfl) (ty := .int) (by decide) rfl rfl (q := 44) rfl ?_
        intro T289 h290 X291 e292 W293
        have f294 := Fld.same W293 F_a0_depth
        have f295 := Fld.other W293 F_a0_straight (Or.inr (slot_ne (Or.inl (wd hw 21 rfl)) (Or.inl (wd hw 19 rfl)) (by decide) (t := .boolean) (t' := .int) (by decide) (by decide)))
        have f296 := Exa.wr W293 E_a0
        have N297 := Fr.snoc X291 N0 g_a0
        have K298 := Keep.wr K0 W293 (Or.inl (List.mem_of_getElem? (i := 0) rfl))
        have Z299 := Nat.le_trans Z0 (Nat.le_of_eq (Wr.size W293).symm)
        refine k_goto K X291 d6_44 (by decide) (q := 69) rfl ?_
        exact k_retv K X291 e292 d6_69 (Nat.le_trans (by decide) hkc) (Nat.le_trans (by decide) hkn) (hQ _ _ _ ⟨rfl, N297, K298, (by rw [(show F_read_a0_depth p1 w_a0_straight w_a0_depth = (w_a0_depth - (1 : Int32)) from by simp only [F_read_a0_depth, if_neg hc123, if_pos hc177, if_pos hc249])]; exact f294), (by rw [(show F_read_a0_straight p1 w_a0_straight w_a0_depth = w_a0_straight from by simp only [F_read_a0_straight, if_neg hc123, if_pos hc177, if_pos hc249])]; exact f295)⟩)
  · intro hc123
    refine k_aloadN K X0 d6_7 rfl rfl (q := 8) rfl ?_
    refine k_dup K X0 d6_8 rfl (q := 9) rfl ?_
    refine k_getfield K X0 e0 d6_9 (wd hw 18 rfl) F_a0_depth (q := 12) rfl ?_
    intro T300 X301 e302
    refine k_iconst K X301 d6_12 (v := (1 : Int32)) rfl (q := 13) rfl ?_
    refine k_iadd K X301 d6_13 (q := 14) rfl ?_
    refine k_putfield K X301 e302 d6_14 (wd hw 18 rfl) F_a0_depth E_a0 (Or.inl (wd hw 19 rfl)) (wd hw 5 rfl) (ty := .int) (by decide) rfl rfl (q := 17) rfl ?_
    intro T303 h304 X305 e306 W307
    have f308 := Fld.same W307 F_a0_depth
    have f309 := Fld.other W307 F_a0_straight (Or.inr (slot_ne (Or.inl (wd hw 21 rfl)) (Or.inl (wd hw 19 rfl)) (by decide) (t := .boolean) (t' := .int) (by decide) (by decide)))
    have f310 := Exa.wr W307 E_a0
    have N311 := Fr.snoc X305 N0 g_a0
    have K312 := Keep.wr K0 W307 (Or.inl (List.mem_of_getElem? (i := 0) rfl))
    have Z313 := Nat.le_trans Z0 (Nat.le_of_eq (Wr.size W307).symm)
    refine k_goto K X305 d6_17 (by decide) (q := 69) rfl ?_
    exact k_retv K X305 e306 d6_69 (Nat.le_trans (by decide) hkc) (Nat.le_trans (by decide) hkn) (hQ _ _ _ ⟨rfl, N311, K312, (by rw [(show F_read_a0_depth p1 w_a0_straight w_a0_depth = (w_a0_depth + (1 : Int32)) from by simp only [F_read_a0_depth, if_pos hc123])]; exact f308), (by rw [(show F_read_a0_straight p1 w_a0_straight w_a0_depth = w_a0_straight from by simp only [F_read_a0_straight, if_pos hc123])]; exact f309)⟩)
theorem d4_0 : decode prog_71_method_2_code 0 = .ok (.aload_n 0, 1) := by decide +kernel
theorem d4_1 : decode prog_71_method_2_code 1 = .ok (.getfield 7, 3) := by decide +kernel
theorem d4_4 : decode prog_71_method_2_code 4 = .ok (.ifCond .gt 10, 3) := by decide +kernel
theorem d4_19 : decode prog_71_method_2_code 19 = .ok (.ireturn, 1) := by decide +kernel
theorem d4_14 : decode prog_71_method_2_code 14 = .ok (.iconst 1, 1) := by decide +kernel
theorem d4_15 : decode prog_71_method_2_code 15 = .ok (.goto 4, 3) := by decide +kernel
theorem d4_7 : decode prog_71_method_2_code 7 = .ok (.aload_n 0, 1) := by decide +kernel
theorem d4_8 : decode prog_71_method_2_code 8 = .ok (.getfield 13, 3) := by decide +kernel
theorem d4_11 : decode prog_71_method_2_code 11 = .ok (.ifCond .eq 7, 3) := by decide +kernel
theorem d4_18 : decode prog_71_method_2_code 18 = .ok (.iconst 0, 1) := by decide +kernel
theorem ef_4 (a0 : Addr) : ∀ m : MethodId, entryFrame m #[(.ref a0)] 1 = mkF m 0 #[.val (.ref a0)] [] := by intro m; first | (simp [entryFrame, mkF, argsToLocals, Value.category]; done) | rfl
def F_inside (w_a0_depth : Int32) (w_a0_straight : Int32) : Int32 :=
  let d326 : Int32 := (if (0 : Int32) < w_a0_depth then (1 : Int32) else (if w_a0_straight = (0 : Int32) then (0 : Int32) else (1 : Int32)))
  (nar .boolean d326)
set_option maxRecDepth 65536 in
set_option maxHeartbeats 40000000 in
theorem rm4 (l : Launch) (Z : State) (az : Array Value) (hw : ∀ d ∈ tables_1, d.before az Z = true) (ws : List Jvm.Cond) (a0 : Addr) (w_a0_depth : Int32) (w_a0_straight : Int32) (h0 : Heap) (F_a0_depth : Fld Z h0 a0 "com/example/wherefore/wherefore/instrument/Quotation" "depth" "I" (.int w_a0_depth)) (F_a0_straight : Fld Z h0 a0 "com/example/wherefore/wherefore/instrument/Quotation" "straight" "Z" (.int w_a0_straight)) :
    Met l (⟨"com/example/wherefore/wherefore/instrument/Quotation", "inside", "()Z"⟩ : MethodName) prog_71_method_2_code 1 (some .boolean) ws ({ frames := 0, cells := 0, slots := 0, locals := 0 } : Room) Z #[(.ref a0)] h0 (fun v h' L => v = some (Value.int (F_inside w_a0_depth w_a0_straight)) ∧ h' = h0 ∧ L = []) := by
  refine enter (plainFor_of_name pn_1) (ef_4 a0) ?_
  intro p e s m below meth c T0 kc kn Q hkc hkn hQ K' X0 e0
  have K : Fx p s m meth c prog_71_method_2_code 1 "com/example/wherefore/wherefore/instrument/Quotation" "inside" (some .boolean) Z := K'
  refine k_aloadN K X0 d4_0 rfl rfl (q := 1) rfl ?_
  refine k_getfield K X0 e0 d4_1 (wd hw 18 rfl) F_a0_depth (q := 4) rfl ?_
  intro T318 X319 e320
  have J327 : ∀ (T328 : State), Stand p l e ({ frames := 0, cells := 0, slots := 0, locals := 0 } : Room) s m #[(.ref a0)] below meth c T328 [] 0 0 → T328.heap = h0 → ∀ (d326 : Int32), (if (0 : Int32) < w_a0_depth then (1 : Int32) else (if w_a0_straight = (0 : Int32) then (0 : Int32) else (1 : Int32))) = d326 → Run p e below s kc kn Q T328 (mkF m 19 #[.val (.ref a0)] [(.int d326)]) := by
    intro T328 X329 e330 d326 hv_d326
    exact k_retz K X329 e330 d4_19 (Nat.le_trans (by decide) hkc) (Nat.le_trans (by decide) hkn) (hQ _ _ _ ⟨(by show some (Value.int (nar .boolean d326)) = some (Value.int (F_inside w_a0_depth w_a0_straight)); simp only [F_inside, hv_d326]), rfl, rfl⟩)
  refine k_if_gt K X319 d4_4 (by decide) (q := 14) rfl (q' := 7) rfl ?_ ?_
  · intro hc331
    refine k_iconst K X319 d4_14 (v := (1 : Int32)) rfl (q := 15) rfl ?_
    refine k_goto K X319 d4_15 (by decide) (q := 19) rfl ?_
    exact J327 T318 X319 e320 _ (by first | rfl | (simp only [if_pos hc331]))
  · intro hc331
    refine k_aloadN K X319 d4_7 rfl rfl (q := 8) rfl ?_
    refine k_getfield K X319 e320 d4_8 (wd hw 20 rfl) F_a0_straight (q := 11) rfl ?_
    intro T332 X333 e334
    refine k_if_eq K X333 d4_11 (by decide) (q := 18) rfl (q' := 14) rfl ?_ ?_
    · intro hc335
      refine k_iconst K X333 d4_18 (v := (0 : Int32)) rfl (q := 19) rfl ?_
      exact J327 T332 X333 e334 _ (by first | rfl | (simp only [if_neg hc331, if_pos hc335]))
    · intro hc335
      refine k_iconst K X333 d4_14 (v := (1 : Int32)) rfl (q := 15) rfl ?_
      refine k_goto K X333 d4_15 (by decide) (q := 19) rfl ?_
      exact J327 T332 X333 e334 _ (by first | rfl | (simp only [if_neg hc331, if_neg hc335]))
theorem own_eqI {x y : Int32} : x = y ↔ x.toInt = y.toInt := Int32.toInt_inj.symm
theorem own_eqJ {x y : Int64} : x = y ↔ x.toInt = y.toInt := Int64.toInt_inj.symm
theorem own_ltI {x y : Int32} : x < y ↔ x.toInt < y.toInt := Int32.lt_iff_toInt_lt
theorem own_ltJ {x y : Int64} : x < y ↔ x.toInt < y.toInt := Int64.lt_iff_toInt_lt
theorem own_enum (t : Int32) (h1 : 0 ≤ t.toInt) (h2 : t.toInt ≤ 5) : t = (0 : Int32) ∨ t = (1 : Int32) ∨ t = (2 : Int32) ∨ t = (3 : Int32) ∨ t = (4 : Int32) ∨ t = (5 : Int32) := by
  have h : t.toInt = 0 ∨ t.toInt = 1 ∨ t.toInt = 2 ∨ t.toInt = 3 ∨ t.toInt = 4 ∨ t.toInt = 5 := by omega
  rcases h with h | h | h | h | h | h
  · exact Or.inl (Int32.toInt_inj.mp (h.trans (by decide)))
  · exact Or.inr (Or.inl (Int32.toInt_inj.mp (h.trans (by decide))))
  · exact Or.inr (Or.inr (Or.inl (Int32.toInt_inj.mp (h.trans (by decide)))))
  · exact Or.inr (Or.inr (Or.inr (Or.inl (Int32.toInt_inj.mp (h.trans (by decide))))))
  · exact Or.inr (Or.inr (Or.inr (Or.inr (Or.inl (Int32.toInt_inj.mp (h.trans (by decide)))))))
  · exact Or.inr (Or.inr (Or.inr (Or.inr (Or.inr (Int32.toInt_inj.mp (h.trans (by decide)))))))
theorem own_cnt (p v : Int32) (h0 : ¬ v = 0) (h1 : ¬ v = 1) (h2 : ¬ v = 2) (h3 : ¬ v = 3) (h4 : ¬ v = 4) (h5 : ¬ v = 5) : ¬ ((p &&& 7) % 6 = v) := fun z => by
  subst z
  have a1 := (c_and p 7 (by decide)).1
  have a2 := (c_irem (p &&& 7) 6 6 rfl).1 a1
  rcases own_enum ((p &&& 7) % 6) (by omega) (by omega) with h | h | h | h | h | h
  · exact h0 h
  · exact h1 h
  · exact h2 h
  · exact h3 h
  · exact h4 h
  · exact h5 h
theorem pd_0 : parseMethodDescriptor "(I)C" = some ⟨[.int], some .char⟩ := by decide +kernel
theorem pd_1 : parseMethodDescriptor "()V" = some ⟨[], none⟩ := by decide +kernel
theorem pd_2 : parseMethodDescriptor "()Z" = some ⟨[], some .boolean⟩ := by decide +kernel
theorem pd_3 : parseMethodDescriptor "(II)I" = some ⟨[.int, .int], some .int⟩ := by decide +kernel
theorem pd_4 : parseMethodDescriptor "(C)V" = some ⟨[.char], none⟩ := by decide +kernel
theorem pd_5 : parseMethodDescriptor "(C)I" = some ⟨[.char], some .int⟩ := by decide +kernel
theorem ef_0 (p0 : Int32) (p1 : Int32) (p2 : Int32) (p3 : Int32) (p4 : Int32) (p5 : Int32) : ∀ m : MethodId, entryFrame m #[(.int p0), (.int p1), (.int p2), (.int p3), (.int p4), (.int p5)] maxLocals = mkF m 0 #[.val (.int p0), .val (.int p1), .val (.int p2), .val (.int p3), .val (.int p4), .val (.int p5), .unset, .unset, .unset, .unset, .unset, .unset, .unset, .unset, .unset, .unset, .unset, .unset, .unset, .unset, .unset, .unset, .unset, .unset, .unset, .unset, .unset, .unset] [] := by intro m; first | (simp [entryFrame, mkF, argsToLocals, Value.category, maxLocals]; done) | rfl
def F_law (p0 : Int32) (p1 : Int32) (p2 : Int32) (p3 : Int32) (p4 : Int32) (p5 : Int32) : Int32 :=
  let v336 : Int32 := ((p0 &&& (7 : Int32)) % (6 : Int32))
  if v336 = (0 : Int32) then
    let v341 : Int32 := (F_pick p1)
    let v345 : Int32 := (F_pick p2)
    let v349 : Int32 := (F_pick p3)
    let v353 : Int32 := (F_pick p4)
    let v357 : Int32 := (F_pick p5)
    let v379 : Int32 := (F_inside (0 : Int32) (0 : Int32))
    let d396 : Int32 := (if v379 = (0 : Int32) then (1 : Int32) else (0 : Int32))
    (nar .boolean d396)
  else
    if v336 = (1 : Int32) then
      let v403 : Int32 := (F_pick p1)
      let v407 : Int32 := (F_pick p2)
      let v411 : Int32 := (F_pick p3)
      let v415 : Int32 := (F_pick p4)
      let v419 : Int32 := (F_pick p5)
      let v450 : Int32 := (F_read_a0_depth v403 (0 : Int32) (0 : Int32))
      let v451 : Int32 := (F_read_a0_straight v403 (0 : Int32) (0 : Int32))
      let v455 : Int32 := (F_inside v450 v451)
      let v459 : Int32 := (F_delta v403)
      let v460 : Int32 := (v459 + (0 : Int32))
      let v461 : Int32 := (v460 + (0 : Int32))
      let v462 : Int32 := (v461 + (0 : Int32))
      let v463 : Int32 := (v462 + (0 : Int32))
      let v479 : Int32 := (F_min (0 : Int32) (F_min v459 (F_min v460 (F_min v461 (F_min v462 v463)))))
      let v480 : Int32 := (v463 - v479)
      let v484 : Int32 := (((((F_quote v403) + (0 : Int32)) + (0 : Int32)) + (0 : Int32)) + (0 : Int32))
      let d487 : Int32 := (if (0 : Int32) < v480 then (1 : Int32) else (if (v484 &&& (1 : Int32)) = (0 : Int32) then (0 : Int32) else (1 : Int32)))
      let d490 : Int32 := (if v455 = d487 then (1 : Int32) else (0 : Int32))
      (nar .boolean d490)
    else
      if v336 = (2 : Int32) then
        let v499 : Int32 := (F_pick p1)
        let v503 : Int32 := (F_pick p2)
        let v507 : Int32 := (F_pick p3)
        let v511 : Int32 := (F_pick p4)
        let v515 : Int32 := (F_pick p5)
        let v546 : Int32 := (F_read_a0_depth v499 (0 : Int32) (0 : Int32))
        let v547 : Int32 := (F_read_a0_straight v499 (0 : Int32) (0 : Int32))
        let v560 : Int32 := (F_read_a0_depth v503 v547 v546)
        let v561 : Int32 := (F_read_a0_straight v503 v547 v546)
        let v565 : Int32 := (F_inside v560 v561)
        let v569 : Int32 := (F_delta v499)
        let v573 : Int32 := (F_delta v503)
        let v574 : Int32 := (v569 + v573)
        let v575 : Int32 := (v574 + (0 : Int32))
        let v576 : Int32 := (v575 + (0 : Int32))
        let v577 : Int32 := (v576 + (0 : Int32))
        let v593 : Int32 := (F_min (0 : Int32) (F_min v569 (F_min v574 (F_min v575 (F_min v576 v577)))))
        let v594 : Int32 := (v577 - v593)
        let v601 : Int32 := (((((F_quote v499) + (F_quote v503)) + (0 : Int32)) + (0 : Int32)) + (0 : Int32))
        let d604 : Int32 := (if (0 : Int32) < v594 then (1 : Int32) else (if (v601 &&& (1 : Int32)) = (0 : Int32) then (0 : Int32) else (1 : Int32)))
        let d607 : Int32 := (if v565 = d604 then (1 : Int32) else (0 : Int32))
        (nar .boolean d607)
      else
        if v336 = (3 : Int32) then
          let v616 : Int32 := (F_pick p1)
          let v620 : Int32 := (F_pick p2)
          let v624 : Int32 := (F_pick p3)
          let v628 : Int32 := (F_pick p4)
          let v632 : Int32 := (F_pick p5)
          let v663 : Int32 := (F_read_a0_depth v616 (0 : Int32) (0 : Int32))
          let v664 : Int32 := (F_read_a0_straight v616 (0 : Int32) (0 : Int32))
          let v677 : Int32 := (F_read_a0_depth v620 v664 v663)
          let v678 : Int32 := (F_read_a0_straight v620 v664 v663)
          let v691 : Int32 := (F_read_a0_depth v624 v678 v677)
          let v692 : Int32 := (F_read_a0_straight v624 v678 v677)
          let v696 : Int32 := (F_inside v691 v692)
          let v700 : Int32 := (F_delta v616)
          let v704 : Int32 := (F_delta v620)
          let v708 : Int32 := (F_delta v624)
          let v709 : Int32 := (v700 + v704)
          let v710 : Int32 := (v709 + v708)
          let v711 : Int32 := (v710 + (0 : Int32))
          let v712 : Int32 := (v711 + (0 : Int32))
          let v728 : Int32 := (F_min (0 : Int32) (F_min v700 (F_min v709 (F_min v710 (F_min v711 v712)))))
          let v729 : Int32 := (v712 - v728)
          let v739 : Int32 := (((((F_quote v616) + (F_quote v620)) + (F_quote v624)) + (0 : Int32)) + (0 : Int32))
          let d742 : Int32 := (if (0 : Int32) < v729 then (1 : Int32) else (if (v739 &&& (1 : Int32)) = (0 : Int32) then (0 : Int32) else (1 : Int32)))
          let d745 : Int32 := (if v696 = d742 then (1 : Int32) else (0 : Int32))
          (nar .boolean d745)
        else
          if v336 = (4 : Int32) then
            let v754 : Int32 := (F_pick p1)
            let v758 : Int32 := (F_pick p2)
            let v762 : Int32 := (F_pick p3)
            let v766 : Int32 := (F_pick p4)
            let v770 : Int32 := (F_pick p5)
            let v801 : Int32 := (F_read_a0_depth v754 (0 : Int32) (0 : Int32))
            let v802 : Int32 := (F_read_a0_straight v754 (0 : Int32) (0 : Int32))
            let v815 : Int32 := (F_read_a0_depth v758 v802 v801)
            let v816 : Int32 := (F_read_a0_straight v758 v802 v801)
            let v829 : Int32 := (F_read_a0_depth v762 v816 v815)
            let v830 : Int32 := (F_read_a0_straight v762 v816 v815)
            let v843 : Int32 := (F_read_a0_depth v766 v830 v829)
            let v844 : Int32 := (F_read_a0_straight v766 v830 v829)
            let v848 : Int32 := (F_inside v843 v844)
            let v852 : Int32 := (F_delta v754)
            let v856 : Int32 := (F_delta v758)
            let v860 : Int32 := (F_delta v762)
            let v864 : Int32 := (F_delta v766)
            let v865 : Int32 := (v852 + v856)
            let v866 : Int32 := (v865 + v860)
            let v867 : Int32 := (v866 + v864)
            let v868 : Int32 := (v867 + (0 : Int32))
            let v884 : Int32 := (F_min (0 : Int32) (F_min v852 (F_min v865 (F_min v866 (F_min v867 v868)))))
            let v885 : Int32 := (v868 - v884)
            let v898 : Int32 := (((((F_quote v754) + (F_quote v758)) + (F_quote v762)) + (F_quote v766)) + (0 : Int32))
            let d901 : Int32 := (if (0 : Int32) < v885 then (1 : Int32) else (if (v898 &&& (1 : Int32)) = (0 : Int32) then (0 : Int32) else (1 : Int32)))
            let d904 : Int32 := (if v848 = d901 then (1 : Int32) else (0 : Int32))
            (nar .boolean d904)
          else
            if v336 = (5 : Int32) then
              let v913 : Int32 := (F_pick p1)
              let v917 : Int32 := (F_pick p2)
              let v921 : Int32 := (F_pick p3)
              let v925 : Int32 := (F_pick p4)
              let v929 : Int32 := (F_pick p5)
              let v960 : Int32 := (F_read_a0_depth v913 (0 : Int32) (0 : Int32))
              let v961 : Int32 := (F_read_a0_straight v913 (0 : Int32) (0 : Int32))
              let v974 : Int32 := (F_read_a0_depth v917 v961 v960)
              let v975 : Int32 := (F_read_a0_straight v917 v961 v960)
              let v988 : Int32 := (F_read_a0_depth v921 v975 v974)
              let v989 : Int32 := (F_read_a0_straight v921 v975 v974)
              let v1002 : Int32 := (F_read_a0_depth v925 v989 v988)
              let v1003 : Int32 := (F_read_a0_straight v925 v989 v988)
              let v1016 : Int32 := (F_read_a0_depth v929 v1003 v1002)
              let v1017 : Int32 := (F_read_a0_straight v929 v1003 v1002)
              let v1021 : Int32 := (F_inside v1016 v1017)
              let v1025 : Int32 := (F_delta v913)
              let v1029 : Int32 := (F_delta v917)
              let v1033 : Int32 := (F_delta v921)
              let v1037 : Int32 := (F_delta v925)
              let v1041 : Int32 := (F_delta v929)
              let v1042 : Int32 := (v1025 + v1029)
              let v1043 : Int32 := (v1042 + v1033)
              let v1044 : Int32 := (v1043 + v1037)
              let v1045 : Int32 := (v1044 + v1041)
              let v1061 : Int32 := (F_min (0 : Int32) (F_min v1025 (F_min v1042 (F_min v1043 (F_min v1044 v1045)))))
              let v1062 : Int32 := (v1045 - v1061)
              let v1078 : Int32 := (((((F_quote v913) + (F_quote v917)) + (F_quote v921)) + (F_quote v925)) + (F_quote v929))
              let d1081 : Int32 := (if (0 : Int32) < v1062 then (1 : Int32) else (if (v1078 &&& (1 : Int32)) = (0 : Int32) then (0 : Int32) else (1 : Int32)))
              let d1084 : Int32 := (if v1021 = d1081 then (1 : Int32) else (0 : Int32))
              (nar .boolean d1084)
            else
              (1 : Int32)
set_option maxRecDepth 65536 in
set_option maxHeartbeats 40000000 in
theorem rm0 (l : Launch) (Z : State) (az : Array Value) (hw : ∀ d ∈ tables_1, d.before az Z = true) (ws : List Jvm.Cond) (p0 : Int32) (p1 : Int32) (p2 : Int32) (p3 : Int32) (p4 : Int32) (p5 : Int32) (h0 : Heap) (n0 : Nat) (Z0 : n0 ≤ h0.size) :
    Met l x code maxLocals ret ws room_1 Z #[(.int p0), (.int p1), (.int p2), (.int p3), (.int p4), (.int p5)] h0 (fun v h' L => v = some (Value.int (F_law p0 p1 p2 p3 p4 p5)) ∧ Fr n0 L) := by
  refine enter (plainFor_of_name pn_0) (ef_0 p0 p1 p2 p3 p4 p5) ?_
  intro p e s m below meth c T0 kc kn Q hkc hkn hQ K' X0 e0
  have K : Fx p s m meth c code 28 "com/example/wherefore/wherefore/instrument/QuotationInsidePinLaw" "law" (some .boolean) Z := K'
  have N0 := Fr.nil n0
  have K0 : Keep h0 h0 [] := Keep.refl _ _
  refine k_iloadN K X0 at_0 rfl (q := 1) rfl ?_
  refine k_bipush K X0 at_1 (v := (7 : Int32)) rfl (q := 3) rfl ?_
  refine k_iand K X0 at_3 (q := 4) rfl ?_
  refine k_bipush K X0 at_4 (v := (6 : Int32)) rfl (q := 6) rfl ?_
  refine k_irem K X0 at_6 (by decide) (q := 7) rfl ?_
  obtain ⟨v336, hv_v336⟩ : ∃ z : Int32, ((p0 &&& (7 : Int32)) % (6 : Int32)) = z := ⟨_, rfl⟩
  refine k_istore K X0 at_7 hv_v336 (Ls' := #[.val (.int p0), .val (.int p1), .val (.int p2), .val (.int p3), .val (.int p4), .val (.int p5), .val (.int v336), .unset, .unset, .unset, .unset, .unset, .unset, .unset, .unset, .unset, .unset, .unset, .unset, .unset, .unset, .unset, .unset, .unset, .unset, .unset, .unset, .unset]) rfl (q := 9) rfl ?_
  by_cases hs337 : v336 = (0 : Int32)
  · subst hs337
    refine k_iloadN K X0 at_9 rfl (q := 10) rfl ?_
    refine k_staticP K X0 e0 at_10 (wd hw 0 rfl) (wd hw 1 rfl) (wd hw 2 rfl) (wd hw 3 rfl) (by decide) (rm1 l Z az hw [] p1 h0) (W := 0) (by decide) (by decide) (by decide) (by decide) rfl pd_0 (argsL := [(.int p1)]) (rest := []) rfl rfl rfl (Nat.le_of_eq rfl) (q := 13) rfl ?_
    intro T338 X339 e340
    obtain ⟨v341, hv_v341⟩ : ∃ z : Int32, (F_pick p1) = z := ⟨_, rfl⟩
    refine k_istore K X339 at_13 hv_v341 (Ls' := #[.val (.int p0), .val (.int p1), .val (.int p2), .val (.int p3), .val (.int p4), .val (.int p5), .val (.int (0 : Int32)), .val (.int v341), .unset, .unset, .unset, .unset, .unset, .unset, .unset, .unset, .unset, .unset, .unset, .unset, .unset, .unset, .unset, .unset, .unset, .unset, .unset, .unset]) rfl (q := 15) rfl ?_
    refine k_iloadN K X339 at_15 rfl (q := 16) rfl ?_
    refine k_staticP K X339 e340 at_16 (wd hw 0 rfl) (wd hw 1 rfl) (wd hw 2 rfl) (wd hw 3 rfl) (by decide) (rm1 l Z az hw [] p2 h0) (W := 0) (by decide) (by decide) (by decide) (by decide) rfl pd_0 (argsL := [(.int p2)]) (rest := []) rfl rfl rfl (Nat.le_of_eq rfl) (q := 19) rfl ?_
    intro T342 X343 e344
    obtain ⟨v345, hv_v345⟩ : ∃ z : Int32, (F_pick p2) = z := ⟨_, rfl⟩
    refine k_istore K X343 at_19 hv_v345 (Ls' := #[.val (.int p0), .val (.int p1), .val (.int p2), .val (.int p3), .val (.int p4), .val (.int p5), .val (.int (0 : Int32)), .val (.int v341), .val (.int v345), .unset, .unset, .unset, .unset, .unset, .unset, .unset, .unset, .unset, .unset, .unset, .unset, .unset, .unset, .unset, .unset, .unset, .unset, .unset]) rfl (q := 21) rfl ?_
    refine k_iloadN K X343 at_21 rfl (q := 22) rfl ?_
    refine k_staticP K X343 e344 at_22 (wd hw 0 rfl) (wd hw 1 rfl) (wd hw 2 rfl) (wd hw 3 rfl) (by decide) (rm1 l Z az hw [] p3 h0) (W := 0) (by decide) (by decide) (by decide) (by decide) rfl pd_0 (argsL := [(.int p3)]) (rest := []) rfl rfl rfl (Nat.le_of_eq rfl) (q := 25) rfl ?_
    intro T346 X347 e348
    obtain ⟨v349, hv_v349⟩ : ∃ z : Int32, (F_pick p3) = z := ⟨_, rfl⟩
    refine k_istore K X347 at_25 hv_v349 (Ls' := #[.val (.int p0), .val (.int p1), .val (.int p2), .val (.int p3), .val (.int p4), .val (.int p5), .val (.int (0 : Int32)), .val (.int v341), .val (.int v345), .val (.int v349), .unset, .unset, .unset, .unset, .unset, .unset, .unset, .unset, .unset, .unset, .unset, .unset, .unset, .unset, .unset, .unset, .unset, .unset]) rfl (q := 27) rfl ?_
    refine k_iload K X347 at_27 rfl (q := 29) rfl ?_
    refine k_staticP K X347 e348 at_29 (wd hw 0 rfl) (wd hw 1 rfl) (wd hw 2 rfl) (wd hw 3 rfl) (by decide) (rm1 l Z az hw [] p4 h0) (W := 0) (by decide) (by decide) (by decide) (by decide) rfl pd_0 (argsL := [(.int p4)]) (rest := []) rfl rfl rfl (Nat.le_of_eq rfl) (q := 32) rfl ?_
    intro T350 X351 e352
    obtain ⟨v353, hv_v353⟩ : ∃ z : Int32, (F_pick p4) = z := ⟨_, rfl⟩
    refine k_istore K X351 at_32 hv_v353 (Ls' := #[.val (.int p0), .val (.int p1), .val (.int p2), .val (.int p3), .val (.int p4), .val (.int p5), .val (.int (0 : Int32)), .val (.int v341), .val (.int v345), .val (.int v349), .val (.int v353), .unset, .unset, .unset, .unset, .unset, .unset, .unset, .unset, .unset, .unset, .unset, .unset, .unset, .unset, .unset, .unset, .unset]) rfl (q := 34) rfl ?_
    refine k_iload K X351 at_34 rfl (q := 36) rfl ?_
    refine k_staticP K X351 e352 at_36 (wd hw 0 rfl) (wd hw 1 rfl) (wd hw 2 rfl) (wd hw 3 rfl) (by decide) (rm1 l Z az hw [] p5 h0) (W := 0) (by decide) (by decide) (by decide) (by decide) rfl pd_0 (argsL := [(.int p5)]) (rest := []) rfl rfl rfl (Nat.le_of_eq rfl) (q := 39) rfl ?_
    intro T354 X355 e356
    obtain ⟨v357, hv_v357⟩ : ∃ z : Int32, (F_pick p5) = z := ⟨_, rfl⟩
    refine k_istore K X355 at_39 hv_v357 (Ls' := #[.val (.int p0), .val (.int p1), .val (.int p2), .val (.int p3), .val (.int p4), .val (.int p5), .val (.int (0 : Int32)), .val (.int v341), .val (.int v345), .val (.int v349), .val (.int v353), .val (.int v357), .unset, .unset, .unset, .unset, .unset, .unset, .unset, .unset, .unset, .unset, .unset, .unset, .unset, .unset, .unset, .unset]) rfl (q := 41) rfl ?_
    refine k_new K X355 e356 at_41 (wd hw 4 rfl) (wd hw 5 rfl) (wd hw 6 rfl) (by decide) (by decide) (q := 44) rfl ?_
    intro T358 h359 b360 X361 e362 g363 E364 A365 D366
    have ge367 : n0 ≤ b360 := Nat.le_trans Z0 (Nat.le_of_eq g363.symm)
    have bn368 : h0.size ≤ b360 := Nat.le_trans K0.1 (Nat.le_of_eq g363.symm)
    have K369 := Keep.ext K0 E364
    have Z370 := Nat.le_trans Z0 E364.1
    have f371 : Fld Z h359 b360 "com/example/wherefore/wherefore/instrument/Quotation" "depth" "I" (.int (0 : Int32)) := D366 (Or.inl (wd hw 19 rfl)) (ty := .int) (by decide)
    have f372 : Fld Z h359 b360 "com/example/wherefore/wherefore/instrument/Quotation" "straight" "Z" (.int (0 : Int32)) := D366 (Or.inl (wd hw 21 rfl)) (ty := .boolean) (by decide)
    refine k_dup K X361 at_44 rfl (q := 45) rfl ?_
    refine k_specialP K X361 e362 at_45 rfl (wd hw 7 rfl) (wd hw 8 rfl) (wd hw 6 rfl) (wd hw 9 rfl) (by decide) (rm2 l Z az hw [] b360 h359) (W := 1) (by decide) (by decide) (by decide) (by decide) rfl pd_1 (argsL := []) (rest := [(.ref b360)]) rfl rfl rfl (Nat.le_of_eq rfl) (q := 48) rfl ?_
    intro T373 X374 e375
    refine k_astore K X374 at_48 rfl (Ls' := #[.val (.int p0), .val (.int p1), .val (.int p2), .val (.int p3), .val (.int p4), .val (.int p5), .val (.int (0 : Int32)), .val (.int v341), .val (.int v345), .val (.int v349), .val (.int v353), .val (.int v357), .val (.ref b360), .unset, .unset, .unset, .unset, .unset, .unset, .unset, .unset, .unset, .unset, .unset, .unset, .unset, .unset, .unset]) rfl (q := 50) rfl ?_
    refine k_iload K X374 at_50 rfl (q := 52) rfl ?_
    refine k_if_le_y K X374 at_52 (by decide) (by decide) (q := 62) rfl ?_
    refine k_iload K X374 at_62 rfl (q := 64) rfl ?_
    refine k_iconst K X374 at_64 (v := (1 : Int32)) rfl (q := 65) rfl ?_
    refine k_icmp_le_y K X374 at_65 (by decide) (by decide) (q := 75) rfl ?_
    refine k_iload K X374 at_75 rfl (q := 77) rfl ?_
    refine k_iconst K X374 at_77 (v := (2 : Int32)) rfl (q := 78) rfl ?_
    refine k_icmp_le_y K X374 at_78 (by decide) (by decide) (q := 88) rfl ?_
    refine k_iload K X374 at_88 rfl (q := 90) rfl ?_
    refine k_iconst K X374 at_90 (v := (3 : Int32)) rfl (q := 91) rfl ?_
    refine k_icmp_le_y K X374 at_91 (by decide) (by decide) (q := 101) rfl ?_
    refine k_iload K X374 at_101 rfl (q := 103) rfl ?_
    refine k_iconst K X374 at_103 (v := (4 : Int32)) rfl (q := 104) rfl ?_
    refine k_icmp_le_y K X374 at_104 (by decide) (by decide) (q := 114) rfl ?_
    refine k_aload K X374 at_114 rfl rfl (q := 116) rfl ?_
    refine k_virtualP K X374 e375 at_116 (wd hw 13 rfl) (wd hw 14 rfl) (wd hw 16 rfl) (wd hw 15 rfl) (wd hw 6 rfl) (wd hw 17 rfl) (by decide) A365 (rm4 l Z az hw [] b360 (0 : Int32) (0 : Int32) h359 f371 f372) (W := 0) (by decide) (by decide) (by decide) (by decide) rfl pd_2 (argsL := []) (rest := []) rfl rfl rfl (Nat.le_of_eq rfl) (q := 119) rfl ?_
    intro T376 X377 e378
    obtain ⟨v379, hv_v379⟩ : ∃ z : Int32, (F_inside (0 : Int32) (0 : Int32)) = z := ⟨_, rfl⟩
    refine k_istore K X377 at_119 hv_v379 (Ls' := #[.val (.int p0), .val (.int p1), .val (.int p2), .val (.int p3), .val (.int p4), .val (.int p5), .val (.int (0 : Int32)), .val (.int v341), .val (.int v345), .val (.int v349), .val (.int v353), .val (.int v357), .val (.ref b360), .val (.int v379), .unset, .unset, .unset, .unset, .unset, .unset, .unset, .unset, .unset, .unset, .unset, .unset, .unset, .unset]) rfl (q := 121) rfl ?_
    refine k_iload K X377 at_121 rfl (q := 123) rfl ?_
    refine k_if_le_y K X377 at_123 (by decide) (by decide) (q := 134) rfl ?_
    refine k_iconst K X377 at_134 (v := (0 : Int32)) rfl (q := 135) rfl ?_
    refine k_istore K X377 at_135 rfl (Ls' := #[.val (.int p0), .val (.int p1), .val (.int p2), .val (.int p3), .val (.int p4), .val (.int p5), .val (.int (0 : Int32)), .val (.int v341), .val (.int v345), .val (.int v349), .val (.int v353), .val (.int v357), .val (.ref b360), .val (.int v379), .val (.int (0 : Int32)), .unset, .unset, .unset, .unset, .unset, .unset, .unset, .unset, .unset, .unset, .unset, .unset, .unset]) rfl (q := 137) rfl ?_
    refine k_iload K X377 at_137 rfl (q := 139) rfl ?_
    refine k_iconst K X377 at_139 (v := (1 : Int32)) rfl (q := 140) rfl ?_
    refine k_icmp_le_y K X377 at_140 (by decide) (by decide) (q := 151) rfl ?_
    refine k_iconst K X377 at_151 (v := (0 : Int32)) rfl (q := 152) rfl ?_
    refine k_istore K X377 at_152 rfl (Ls' := #[.val (.int p0), .val (.int p1), .val (.int p2), .val (.int p3), .val (.int p4), .val (.int p5), .val (.int (0 : Int32)), .val (.int v341), .val (.int v345), .val (.int v349), .val (.int v353), .val (.int v357), .val (.ref b360), .val (.int v379), .val (.int (0 : Int32)), .val (.int (0 : Int32)), .unset, .unset, .unset, .unset, .unset, .unset, .unset, .unset, .unset, .unset, .unset, .unset]) rfl (q := 154) rfl ?_
    refine k_iload K X377 at_154 rfl (q := 156) rfl ?_
    refine k_iconst K X377 at_156 (v := (2 : Int32)) rfl (q := 157) rfl ?_
    refine k_icmp_le_y K X377 at_157 (by decide) (by decide) (q := 168) rfl ?_
    refine k_iconst K X377 at_168 (v := (0 : Int32)) rfl (q := 169) rfl ?_
    refine k_istore K X377 at_169 rfl (Ls' := #[.val (.int p0), .val (.int p1), .val (.int p2), .val (.int p3), .val (.int p4), .val (.int p5), .val (.int (0 : Int32)), .val (.int v341), .val (.int v345), .val (.int v349), .val (.int v353), .val (.int v357), .val (.ref b360), .val (.int v379), .val (.int (0 : Int32)), .val (.int (0 : Int32)), .val (.int (0 : Int32)), .unset, .unset, .unset, .unset, .unset, .unset, .unset, .unset, .unset, .unset, .unset]) rfl (q := 171) rfl ?_
    refine k_iload K X377 at_171 rfl (q := 173) rfl ?_
    refine k_iconst K X377 at_173 (v := (3 : Int32)) rfl (q := 174) rfl ?_
    refine k_icmp_le_y K X377 at_174 (by decide) (by decide) (q := 185) rfl ?_
    refine k_iconst K X377 at_185 (v := (0 : Int32)) rfl (q := 186) rfl ?_
    refine k_istore K X377 at_186 rfl (Ls' := #[.val (.int p0), .val (.int p1), .val (.int p2), .val (.int p3), .val (.int p4), .val (.int p5), .val (.int (0 : Int32)), .val (.int v341), .val (.int v345), .val (.int v349), .val (.int v353), .val (.int v357), .val (.ref b360), .val (.int v379), .val (.int (0 : Int32)), .val (.int (0 : Int32)), .val (.int (0 : Int32)), .val (.int (0 : Int32)), .unset, .unset, .unset, .unset, .unset, .unset, .unset, .unset, .unset, .unset]) rfl (q := 188) rfl ?_
    refine k_iload K X377 at_188 rfl (q := 190) rfl ?_
    refine k_iconst K X377 at_190 (v := (4 : Int32)) rfl (q := 191) rfl ?_
    refine k_icmp_le_y K X377 at_191 (by decide) (by decide) (q := 202) rfl ?_
    refine k_iconst K X377 at_202 (v := (0 : Int32)) rfl (q := 203) rfl ?_
    refine k_istore K X377 at_203 rfl (Ls' := #[.val (.int p0), .val (.int p1), .val (.int p2), .val (.int p3), .val (.int p4), .val (.int p5), .val (.int (0 : Int32)), .val (.int v341), .val (.int v345), .val (.int v349), .val (.int v353), .val (.int v357), .val (.ref b360), .val (.int v379), .val (.int (0 : Int32)), .val (.int (0 : Int32)), .val (.int (0 : Int32)), .val (.int (0 : Int32)), .val (.int (0 : Int32)), .unset, .unset, .unset, .unset, .unset, .unset, .unset, .unset, .unset]) rfl (q := 205) rfl ?_
    refine k_iload K X377 at_205 rfl (q := 207) rfl ?_
    refine k_istore K X377 at_207 rfl (Ls' := #[.val (.int p0), .val (.int p1), .val (.int p2), .val (.int p3), .val (.int p4), .val (.int p5), .val (.int (0 : Int32)), .val (.int v341), .val (.int v345), .val (.int v349), .val (.int v353), .val (.int v357), .val (.ref b360), .val (.int v379), .val (.int (0 : Int32)), .val (.int (0 : Int32)), .val (.int (0 : Int32)), .val (.int (0 : Int32)), .val (.int (0 : Int32)), .val (.int (0 : Int32)), .unset, .unset, .unset, .unset, .unset, .unset, .unset, .unset]) rfl (q := 209) rfl ?_
    refine k_iload K X377 at_209 rfl (q := 211) rfl ?_
    refine k_iload K X377 at_211 rfl (q := 213) rfl ?_
    refine k_iadd K X377 at_213 (q := 214) rfl ?_
    refine k_nameI (v := (0 : Int32)) (by decide) ?_
    refine k_istore K X377 at_214 rfl (Ls' := #[.val (.int p0), .val (.int p1), .val (.int p2), .val (.int p3), .val (.int p4), .val (.int p5), .val (.int (0 : Int32)), .val (.int v341), .val (.int v345), .val (.int v349), .val (.int v353), .val (.int v357), .val (.ref b360), .val (.int v379), .val (.int (0 : Int32)), .val (.int (0 : Int32)), .val (.int (0 : Int32)), .val (.int (0 : Int32)), .val (.int (0 : Int32)), .val (.int (0 : Int32)), .val (.int (0 : Int32)), .unset, .unset, .unset, .unset, .unset, .unset, .unset]) rfl (q := 216) rfl ?_
    refine k_iload K X377 at_216 rfl (q := 218) rfl ?_
    refine k_iload K X377 at_218 rfl (q := 220) rfl ?_
    refine k_iadd K X377 at_220 (q := 221) rfl ?_
    refine k_nameI (v := (0 : Int32)) (by decide) ?_
    refine k_istore K X377 at_221 rfl (Ls' := #[.val (.int p0), .val (.int p1), .val (.int p2), .val (.int p3), .val (.int p4), .val (.int p5), .val (.int (0 : Int32)), .val (.int v341), .val (.int v345), .val (.int v349), .val (.int v353), .val (.int v357), .val (.ref b360), .val (.int v379), .val (.int (0 : Int32)), .val (.int (0 : Int32)), .val (.int (0 : Int32)), .val (.int (0 : Int32)), .val (.int (0 : Int32)), .val (.int (0 : Int32)), .val (.int (0 : Int32)), .val (.int (0 : Int32)), .unset, .unset, .unset, .unset, .unset, .unset]) rfl (q := 223) rfl ?_
    refine k_iload K X377 at_223 rfl (q := 225) rfl ?_
    refine k_iload K X377 at_225 rfl (q := 227) rfl ?_
    refine k_iadd K X377 at_227 (q := 228) rfl ?_
    refine k_nameI (v := (0 : Int32)) (by decide) ?_
    refine k_istore K X377 at_228 rfl (Ls' := #[.val (.int p0), .val (.int p1), .val (.int p2), .val (.int p3), .val (.int p4), .val (.int p5), .val (.int (0 : Int32)), .val (.int v341), .val (.int v345), .val (.int v349), .val (.int v353), .val (.int v357), .val (.ref b360), .val (.int v379), .val (.int (0 : Int32)), .val (.int (0 : Int32)), .val (.int (0 : Int32)), .val (.int (0 : Int32)), .val (.int (0 : Int32)), .val (.int (0 : Int32)), .val (.int (0 : Int32)), .val (.int (0 : Int32)), .val (.int (0 : Int32)), .unset, .unset, .unset, .unset, .unset]) rfl (q := 230) rfl ?_
    refine k_iload K X377 at_230 rfl (q := 232) rfl ?_
    refine k_iload K X377 at_232 rfl (q := 234) rfl ?_
    refine k_iadd K X377 at_234 (q := 235) rfl ?_
    refine k_nameI (v := (0 : Int32)) (by decide) ?_
    refine k_istore K X377 at_235 rfl (Ls' := #[.val (.int p0), .val (.int p1), .val (.int p2), .val (.int p3), .val (.int p4), .val (.int p5), .val (.int (0 : Int32)), .val (.int v341), .val (.int v345), .val (.int v349), .val (.int v353), .val (.int v357), .val (.ref b360), .val (.int v379), .val (.int (0 : Int32)), .val (.int (0 : Int32)), .val (.int (0 : Int32)), .val (.int (0 : Int32)), .val (.int (0 : Int32)), .val (.int (0 : Int32)), .val (.int (0 : Int32)), .val (.int (0 : Int32)), .val (.int (0 : Int32)), .val (.int (0 : Int32)), .unset, .unset, .unset, .unset]) rfl (q := 237) rfl ?_
    refine k_iconst K X377 at_237 (v := (0 : Int32)) rfl (q := 238) rfl ?_
    refine k_iload K X377 at_238 rfl (q := 240) rfl ?_
    refine k_iload K X377 at_240 rfl (q := 242) rfl ?_
    refine k_iload K X377 at_242 rfl (q := 244) rfl ?_
    refine k_iload K X377 at_244 rfl (q := 246) rfl ?_
    refine k_iload K X377 at_246 rfl (q := 248) rfl ?_
    refine k_staticP K X377 e378 at_248 (wd hw 22 rfl) (wd hw 23 rfl) (wd hw 24 rfl) (wd hw 25 rfl) (by decide) (rm5 l Z az hw [] (0 : Int32) (0 : Int32) h359) (W := 4) (by decide) (by decide) (by decide) (by decide) rfl pd_3 (argsL := [(.int (0 : Int32)), (.int (0 : Int32))]) (rest := [(.int (0 : Int32)), (.int (0 : Int32)), (.int (0 : Int32)), (.int (0 : Int32))]) rfl rfl rfl (Nat.le_of_eq rfl) (q := 251) rfl ?_
    intro T380 X381 e382
    refine k_nameI (v := (0 : Int32)) (by decide +kernel) ?_
    refine k_staticP K X381 e382 at_251 (wd hw 22 rfl) (wd hw 23 rfl) (wd hw 24 rfl) (wd hw 25 rfl) (by decide) (rm5 l Z az hw [] (0 : Int32) (0 : Int32) h359) (W := 3) (by decide) (by decide) (by decide) (by decide) rfl pd_3 (argsL := [(.int (0 : Int32)), (.int (0 : Int32))]) (rest := [(.int (0 : Int32)), (.int (0 : Int32)), (.int (0 : Int32))]) rfl rfl rfl (Nat.le_of_eq rfl) (q := 254) rfl ?_
    intro T383 X384 e385
    refine k_nameI (v := (0 : Int32)) (by decide +kernel) ?_
    refine k_staticP K X384 e385 at_254 (wd hw 22 rfl) (wd hw 23 rfl) (wd hw 24 rfl) (wd hw 25 rfl) (by decide) (rm5 l Z az hw [] (0 : Int32) (0 : Int32) h359) (W := 2) (by decide) (by decide) (by decide) (by decide) rfl pd_3 (argsL := [(.int (0 : Int32)), (.int (0 : Int32))]) (rest := [(.int (0 : Int32)), (.int (0 : Int32))]) rfl rfl rfl (Nat.le_of_eq rfl) (q := 257) rfl ?_
    intro T386 X387 e388
    refine k_nameI (v := (0 : Int32)) (by decide +kernel) ?_
    refine k_staticP K X387 e388 at_257 (wd hw 22 rfl) (wd hw 23 rfl) (wd hw 24 rfl) (wd hw 25 rfl) (by decide) (rm5 l Z az hw [] (0 : Int32) (0 : Int32) h359) (W := 1) (by decide) (by decide) (by decide) (by decide) rfl pd_3 (argsL := [(.int (0 : Int32)), (.int (0 : Int32))]) (rest := [(.int (0 : Int32))]) rfl rfl rfl (Nat.le_of_eq rfl) (q := 260) rfl ?_
    intro T389 X390 e391
    refine k_nameI (v := (0 : Int32)) (by decide +kernel) ?_
    refine k_staticP K X390 e391 at_260 (wd hw 22 rfl) (wd hw 23 rfl) (wd hw 24 rfl) (wd hw 25 rfl) (by decide) (rm5 l Z az hw [] (0 : Int32) (0 : Int32) h359) (W := 0) (by decide) (by decide) (by decide) (by decide) rfl pd_3 (argsL := [(.int (0 : Int32)), (.int (0 : Int32))]) (rest := []) rfl rfl rfl (Nat.le_of_eq rfl) (q := 263) rfl ?_
    intro T392 X393 e394
    refine k_nameI (v := (0 : Int32)) (by decide +kernel) ?_
    refine k_istore K X393 at_263 rfl (Ls' := #[.val (.int p0), .val (.int p1), .val (.int p2), .val (.int p3), .val (.int p4), .val (.int p5), .val (.int (0 : Int32)), .val (.int v341), .val (.int v345), .val (.int v349), .val (.int v353), .val (.int v357), .val (.ref b360), .val (.int v379), .val (.int (0 : Int32)), .val (.int (0 : Int32)), .val (.int (0 : Int32)), .val (.int (0 : Int32)), .val (.int (0 : Int32)), .val (.int (0 : Int32)), .val (.int (0 : Int32)), .val (.int (0 : Int32)), .val (.int (0 : Int32)), .val (.int (0 : Int32)), .val (.int (0 : Int32)), .unset, .unset, .unset]) rfl (q := 265) rfl ?_
    refine k_iload K X393 at_265 rfl (q := 267) rfl ?_
    refine k_iload K X393 at_267 rfl (q := 269) rfl ?_
    refine k_isub K X393 at_269 (q := 270) rfl ?_
    refine k_nameI (v := (0 : Int32)) (by decide) ?_
    refine k_istore K X393 at_270 rfl (Ls' := #[.val (.int p0), .val (.int p1), .val (.int p2), .val (.int p3), .val (.int p4), .val (.int p5), .val (.int (0 : Int32)), .val (.int v341), .val (.int v345), .val (.int v349), .val (.int v353), .val (.int v357), .val (.ref b360), .val (.int v379), .val (.int (0 : Int32)), .val (.int (0 : Int32)), .val (.int (0 : Int32)), .val (.int (0 : Int32)), .val (.int (0 : Int32)), .val (.int (0 : Int32)), .val (.int (0 : Int32)), .val (.int (0 : Int32)), .val (.int (0 : Int32)), .val (.int (0 : Int32)), .val (.int (0 : Int32)), .val (.int (0 : Int32)), .unset, .unset]) rfl (q := 272) rfl ?_
    refine k_iload K X393 at_272 rfl (q := 274) rfl ?_
    refine k_if_le_y K X393 at_274 (by decide) (by decide) (q := 285) rfl ?_
    refine k_iconst K X393 at_285 (v := (0 : Int32)) rfl (q := 286) rfl ?_
    refine k_iload K X393 at_286 rfl (q := 288) rfl ?_
    refine k_iconst K X393 at_288 (v := (1 : Int32)) rfl (q := 289) rfl ?_
    refine k_icmp_le_y K X393 at_289 (by decide) (by decide) (q := 300) rfl ?_
    refine k_iconst K X393 at_300 (v := (0 : Int32)) rfl (q := 301) rfl ?_
    refine k_iadd K X393 at_301 (q := 302) rfl ?_
    refine k_nameI (v := (0 : Int32)) (by decide) ?_
    refine k_iload K X393 at_302 rfl (q := 304) rfl ?_
    refine k_iconst K X393 at_304 (v := (2 : Int32)) rfl (q := 305) rfl ?_
    refine k_icmp_le_y K X393 at_305 (by decide) (by decide) (q := 316) rfl ?_
    refine k_iconst K X393 at_316 (v := (0 : Int32)) rfl (q := 317) rfl ?_
    refine k_iadd K X393 at_317 (q := 318) rfl ?_
    refine k_nameI (v := (0 : Int32)) (by decide) ?_
    refine k_iload K X393 at_318 rfl (q := 320) rfl ?_
    refine k_iconst K X393 at_320 (v := (3 : Int32)) rfl (q := 321) rfl ?_
    refine k_icmp_le_y K X393 at_321 (by decide) (by decide) (q := 332) rfl ?_
    refine k_iconst K X393 at_332 (v := (0 : Int32)) rfl (q := 333) rfl ?_
    refine k_iadd K X393 at_333 (q := 334) rfl ?_
    refine k_nameI (v := (0 : Int32)) (by decide) ?_
    refine k_iload K X393 at_334 rfl (q := 336) rfl ?_
    refine k_iconst K X393 at_336 (v := (4 : Int32)) rfl (q := 337) rfl ?_
    refine k_icmp_le_y K X393 at_337 (by decide) (by decide) (q := 348) rfl ?_
    refine k_iconst K X393 at_348 (v := (0 : Int32)) rfl (q := 349) rfl ?_
    refine k_iadd K X393 at_349 (q := 350) rfl ?_
    refine k_nameI (v := (0 : Int32)) (by decide) ?_
    refine k_istore K X393 at_350 rfl (Ls' := #[.val (.int p0), .val (.int p1), .val (.int p2), .val (.int p3), .val (.int p4), .val (.int p5), .val (.int (0 : Int32)), .val (.int v341), .val (.int v345), .val (.int v349), .val (.int v353), .val (.int v357), .val (.ref b360), .val (.int v379), .val (.int (0 : Int32)), .val (.int (0 : Int32)), .val (.int (0 : Int32)), .val (.int (0 : Int32)), .val (.int (0 : Int32)), .val (.int (0 : Int32)), .val (.int (0 : Int32)), .val (.int (0 : Int32)), .val (.int (0 : Int32)), .val (.int (0 : Int32)), .val (.int (0 : Int32)), .val (.int (0 : Int32)), .val (.int (0 : Int32)), .unset]) rfl (q := 352) rfl ?_
    refine k_iload K X393 at_352 rfl (q := 354) rfl ?_
    refine k_if_gt_n K X393 at_354 (by decide) (q := 357) rfl ?_
    refine k_iload K X393 at_357 rfl (q := 359) rfl ?_
    refine k_iconst K X393 at_359 (v := (1 : Int32)) rfl (q := 360) rfl ?_
    refine k_iand K X393 at_360 (q := 361) rfl ?_
    refine k_nameI (v := (0 : Int32)) (by decide) ?_
    refine k_if_eq_y K X393 at_361 (by decide) (by decide) (q := 368) rfl ?_
    refine k_iconst K X393 at_368 (v := (0 : Int32)) rfl (q := 369) rfl ?_
    refine k_istore K X393 at_369 rfl (Ls' := #[.val (.int p0), .val (.int p1), .val (.int p2), .val (.int p3), .val (.int p4), .val (.int p5), .val (.int (0 : Int32)), .val (.int v341), .val (.int v345), .val (.int v349), .val (.int v353), .val (.int v357), .val (.ref b360), .val (.int v379), .val (.int (0 : Int32)), .val (.int (0 : Int32)), .val (.int (0 : Int32)), .val (.int (0 : Int32)), .val (.int (0 : Int32)), .val (.int (0 : Int32)), .val (.int (0 : Int32)), .val (.int (0 : Int32)), .val (.int (0 : Int32)), .val (.int (0 : Int32)), .val (.int (0 : Int32)), .val (.int (0 : Int32)), .val (.int (0 : Int32)), .val (.int (0 : Int32))]) rfl (q := 371) rfl ?_
    refine k_iload K X393 at_371 rfl (q := 373) rfl ?_
    refine k_iload K X393 at_373 rfl (q := 375) rfl ?_
    have J397 : ∀ (d396 : Int32), (if v379 = (0 : Int32) then (1 : Int32) else (0 : Int32)) = d396 → Run p e below s kc kn Q T392 (mkF m 383 #[.val (.int p0), .val (.int p1), .val (.int p2), .val (.int p3), .val (.int p4), .val (.int p5), .val (.int (0 : Int32)), .val (.int v341), .val (.int v345), .val (.int v349), .val (.int v353), .val (.int v357), .val (.ref b360), .val (.int v379), .val (.int (0 : Int32)), .val (.int (0 : Int32)), .val (.int (0 : Int32)), .val (.int (0 : Int32)), .val (.int (0 : Int32)), .val (.int (0 : Int32)), .val (.int (0 : Int32)), .val (.int (0 : Int32)), .val (.int (0 : Int32)), .val (.int (0 : Int32)), .val (.int (0 : Int32)), .val (.int (0 : Int32)), .val (.int (0 : Int32)), .val (.int (0 : Int32))] [(.int d396)]) := by
      intro d396 hv_d396
      exact k_retz K X393 e394 at_383 (Nat.le_trans (by decide) hkc) (Nat.le_trans (by decide) hkn) (hQ _ _ _ ⟨(by show some (Value.int (nar .boolean d396)) = some (Value.int (F_law p0 p1 p2 p3 p4 p5)); simp only [F_law, hv_v336, hv_v341, hv_v345, hv_v349, hv_v353, hv_v357, hv_v379, hv_d396, if_pos (rfl : (0 : Int32) = (0 : Int32)), if_true]), N0⟩)
    refine k_icmp_ne K X393 at_375 (by decide) (q := 382) rfl (q' := 378) rfl ?_ ?_
    · intro hc398
      refine k_iconst K X393 at_382 (v := (0 : Int32)) rfl (q := 383) rfl ?_
      exact J397 _ (by first | rfl | (simp only [if_neg hc398]))
    · intro hc398
      refine k_iconst K X393 at_378 (v := (1 : Int32)) rfl (q := 379) rfl ?_
      refine k_goto K X393 at_379 (by decide) (q := 383) rfl ?_
      exact J397 _ (by first | rfl | (simp only [if_pos hc398]))
  by_cases hs399 : v336 = (1 : Int32)
  · subst hs399
    refine k_iloadN K X0 at_9 rfl (q := 10) rfl ?_
    refine k_staticP K X0 e0 at_10 (wd hw 0 rfl) (wd hw 1 rfl) (wd hw 2 rfl) (wd hw 3 rfl) (by decide) (rm1 l Z az hw [] p1 h0) (W := 0) (by decide) (by decide) (by decide) (by decide) rfl pd_0 (argsL := [(.int p1)]) (rest := []) rfl rfl rfl (Nat.le_of_eq rfl) (q := 13) rfl ?_
    intro T400 X401 e402
    obtain ⟨v403, hv_v403⟩ : ∃ z : Int32, (F_pick p1) = z := ⟨_, rfl⟩
    refine k_istore K X401 at_13 hv_v403 (Ls' := #[.val (.int p0), .val (.int p1), .val (.int p2), .val (.int p3), .val (.int p4), .val (.int p5), .val (.int (1 : Int32)), .val (.int v403), .unset, .unset, .unset, .unset, .unset, .unset, .unset, .unset, .unset, .unset, .unset, .unset, .unset, .unset, .unset, .unset, .unset, .unset, .unset, .unset]) rfl (q := 15) rfl ?_
    refine k_iloadN K X401 at_15 rfl (q := 16) rfl ?_
    refine k_staticP K X401 e402 at_16 (wd hw 0 rfl) (wd hw 1 rfl) (wd hw 2 rfl) (wd hw 3 rfl) (by decide) (rm1 l Z az hw [] p2 h0) (W := 0) (by decide) (by decide) (by decide) (by decide) rfl pd_0 (argsL := [(.int p2)]) (rest := []) rfl rfl rfl (Nat.le_of_eq rfl) (q := 19) rfl ?_
    intro T404 X405 e406
    obtain ⟨v407, hv_v407⟩ : ∃ z : Int32, (F_pick p2) = z := ⟨_, rfl⟩
    refine k_istore K X405 at_19 hv_v407 (Ls' := #[.val (.int p0), .val (.int p1), .val (.int p2), .val (.int p3), .val (.int p4), .val (.int p5), .val (.int (1 : Int32)), .val (.int v403), .val (.int v407), .unset, .unset, .unset, .unset, .unset, .unset, .unset, .unset, .unset, .unset, .unset, .unset, .unset, .unset, .unset, .unset, .unset, .unset, .unset]) rfl (q := 21) rfl ?_
    refine k_iloadN K X405 at_21 rfl (q := 22) rfl ?_
    refine k_staticP K X405 e406 at_22 (wd hw 0 rfl) (wd hw 1 rfl) (wd hw 2 rfl) (wd hw 3 rfl) (by decide) (rm1 l Z az hw [] p3 h0) (W := 0) (by decide) (by decide) (by decide) (by decide) rfl pd_0 (argsL := [(.int p3)]) (rest := []) rfl rfl rfl (Nat.le_of_eq rfl) (q := 25) rfl ?_
    intro T408 X409 e410
    obtain ⟨v411, hv_v411⟩ : ∃ z : Int32, (F_pick p3) = z := ⟨_, rfl⟩
    refine k_istore K X409 at_25 hv_v411 (Ls' := #[.val (.int p0), .val (.int p1), .val (.int p2), .val (.int p3), .val (.int p4), .val (.int p5), .val (.int (1 : Int32)), .val (.int v403), .val (.int v407), .val (.int v411), .unset, .unset, .unset, .unset, .unset, .unset, .unset, .unset, .unset, .unset, .unset, .unset, .unset, .unset, .unset, .unset, .unset, .unset]) rfl (q := 27) rfl ?_
    refine k_iload K X409 at_27 rfl (q := 29) rfl ?_
    refine k_staticP K X409 e410 at_29 (wd hw 0 rfl) (wd hw 1 rfl) (wd hw 2 rfl) (wd hw 3 rfl) (by decide) (rm1 l Z az hw [] p4 h0) (W := 0) (by decide) (by decide) (by decide) (by decide) rfl pd_0 (argsL := [(.int p4)]) (rest := []) rfl rfl rfl (Nat.le_of_eq rfl) (q := 32) rfl ?_
    intro T412 X413 e414
    obtain ⟨v415, hv_v415⟩ : ∃ z : Int32, (F_pick p4) = z := ⟨_, rfl⟩
    refine k_istore K X413 at_32 hv_v415 (Ls' := #[.val (.int p0), .val (.int p1), .val (.int p2), .val (.int p3), .val (.int p4), .val (.int p5), .val (.int (1 : Int32)), .val (.int v403), .val (.int v407), .val (.int v411), .val (.int v415), .unset, .unset, .unset, .unset, .unset, .unset, .unset, .unset, .unset, .unset, .unset, .unset, .unset, .unset, .unset, .unset, .unset]) rfl (q := 34) rfl ?_
    refine k_iload K X413 at_34 rfl (q := 36) rfl ?_
    refine k_staticP K X413 e414 at_36 (wd hw 0 rfl) (wd hw 1 rfl) (wd hw 2 rfl) (wd hw 3 rfl) (by decide) (rm1 l Z az hw [] p5 h0) (W := 0) (by decide) (by decide) (by decide) (by decide) rfl pd_0 (argsL := [(.int p5)]) (rest := []) rfl rfl rfl (Nat.le_of_eq rfl) (q := 39) rfl ?_
    intro T416 X417 e418
    obtain ⟨v419, hv_v419⟩ : ∃ z : Int32, (F_pick p5) = z := ⟨_, rfl⟩
    refine k_istore K X417 at_39 hv_v419 (Ls' := #[.val (.int p0), .val (.int p1), .val (.int p2), .val (.int p3), .val (.int p4), .val (.int p5), .val (.int (1 : Int32)), .val (.int v403), .val (.int v407), .val (.int v411), .val (.int v415), .val (.int v419), .unset, .unset, .unset, .unset, .unset, .unset, .unset, .unset, .unset, .unset, .unset, .unset, .unset, .unset, .unset, .unset]) rfl (q := 41) rfl ?_
    refine k_new K X417 e418 at_41 (wd hw 4 rfl) (wd hw 5 rfl) (wd hw 6 rfl) (by decide) (by decide) (q := 44) rfl ?_
    intro T420 h421 b422 X423 e424 g425 E426 A427 D428
    have ge429 : n0 ≤ b422 := Nat.le_trans Z0 (Nat.le_of_eq g425.symm)
    have bn430 : h0.size ≤ b422 := Nat.le_trans K0.1 (Nat.le_of_eq g425.symm)
    have K431 := Keep.ext K0 E426
    have Z432 := Nat.le_trans Z0 E426.1
    have f433 : Fld Z h421 b422 "com/example/wherefore/wherefore/instrument/Quotation" "depth" "I" (.int (0 : Int32)) := D428 (Or.inl (wd hw 19 rfl)) (ty := .int) (by decide)
    have f434 : Fld Z h421 b422 "com/example/wherefore/wherefore/instrument/Quotation" "straight" "Z" (.int (0 : Int32)) := D428 (Or.inl (wd hw 21 rfl)) (ty := .boolean) (by decide)
    refine k_dup K X423 at_44 rfl (q := 45) rfl ?_
    refine k_specialP K X423 e424 at_45 rfl (wd hw 7 rfl) (wd hw 8 rfl) (wd hw 6 rfl) (wd hw 9 rfl) (by decide) (rm2 l Z az hw [] b422 h421) (W := 1) (by decide) (by decide) (by decide) (by decide) rfl pd_1 (argsL := []) (rest := [(.ref b422)]) rfl rfl rfl (Nat.le_of_eq rfl) (q := 48) rfl ?_
    intro T435 X436 e437
    refine k_astore K X436 at_48 rfl (Ls' := #[.val (.int p0), .val (.int p1), .val (.int p2), .val (.int p3), .val (.int p4), .val (.int p5), .val (.int (1 : Int32)), .val (.int v403), .val (.int v407), .val (.int v411), .val (.int v415), .val (.int v419), .val (.ref b422), .unset, .unset, .unset, .unset, .unset, .unset, .unset, .unset, .unset, .unset, .unset, .unset, .unset, .unset, .unset]) rfl (q := 50) rfl ?_
    refine k_iload K X436 at_50 rfl (q := 52) rfl ?_
    refine k_if_le_n K X436 at_52 (by decide) (q := 55) rfl ?_
    refine k_aload K X436 at_55 rfl rfl (q := 57) rfl ?_
    refine k_iload K X436 at_57 rfl (q := 59) rfl ?_
    refine k_virtual K X436 e437 at_59 (wd hw 26 rfl) (wd hw 27 rfl) (wd hw 29 rfl) (wd hw 28 rfl) (wd hw 6 rfl) (wd hw 30 rfl) (by decide) A427 (rm6 l Z az hw [] b422 v403 (0 : Int32) (0 : Int32) h421 n0 Z432 f434 A427 ge429 f433) (W := 0) (by decide) (by decide) (by decide) (by decide) rfl pd_4 (argsL := [(.int v403)]) (rest := []) rfl rfl rfl (Nat.le_of_eq rfl) (q := 62) rfl ?_
    rintro _ T438 L439 X440 ⟨rfl, N441, K442, f444, f445⟩
    have f446 := Exa.keep A427 K442
    have N447 := Fr.app N0 N441
    have K448 := Keep.trans K431 K442 (allS (Or.inr bn430) all0)
    have Z449 := Nat.le_trans Z432 K442.1
    obtain ⟨v450, hv_v450⟩ : ∃ z : Int32, (F_read_a0_depth v403 (0 : Int32) (0 : Int32)) = z := ⟨_, rfl⟩
    rw [hv_v450] at f444
    obtain ⟨v451, hv_v451⟩ : ∃ z : Int32, (F_read_a0_straight v403 (0 : Int32) (0 : Int32)) = z := ⟨_, rfl⟩
    rw [hv_v451] at f445
    refine k_iload K X440 at_62 rfl (q := 64) rfl ?_
    refine k_iconst K X440 at_64 (v := (1 : Int32)) rfl (q := 65) rfl ?_
    refine k_icmp_le_y K X440 at_65 (by decide) (by decide) (q := 75) rfl ?_
    refine k_iload K X440 at_75 rfl (q := 77) rfl ?_
    refine k_iconst K X440 at_77 (v := (2 : Int32)) rfl (q := 78) rfl ?_
    refine k_icmp_le_y K X440 at_78 (by decide) (by decide) (q := 88) rfl ?_
    refine k_iload K X440 at_88 rfl (q := 90) rfl ?_
    refine k_iconst K X440 at_90 (v := (3 : Int32)) rfl (q := 91) rfl ?_
    refine k_icmp_le_y K X440 at_91 (by decide) (by decide) (q := 101) rfl ?_
    refine k_iload K X440 at_101 rfl (q := 103) rfl ?_
    refine k_iconst K X440 at_103 (v := (4 : Int32)) rfl (q := 104) rfl ?_
    refine k_icmp_le_y K X440 at_104 (by decide) (by decide) (q := 114) rfl ?_
    refine k_aload K X440 at_114 rfl rfl (q := 116) rfl ?_
    refine k_virtualP K X440 rfl at_116 (wd hw 13 rfl) (wd hw 14 rfl) (wd hw 16 rfl) (wd hw 15 rfl) (wd hw 6 rfl) (wd hw 17 rfl) (by decide) f446 (rm4 l Z az hw [] b422 v450 v451 T438.heap f444 f445) (W := 0) (by decide) (by decide) (by decide) (by decide) rfl pd_2 (argsL := []) (rest := []) rfl rfl rfl (Nat.le_of_eq rfl) (q := 119) rfl ?_
    intro T452 X453 e454
    obtain ⟨v455, hv_v455⟩ : ∃ z : Int32, (F_inside v450 v451) = z := ⟨_, rfl⟩
    refine k_istore K X453 at_119 hv_v455 (Ls' := #[.val (.int p0), .val (.int p1), .val (.int p2), .val (.int p3), .val (.int p4), .val (.int p5), .val (.int (1 : Int32)), .val (.int v403), .val (.int v407), .val (.int v411), .val (.int v415), .val (.int v419), .val (.ref b422), .val (.int v455), .unset, .unset, .unset, .unset, .unset, .unset, .unset, .unset, .unset, .unset, .unset, .unset, .unset, .unset]) rfl (q := 121) rfl ?_
    refine k_iload K X453 at_121 rfl (q := 123) rfl ?_
    refine k_if_le_n K X453 at_123 (by decide) (q := 126) rfl ?_
    refine k_iload K X453 at_126 rfl (q := 128) rfl ?_
    refine k_staticP K X453 e454 at_128 (wd hw 31 rfl) (wd hw 32 rfl) (wd hw 2 rfl) (wd hw 33 rfl) (by decide) (rm7 l Z az hw [] v403 T438.heap) (W := 0) (by decide) (by decide) (by decide) (by decide) rfl pd_5 (argsL := [(.int v403)]) (rest := []) rfl rfl rfl (Nat.le_of_eq rfl) (q := 131) rfl ?_
    intro T456 X457 e458
    refine k_goto K X457 at_131 (by decide) (q := 135) rfl ?_
    obtain ⟨v459, hv_v459⟩ : ∃ z : Int32, (F_delta v403) = z := ⟨_, rfl⟩
    refine k_istore K X457 at_135 hv_v459 (Ls' := #[.val (.int p0), .val (.int p1), .val (.int p2), .val (.int p3), .val (.int p4), .val (.int p5), .val (.int (1 : Int32)), .val (.int v403), .val (.int v407), .val (.int v411), .val (.int v415), .val (.int v419), .val (.ref b422), .val (.int v455), .val (.int v459), .unset, .unset, .unset, .unset, .unset, .unset, .unset, .unset, .unset, .unset, .unset, .unset, .unset]) rfl (q := 137) rfl ?_
    refine k_iload K X457 at_137 rfl (q := 139) rfl ?_
    refine k_iconst K X457 at_139 (v := (1 : Int32)) rfl (q := 140) rfl ?_
    refine k_icmp_le_y K X457 at_140 (by decide) (by decide) (q := 151) rfl ?_
    refine k_iconst K X457 at_151 (v := (0 : Int32)) rfl (q := 152) rfl ?_
    refine k_istore K X457 at_152 rfl (Ls' := #[.val (.int p0), .val (.int p1), .val (.int p2), .val (.int p3), .val (.int p4), .val (.int p5), .val (.int (1 : Int32)), .val (.int v403), .val (.int v407), .val (.int v411), .val (.int v415), .val (.int v419), .val (.ref b422), .val (.int v455), .val (.int v459), .val (.int (0 : Int32)), .unset, .unset, .unset, .unset, .unset, .unset, .unset, .unset, .unset, .unset, .unset, .unset]) rfl (q := 154) rfl ?_
    refine k_iload K X457 at_154 rfl (q := 156) rfl ?_
    refine k_iconst K X457 at_156 (v := (2 : Int32)) rfl (q := 157) rfl ?_
    refine k_icmp_le_y K X457 at_157 (by decide) (by decide) (q := 168) rfl ?_
    refine k_iconst K X457 at_168 (v := (0 : Int32)) rfl (q := 169) rfl ?_
    refine k_istore K X457 at_169 rfl (Ls' := #[.val (.int p0), .val (.int p1), .val (.int p2), .val (.int p3), .val (.int p4), .val (.int p5), .val (.int (1 : Int32)), .val (.int v403), .val (.int v407), .val (.int v411), .val (.int v415), .val (.int v419), .val (.ref b422), .val (.int v455), .val (.int v459), .val (.int (0 : Int32)), .val (.int (0 : Int32)), .unset, .unset, .unset, .unset, .unset, .unset, .unset, .unset, .unset, .unset, .unset]) rfl (q := 171) rfl ?_
    refine k_iload K X457 at_171 rfl (q := 173) rfl ?_
    refine k_iconst K X457 at_173 (v := (3 : Int32)) rfl (q := 174) rfl ?_
    refine k_icmp_le_y K X457 at_174 (by decide) (by decide) (q := 185) rfl ?_
    refine k_iconst K X457 at_185 (v := (0 : Int32)) rfl (q := 186) rfl ?_
    refine k_istore K X457 at_186 rfl (Ls' := #[.val (.int p0), .val (.int p1), .val (.int p2), .val (.int p3), .val (.int p4), .val (.int p5), .val (.int (1 : Int32)), .val (.int v403), .val (.int v407), .val (.int v411), .val (.int v415), .val (.int v419), .val (.ref b422), .val (.int v455), .val (.int v459), .val (.int (0 : Int32)), .val (.int (0 : Int32)), .val (.int (0 : Int32)), .unset, .unset, .unset, .unset, .unset, .unset, .unset, .unset, .unset, .unset]) rfl (q := 188) rfl ?_
    refine k_iload K X457 at_188 rfl (q := 190) rfl ?_
    refine k_iconst K X457 at_190 (v := (4 : Int32)) rfl (q := 191) rfl ?_
    refine k_icmp_le_y K X457 at_191 (by decide) (by decide) (q := 202) rfl ?_
    refine k_iconst K X457 at_202 (v := (0 : Int32)) rfl (q := 203) rfl ?_
    refine k_istore K X457 at_203 rfl (Ls' := #[.val (.int p0), .val (.int p1), .val (.int p2), .val (.int p3), .val (.int p4), .val (.int p5), .val (.int (1 : Int32)), .val (.int v403), .val (.int v407), .val (.int v411), .val (.int v415), .val (.int v419), .val (.ref b422), .val (.int v455), .val (.int v459), .val (.int (0 : Int32)), .val (.int (0 : Int32)), .val (.int (0 : Int32)), .val (.int (0 : Int32)), .unset, .unset, .unset, .unset, .unset, .unset, .unset, .unset, .unset]) rfl (q := 205) rfl ?_
    refine k_iload K X457 at_205 rfl (q := 207) rfl ?_
    refine k_istore K X457 at_207 rfl (Ls' := #[.val (.int p0), .val (.int p1), .val (.int p2), .val (.int p3), .val (.int p4), .val (.int p5), .val (.int (1 : Int32)), .val (.int v403), .val (.int v407), .val (.int v411), .val (.int v415), .val (.int v419), .val (.ref b422), .val (.int v455), .val (.int v459), .val (.int (0 : Int32)), .val (.int (0 : Int32)), .val (.int (0 : Int32)), .val (.int (0 : Int32)), .val (.int v459), .unset, .unset, .unset, .unset, .unset, .unset, .unset, .unset]) rfl (q := 209) rfl ?_
    refine k_iload K X457 at_209 rfl (q := 211) rfl ?_
    refine k_iload K X457 at_211 rfl (q := 213) rfl ?_
    refine k_iadd K X457 at_213 (q := 214) rfl ?_
    obtain ⟨v460, hv_v460⟩ : ∃ z : Int32, (v459 + (0 : Int32)) = z := ⟨_, rfl⟩
    refine k_istore K X457 at_214 hv_v460 (Ls' := #[.val (.int p0), .val (.int p1), .val (.int p2), .val (.int p3), .val (.int p4), .val (.int p5), .val (.int (1 : Int32)), .val (.int v403), .val (.int v407), .val (.int v411), .val (.int v415), .val (.int v419), .val (.ref b422), .val (.int v455), .val (.int v459), .val (.int (0 : Int32)), .val (.int (0 : Int32)), .val (.int (0 : Int32)), .val (.int (0 : Int32)), .val (.int v459), .val (.int v460), .unset, .unset, .unset, .unset, .unset, .unset, .unset]) rfl (q := 216) rfl ?_
    refine k_iload K X457 at_216 rfl (q := 218) rfl ?_
    refine k_iload K X457 at_218 rfl (q := 220) rfl ?_
    refine k_iadd K X457 at_220 (q := 221) rfl ?_
    obtain ⟨v461, hv_v461⟩ : ∃ z : Int32, (v460 + (0 : Int32)) = z := ⟨_, rfl⟩
    refine k_istore K X457 at_221 hv_v461 (Ls' := #[.val (.int p0), .val (.int p1), .val (.int p2), .val (.int p3), .val (.int p4), .val (.int p5), .val (.int (1 : Int32)), .val (.int v403), .val (.int v407), .val (.int v411), .val (.int v415), .val (.int v419), .val (.ref b422), .val (.int v455), .val (.int v459), .val (.int (0 : Int32)), .val (.int (0 : Int32)), .val (.int (0 : Int32)), .val (.int (0 : Int32)), .val (.int v459), .val (.int v460), .val (.int v461), .unset, .unset, .unset, .unset, .unset, .unset]) rfl (q := 223) rfl ?_
    refine k_iload K X457 at_223 rfl (q := 225) rfl ?_
    refine k_iload K X457 at_225 rfl (q := 227) rfl ?_
    refine k_iadd K X457 at_227 (q := 228) rfl ?_
    obtain ⟨v462, hv_v462⟩ : ∃ z : Int32, (v461 + (0 : Int32)) = z := ⟨_, rfl⟩
    refine k_istore K X457 at_228 hv_v462 (Ls' := #[.val (.int p0), .val (.int p1), .val (.int p2), .val (.int p3), .val (.int p4), .val (.int p5), .val (.int (1 : Int32)), .val (.int v403), .val (.int v407), .val (.int v411), .val (.int v415), .val (.int v419), .val (.ref b422), .val (.int v455), .val (.int v459), .val (.int (0 : Int32)), .val (.int (0 : Int32)), .val (.int (0 : Int32)), .val (.int (0 : Int32)), .val (.int v459), .val (.int v460), .val (.int v461), .val (.int v462), .unset, .unset, .unset, .unset, .unset]) rfl (q := 230) rfl ?_
    refine k_iload K X457 at_230 rfl (q := 232) rfl ?_
    refine k_iload K X457 at_232 rfl (q := 234) rfl ?_
    refine k_iadd K X457 at_234 (q := 235) rfl ?_
    obtain ⟨v463, hv_v463⟩ : ∃ z : Int32, (v462 + (0 : Int32)) = z := ⟨_, rfl⟩
    refine k_istore K X457 at_235 hv_v463 (Ls' := #[.val (.int p0), .val (.int p1), .val (.int p2), .val (.int p3), .val (.int p4), .val (.int p5), .val (.int (1 : Int32)), .val (.int v403), .val (.int v407), .val (.int v411), .val (.int v415), .val (.int v419), .val (.ref b422), .val (.int v455), .val (.int v459), .val (.int (0 : Int32)), .val (.int (0 : Int32)), .val (.int (0 : Int32)), .val (.int (0 : Int32)), .val (.int v459), .val (.int v460), .val (.int v461), .val (.int v462), .val (.int v463), .unset, .unset, .unset, .unset]) rfl (q := 237) rfl ?_
    refine k_iconst K X457 at_237 (v := (0 : Int32)) rfl (q := 238) rfl ?_
    refine k_iload K X457 at_238 rfl (q := 240) rfl ?_
    refine k_iload K X457 at_240 rfl (q := 242) rfl ?_
    refine k_iload K X457 at_242 rfl (q := 244) rfl ?_
    refine k_iload K X457 at_244 rfl (q := 246) rfl ?_
    refine k_iload K X457 at_246 rfl (q := 248) rfl ?_
    refine k_staticP K X457 e458 at_248 (wd hw 22 rfl) (wd hw 23 rfl) (wd hw 24 rfl) (wd hw 25 rfl) (by decide) (rm5 l Z az hw [] v462 v463 T438.heap) (W := 4) (by decide) (by decide) (by decide) (by decide) rfl pd_3 (argsL := [(.int v462), (.int v463)]) (rest := [(.int v461), (.int v460), (.int v459), (.int (0 : Int32))]) rfl rfl rfl (Nat.le_of_eq rfl) (q := 251) rfl ?_
    intro T464 X465 e466
    refine k_staticP K X465 e466 at_251 (wd hw 22 rfl) (wd hw 23 rfl) (wd hw 24 rfl) (wd hw 25 rfl) (by decide) (rm5 l Z az hw [] v461 (F_min v462 v463) T438.heap) (W := 3) (by decide) (by decide) (by decide) (by decide) rfl pd_3 (argsL := [(.int v461), (.int (F_min v462 v463))]) (rest := [(.int v460), (.int v459), (.int (0 : Int32))]) rfl rfl rfl (Nat.le_of_eq rfl) (q := 254) rfl ?_
    intro T467 X468 e469
    refine k_staticP K X468 e469 at_254 (wd hw 22 rfl) (wd hw 23 rfl) (wd hw 24 rfl) (wd hw 25 rfl) (by decide) (rm5 l Z az hw [] v460 (F_min v461 (F_min v462 v463)) T438.heap) (W := 2) (by decide) (by decide) (by decide) (by decide) rfl pd_3 (argsL := [(.int v460), (.int (F_min v461 (F_min v462 v463)))]) (rest := [(.int v459), (.int (0 : Int32))]) rfl rfl rfl (Nat.le_of_eq rfl) (q := 257) rfl ?_
    intro T470 X471 e472
    refine k_staticP K X471 e472 at_257 (wd hw 22 rfl) (wd hw 23 rfl) (wd hw 24 rfl) (wd hw 25 rfl) (by decide) (rm5 l Z az hw [] v459 (F_min v460 (F_min v461 (F_min v462 v463))) T438.heap) (W := 1) (by decide) (by decide) (by decide) (by decide) rfl pd_3 (argsL := [(.int v459), (.int (F_min v460 (F_min v461 (F_min v462 v463))))]) (rest := [(.int (0 : Int32))]) rfl rfl rfl (Nat.le_of_eq rfl) (q := 260) rfl ?_
    intro T473 X474 e475
    refine k_staticP K X474 e475 at_260 (wd hw 22 rfl) (wd hw 23 rfl) (wd hw 24 rfl) (wd hw 25 rfl) (by decide) (rm5 l Z az hw [] (0 : Int32) (F_min v459 (F_min v460 (F_min v461 (F_min v462 v463)))) T438.heap) (W := 0) (by decide) (by decide) (by decide) (by decide) rfl pd_3 (argsL := [(.int (0 : Int32)), (.int (F_min v459 (F_min v460 (F_min v461 (F_min v462 v463)))))]) (rest := []) rfl rfl rfl (Nat.le_of_eq rfl) (q := 263) rfl ?_
    intro T476 X477 e478
    obtain ⟨v479, hv_v479⟩ : ∃ z : Int32, (F_min (0 : Int32) (F_min v459 (F_min v460 (F_min v461 (F_min v462 v463))))) = z := ⟨_, rfl⟩
    refine k_istore K X477 at_263 hv_v479 (Ls' := #[.val (.int p0), .val (.int p1), .val (.int p2), .val (.int p3), .val (.int p4), .val (.int p5), .val (.int (1 : Int32)), .val (.int v403), .val (.int v407), .val (.int v411), .val (.int v415), .val (.int v419), .val (.ref b422), .val (.int v455), .val (.int v459), .val (.int (0 : Int32)), .val (.int (0 : Int32)), .val (.int (0 : Int32)), .val (.int (0 : Int32)), .val (.int v459), .val (.int v460), .val (.int v461), .val (.int v462), .val (.int v463), .val (.int v479), .unset, .unset, .unset]) rfl (q := 265) rfl ?_
    refine k_iload K X477 at_265 rfl (q := 267) rfl ?_
    refine k_iload K X477 at_267 rfl (q := 269) rfl ?_
    refine k_isub K X477 at_269 (q := 270) rfl ?_
    obtain ⟨v480, hv_v480⟩ : ∃ z : Int32, (v463 - v479) = z := ⟨_, rfl⟩
    refine k_istore K X477 at_270 hv_v480 (Ls' := #[.val (.int p0), .val (.int p1), .val (.int p2), .val (.int p3), .val (.int p4), .val (.int p5), .val (.int (1 : Int32)), .val (.int v403), .val (.int v407), .val (.int v411), .val (.int v415), .val (.int v419), .val (.ref b422), .val (.int v455), .val (.int v459), .val (.int (0 : Int32)), .val (.int (0 : Int32)), .val (.int (0 : Int32)), .val (.int (0 : Int32)), .val (.int v459), .val (.int v460), .val (.int v461), .val (.int v462), .val (.int v463), .val (.int v479), .val (.int v480), .unset, .unset]) rfl (q := 272) rfl ?_
    refine k_iload K X477 at_272 rfl (q := 274) rfl ?_
    refine k_if_le_n K X477 at_274 (by decide) (q := 277) rfl ?_
    refine k_iload K X477 at_277 rfl (q := 279) rfl ?_
    refine k_staticP K X477 e478 at_279 (wd hw 34 rfl) (wd hw 35 rfl) (wd hw 2 rfl) (wd hw 36 rfl) (by decide) (rm8 l Z az hw [] v403 T438.heap) (W := 0) (by decide) (by decide) (by decide) (by decide) rfl pd_5 (argsL := [(.int v403)]) (rest := []) rfl rfl rfl (Nat.le_of_eq rfl) (q := 282) rfl ?_
    intro T481 X482 e483
    refine k_goto K X482 at_282 (by decide) (q := 286) rfl ?_
    refine k_iload K X482 at_286 rfl (q := 288) rfl ?_
    refine k_iconst K X482 at_288 (v := (1 : Int32)) rfl (q := 289) rfl ?_
    refine k_icmp_le_y K X482 at_289 (by decide) (by decide) (q := 300) rfl ?_
    refine k_iconst K X482 at_300 (v := (0 : Int32)) rfl (q := 301) rfl ?_
    refine k_iadd K X482 at_301 (q := 302) rfl ?_
    refine k_iload K X482 at_302 rfl (q := 304) rfl ?_
    refine k_iconst K X482 at_304 (v := (2 : Int32)) rfl (q := 305) rfl ?_
    refine k_icmp_le_y K X482 at_305 (by decide) (by decide) (q := 316) rfl ?_
    refine k_iconst K X482 at_316 (v := (0 : Int32)) rfl (q := 317) rfl ?_
    refine k_iadd K X482 at_317 (q := 318) rfl ?_
    refine k_iload K X482 at_318 rfl (q := 320) rfl ?_
    refine k_iconst K X482 at_320 (v := (3 : Int32)) rfl (q := 321) rfl ?_
    refine k_icmp_le_y K X482 at_321 (by decide) (by decide) (q := 332) rfl ?_
    refine k_iconst K X482 at_332 (v := (0 : Int32)) rfl (q := 333) rfl ?_
    refine k_iadd K X482 at_333 (q := 334) rfl ?_
    refine k_iload K X482 at_334 rfl (q := 336) rfl ?_
    refine k_iconst K X482 at_336 (v := (4 : Int32)) rfl (q := 337) rfl ?_
    refine k_icmp_le_y K X482 at_337 (by decide) (by decide) (q := 348) rfl ?_
    refine k_iconst K X482 at_348 (v := (0 : Int32)) rfl (q := 349) rfl ?_
    refine k_iadd K X482 at_349 (q := 350) rfl ?_
    obtain ⟨v484, hv_v484⟩ : ∃ z : Int32, (((((F_quote v403) + (0 : Int32)) + (0 : Int32)) + (0 : Int32)) + (0 : Int32)) = z := ⟨_, rfl⟩
    refine k_istore K X482 at_350 hv_v484 (Ls' := #[.val (.int p0), .val (.int p1), .val (.int p2), .val (.int p3), .val (.int p4), .val (.int p5), .val (.int (1 : Int32)), .val (.int v403), .val (.int v407), .val (.int v411), .val (.int v415), .val (.int v419), .val (.ref b422), .val (.int v455), .val (.int v459), .val (.int (0 : Int32)), .val (.int (0 : Int32)), .val (.int (0 : Int32)), .val (.int (0 : Int32)), .val (.int v459), .val (.int v460), .val (.int v461), .val (.int v462), .val (.int v463), .val (.int v479), .val (.int v480), .val (.int v484), .unset]) rfl (q := 352) rfl ?_
    refine k_iload K X482 at_352 rfl (q := 354) rfl ?_
    have J488 : ∀ (d487 : Int32), (if (0 : Int32) < v480 then (1 : Int32) else (if (v484 &&& (1 : Int32)) = (0 : Int32) then (0 : Int32) else (1 : Int32))) = d487 → Run p e below s kc kn Q T481 (mkF m 369 #[.val (.int p0), .val (.int p1), .val (.int p2), .val (.int p3), .val (.int p4), .val (.int p5), .val (.int (1 : Int32)), .val (.int v403), .val (.int v407), .val (.int v411), .val (.int v415), .val (.int v419), .val (.ref b422), .val (.int v455), .val (.int v459), .val (.int (0 : Int32)), .val (.int (0 : Int32)), .val (.int (0 : Int32)), .val (.int (0 : Int32)), .val (.int v459), .val (.int v460), .val (.int v461), .val (.int v462), .val (.int v463), .val (.int v479), .val (.int v480), .val (.int v484), .unset] [(.int d487)]) := by
      intro d487 hv_d487
      refine k_istore K X482 at_369 rfl (Ls' := #[.val (.int p0), .val (.int p1), .val (.int p2), .val (.int p3), .val (.int p4), .val (.int p5), .val (.int (1 : Int32)), .val (.int v403), .val (.int v407), .val (.int v411), .val (.int v415), .val (.int v419), .val (.ref b422), .val (.int v455), .val (.int v459), .val (.int (0 : Int32)), .val (.int (0 : Int32)), .val (.int (0 : Int32)), .val (.int (0 : Int32)), .val (.int v459), .val (.int v460), .val (.int v461), .val (.int v462), .val (.int v463), .val (.int v479), .val (.int v480), .val (.int v484), .val (.int d487)]) rfl (q := 371) rfl ?_
      refine k_iload K X482 at_371 rfl (q := 373) rfl ?_
      refine k_iload K X482 at_373 rfl (q := 375) rfl ?_
      have J491 : ∀ (d490 : Int32), (if v455 = d487 then (1 : Int32) else (0 : Int32)) = d490 → Run p e below s kc kn Q T481 (mkF m 383 #[.val (.int p0), .val (.int p1), .val (.int p2), .val (.int p3), .val (.int p4), .val (.int p5), .val (.int (1 : Int32)), .val (.int v403), .val (.int v407), .val (.int v411), .val (.int v415), .val (.int v419), .val (.ref b422), .val (.int v455), .val (.int v459), .val (.int (0 : Int32)), .val (.int (0 : Int32)), .val (.int (0 : Int32)), .val (.int (0 : Int32)), .val (.int v459), .val (.int v460), .val (.int v461), .val (.int v462), .val (.int v463), .val (.int v479), .val (.int v480), .val (.int v484), .val (.int d487)] [(.int d490)]) := by
        intro d490 hv_d490
        exact k_retz K X482 e483 at_383 (Nat.le_trans (by decide) hkc) (Nat.le_trans (by decide) hkn) (hQ _ _ _ ⟨(by show some (Value.int (nar .boolean d490)) = some (Value.int (F_law p0 p1 p2 p3 p4 p5)); simp only [F_law, hv_v336, hv_v403, hv_v407, hv_v411, hv_v415, hv_v419, hv_v450, hv_v451, hv_v455, hv_v459, hv_v460, hv_v461, hv_v462, hv_v463, hv_v479, hv_v480, hv_v484, hv_d487, hv_d490, if_neg hs337, if_pos (rfl : (1 : Int32) = (1 : Int32)), if_true]), N447⟩)
      refine k_icmp_ne K X482 at_375 (by decide) (q := 382) rfl (q' := 378) rfl ?_ ?_
      · intro hc492
        refine k_iconst K X482 at_382 (v := (0 : Int32)) rfl (q := 383) rfl ?_
        exact J491 _ (by first | rfl | (simp only [if_neg hc492]))
      · intro hc492
        refine k_iconst K X482 at_378 (v := (1 : Int32)) rfl (q := 379) rfl ?_
        refine k_goto K X482 at_379 (by decide) (q := 383) rfl ?_
        exact J491 _ (by first | rfl | (simp only [if_pos hc492]))
    refine k_if_gt K X482 at_354 (by decide) (q := 364) rfl (q' := 357) rfl ?_ ?_
    · intro hc493
      refine k_iconst K X482 at_364 (v := (1 : Int32)) rfl (q := 365) rfl ?_
      refine k_goto K X482 at_365 (by decide) (q := 369) rfl ?_
      exact J488 _ (by first | rfl | (simp only [if_pos hc493]))
    · intro hc493
      refine k_iload K X482 at_357 rfl (q := 359) rfl ?_
      refine k_iconst K X482 at_359 (v := (1 : Int32)) rfl (q := 360) rfl ?_
      refine k_iand K X482 at_360 (q := 361) rfl ?_
      refine k_if_eq K X482 at_361 (by decide) (q := 368) rfl (q' := 364) rfl ?_ ?_
      · intro hc494
        refine k_iconst K X482 at_368 (v := (0 : Int32)) rfl (q := 369) rfl ?_
        exact J488 _ (by first | rfl | (simp only [if_neg hc493, if_pos hc494]))
      · intro hc494
        refine k_iconst K X482 at_364 (v := (1 : Int32)) rfl (q := 365) rfl ?_
        refine k_goto K X482 at_365 (by decide) (q := 369) rfl ?_
        exact J488 _ (by first | rfl | (simp only [if_neg hc493, if_neg hc494]))
  by_cases hs495 : v336 = (2 : Int32)
  · subst hs495
    refine k_iloadN K X0 at_9 rfl (q := 10) rfl ?_
    refine k_staticP K X0 e0 at_10 (wd hw 0 rfl) (wd hw 1 rfl) (wd hw 2 rfl) (wd hw 3 rfl) (by decide) (rm1 l Z az hw [] p1 h0) (W := 0) (by decide) (by decide) (by decide) (by decide) rfl pd_0 (argsL := [(.int p1)]) (rest := []) rfl rfl rfl (Nat.le_of_eq rfl) (q := 13) rfl ?_
    intro T496 X497 e498
    obtain ⟨v499, hv_v499⟩ : ∃ z : Int32, (F_pick p1) = z := ⟨_, rfl⟩
    refine k_istore K X497 at_13 hv_v499 (Ls' := #[.val (.int p0), .val (.int p1), .val (.int p2), .val (.int p3), .val (.int p4), .val (.int p5), .val (.int (2 : Int32)), .val (.int v499), .unset, .unset, .unset, .unset, .unset, .unset, .unset, .unset, .unset, .unset, .unset, .unset, .unset, .unset, .unset, .unset, .unset, .unset, .unset, .unset]) rfl (q := 15) rfl ?_
    refine k_iloadN K X497 at_15 rfl (q := 16) rfl ?_
    refine k_staticP K X497 e498 at_16 (wd hw 0 rfl) (wd hw 1 rfl) (wd hw 2 rfl) (wd hw 3 rfl) (by decide) (rm1 l Z az hw [] p2 h0) (W := 0) (by decide) (by decide) (by decide) (by decide) rfl pd_0 (argsL := [(.int p2)]) (rest := []) rfl rfl rfl (Nat.le_of_eq rfl) (q := 19) rfl ?_
    intro T500 X501 e502
    obtain ⟨v503, hv_v503⟩ : ∃ z : Int32, (F_pick p2) = z := ⟨_, rfl⟩
    refine k_istore K X501 at_19 hv_v503 (Ls' := #[.val (.int p0), .val (.int p1), .val (.int p2), .val (.int p3), .val (.int p4), .val (.int p5), .val (.int (2 : Int32)), .val (.int v499), .val (.int v503), .unset, .unset, .unset, .unset, .unset, .unset, .unset, .unset, .unset, .unset, .unset, .unset, .unset, .unset, .unset, .unset, .unset, .unset, .unset]) rfl (q := 21) rfl ?_
    refine k_iloadN K X501 at_21 rfl (q := 22) rfl ?_
    refine k_staticP K X501 e502 at_22 (wd hw 0 rfl) (wd hw 1 rfl) (wd hw 2 rfl) (wd hw 3 rfl) (by decide) (rm1 l Z az hw [] p3 h0) (W := 0) (by decide) (by decide) (by decide) (by decide) rfl pd_0 (argsL := [(.int p3)]) (rest := []) rfl rfl rfl (Nat.le_of_eq rfl) (q := 25) rfl ?_
    intro T504 X505 e506
    obtain ⟨v507, hv_v507⟩ : ∃ z : Int32, (F_pick p3) = z := ⟨_, rfl⟩
    refine k_istore K X505 at_25 hv_v507 (Ls' := #[.val (.int p0), .val (.int p1), .val (.int p2), .val (.int p3), .val (.int p4), .val (.int p5), .val (.int (2 : Int32)), .val (.int v499), .val (.int v503), .val (.int v507), .unset, .unset, .unset, .unset, .unset, .unset, .unset, .unset, .unset, .unset, .unset, .unset, .unset, .unset, .unset, .unset, .unset, .unset]) rfl (q := 27) rfl ?_
    refine k_iload K X505 at_27 rfl (q := 29) rfl ?_
    refine k_staticP K X505 e506 at_29 (wd hw 0 rfl) (wd hw 1 rfl) (wd hw 2 rfl) (wd hw 3 rfl) (by decide) (rm1 l Z az hw [] p4 h0) (W := 0) (by decide) (by decide) (by decide) (by decide) rfl pd_0 (argsL := [(.int p4)]) (rest := []) rfl rfl rfl (Nat.le_of_eq rfl) (q := 32) rfl ?_
    intro T508 X509 e510
    obtain ⟨v511, hv_v511⟩ : ∃ z : Int32, (F_pick p4) = z := ⟨_, rfl⟩
    refine k_istore K X509 at_32 hv_v511 (Ls' := #[.val (.int p0), .val (.int p1), .val (.int p2), .val (.int p3), .val (.int p4), .val (.int p5), .val (.int (2 : Int32)), .val (.int v499), .val (.int v503), .val (.int v507), .val (.int v511), .unset, .unset, .unset, .unset, .unset, .unset, .unset, .unset, .unset, .unset, .unset, .unset, .unset, .unset, .unset, .unset, .unset]) rfl (q := 34) rfl ?_
    refine k_iload K X509 at_34 rfl (q := 36) rfl ?_
    refine k_staticP K X509 e510 at_36 (wd hw 0 rfl) (wd hw 1 rfl) (wd hw 2 rfl) (wd hw 3 rfl) (by decide) (rm1 l Z az hw [] p5 h0) (W := 0) (by decide) (by decide) (by decide) (by decide) rfl pd_0 (argsL := [(.int p5)]) (rest := []) rfl rfl rfl (Nat.le_of_eq rfl) (q := 39) rfl ?_
    intro T512 X513 e514
    obtain ⟨v515, hv_v515⟩ : ∃ z : Int32, (F_pick p5) = z := ⟨_, rfl⟩
    refine k_istore K X513 at_39 hv_v515 (Ls' := #[.val (.int p0), .val (.int p1), .val (.int p2), .val (.int p3), .val (.int p4), .val (.int p5), .val (.int (2 : Int32)), .val (.int v499), .val (.int v503), .val (.int v507), .val (.int v511), .val (.int v515), .unset, .unset, .unset, .unset, .unset, .unset, .unset, .unset, .unset, .unset, .unset, .unset, .unset, .unset, .unset, .unset]) rfl (q := 41) rfl ?_
    refine k_new K X513 e514 at_41 (wd hw 4 rfl) (wd hw 5 rfl) (wd hw 6 rfl) (by decide) (by decide) (q := 44) rfl ?_
    intro T516 h517 b518 X519 e520 g521 E522 A523 D524
    have ge525 : n0 ≤ b518 := Nat.le_trans Z0 (Nat.le_of_eq g521.symm)
    have bn526 : h0.size ≤ b518 := Nat.le_trans K0.1 (Nat.le_of_eq g521.symm)
    have K527 := Keep.ext K0 E522
    have Z528 := Nat.le_trans Z0 E522.1
    have f529 : Fld Z h517 b518 "com/example/wherefore/wherefore/instrument/Quotation" "depth" "I" (.int (0 : Int32)) := D524 (Or.inl (wd hw 19 rfl)) (ty := .int) (by decide)
    have f530 : Fld Z h517 b518 "com/example/wherefore/wherefore/instrument/Quotation" "straight" "Z" (.int (0 : Int32)) := D524 (Or.inl (wd hw 21 rfl)) (ty := .boolean) (by decide)
    refine k_dup K X519 at_44 rfl (q := 45) rfl ?_
    refine k_specialP K X519 e520 at_45 rfl (wd hw 7 rfl) (wd hw 8 rfl) (wd hw 6 rfl) (wd hw 9 rfl) (by decide) (rm2 l Z az hw [] b518 h517) (W := 1) (by decide) (by decide) (by decide) (by decide) rfl pd_1 (argsL := []) (rest := [(.ref b518)]) rfl rfl rfl (Nat.le_of_eq rfl) (q := 48) rfl ?_
    intro T531 X532 e533
    refine k_astore K X532 at_48 rfl (Ls' := #[.val (.int p0), .val (.int p1), .val (.int p2), .val (.int p3), .val (.int p4), .val (.int p5), .val (.int (2 : Int32)), .val (.int v499), .val (.int v503), .val (.int v507), .val (.int v511), .val (.int v515), .val (.ref b518), .unset, .unset, .unset, .unset, .unset, .unset, .unset, .unset, .unset, .unset, .unset, .unset, .unset, .unset, .unset]) rfl (q := 50) rfl ?_
    refine k_iload K X532 at_50 rfl (q := 52) rfl ?_
    refine k_if_le_n K X532 at_52 (by decide) (q := 55) rfl ?_
    refine k_aload K X532 at_55 rfl rfl (q := 57) rfl ?_
    refine k_iload K X532 at_57 rfl (q := 59) rfl ?_
    refine k_virtual K X532 e533 at_59 (wd hw 26 rfl) (wd hw 27 rfl) (wd hw 29 rfl) (wd hw 28 rfl) (wd hw 6 rfl) (wd hw 30 rfl) (by decide) A523 (rm6 l Z az hw [] b518 v499 (0 : Int32) (0 : Int32) h517 n0 Z528 f530 A523 ge525 f529) (W := 0) (by decide) (by decide) (by decide) (by decide) rfl pd_4 (argsL := [(.int v499)]) (rest := []) rfl rfl rfl (Nat.le_of_eq rfl) (q := 62) rfl ?_
    rintro _ T534 L535 X536 ⟨rfl, N537, K538, f540, f541⟩
    have f542 := Exa.keep A523 K538
    have N543 := Fr.app N0 N537
    have K544 := Keep.trans K527 K538 (allS (Or.inr bn526) all0)
    have Z545 := Nat.le_trans Z528 K538.1
    obtain ⟨v546, hv_v546⟩ : ∃ z : Int32, (F_read_a0_depth v499 (0 : Int32) (0 : Int32)) = z := ⟨_, rfl⟩
    rw [hv_v546] at f540
    obtain ⟨v547, hv_v547⟩ : ∃ z : Int32, (F_read_a0_straight v499 (0 : Int32) (0 : Int32)) = z := ⟨_, rfl⟩
    rw [hv_v547] at f541
    refine k_iload K X536 at_62 rfl (q := 64) rfl ?_
    refine k_iconst K X536 at_64 (v := (1 : Int32)) rfl (q := 65) rfl ?_
    refine k_icmp_le_n K X536 at_65 (by decide) (q := 68) rfl ?_
    refine k_aload K X536 at_68 rfl rfl (q := 70) rfl ?_
    refine k_iload K X536 at_70 rfl (q := 72) rfl ?_
    refine k_virtual K X536 rfl at_72 (wd hw 26 rfl) (wd hw 27 rfl) (wd hw 29 rfl) (wd hw 28 rfl) (wd hw 6 rfl) (wd hw 30 rfl) (by decide) f542 (rm6 l Z az hw [] b518 v503 v547 v546 T534.heap n0 Z545 f541 f542 ge525 f540) (W := 0) (by decide) (by decide) (by decide) (by decide) rfl pd_4 (argsL := [(.int v503)]) (rest := []) rfl rfl rfl (Nat.le_of_eq rfl) (q := 75) rfl ?_
    rintro _ T548 L549 X550 ⟨rfl, N551, K552, f554, f555⟩
    have f556 := Exa.keep f542 K552
    have N557 := Fr.app N543 N551
    have K558 := Keep.trans K544 K552 (allS (Or.inr bn526) all0)
    have Z559 := Nat.le_trans Z545 K552.1
    obtain ⟨v560, hv_v560⟩ : ∃ z : Int32, (F_read_a0_depth v503 v547 v546) = z := ⟨_, rfl⟩
    rw [hv_v560] at f554
    obtain ⟨v561, hv_v561⟩ : ∃ z : Int32, (F_read_a0_straight v503 v547 v546) = z := ⟨_, rfl⟩
    rw [hv_v561] at f555
    refine k_iload K X550 at_75 rfl (q := 77) rfl ?_
    refine k_iconst K X550 at_77 (v := (2 : Int32)) rfl (q := 78) rfl ?_
    refine k_icmp_le_y K X550 at_78 (by decide) (by decide) (q := 88) rfl ?_
    refine k_iload K X550 at_88 rfl (q := 90) rfl ?_
    refine k_iconst K X550 at_90 (v := (3 : Int32)) rfl (q := 91) rfl ?_
    refine k_icmp_le_y K X550 at_91 (by decide) (by decide) (q := 101) rfl ?_
    refine k_iload K X550 at_101 rfl (q := 103) rfl ?_
    refine k_iconst K X550 at_103 (v := (4 : Int32)) rfl (q := 104) rfl ?_
    refine k_icmp_le_y K X550 at_104 (by decide) (by decide) (q := 114) rfl ?_
    refine k_aload K X550 at_114 rfl rfl (q := 116) rfl ?_
    refine k_virtualP K X550 rfl at_116 (wd hw 13 rfl) (wd hw 14 rfl) (wd hw 16 rfl) (wd hw 15 rfl) (wd hw 6 rfl) (wd hw 17 rfl) (by decide) f556 (rm4 l Z az hw [] b518 v560 v561 T548.heap f554 f555) (W := 0) (by decide) (by decide) (by decide) (by decide) rfl pd_2 (argsL := []) (rest := []) rfl rfl rfl (Nat.le_of_eq rfl) (q := 119) rfl ?_
    intro T562 X563 e564
    obtain ⟨v565, hv_v565⟩ : ∃ z : Int32, (F_inside v560 v561) = z := ⟨_, rfl⟩
    refine k_istore K X563 at_119 hv_v565 (Ls' := #[.val (.int p0), .val (.int p1), .val (.int p2), .val (.int p3), .val (.int p4), .val (.int p5), .val (.int (2 : Int32)), .val (.int v499), .val (.int v503), .val (.int v507), .val (.int v511), .val (.int v515), .val (.ref b518), .val (.int v565), .unset, .unset, .unset, .unset, .unset, .unset, .unset, .unset, .unset, .unset, .unset, .unset, .unset, .unset]) rfl (q := 121) rfl ?_
    refine k_iload K X563 at_121 rfl (q := 123) rfl ?_
    refine k_if_le_n K X563 at_123 (by decide) (q := 126) rfl ?_
    refine k_iload K X563 at_126 rfl (q := 128) rfl ?_
    refine k_staticP K X563 e564 at_128 (wd hw 31 rfl) (wd hw 32 rfl) (wd hw 2 rfl) (wd hw 33 rfl) (by decide) (rm7 l Z az hw [] v499 T548.heap) (W := 0) (by decide) (by decide) (by decide) (by decide) rfl pd_5 (argsL := [(.int v499)]) (rest := []) rfl rfl rfl (Nat.le_of_eq rfl) (q := 131) rfl ?_
    intro T566 X567 e568
    refine k_goto K X567 at_131 (by decide) (q := 135) rfl ?_
    obtain ⟨v569, hv_v569⟩ : ∃ z : Int32, (F_delta v499) = z := ⟨_, rfl⟩
    refine k_istore K X567 at_135 hv_v569 (Ls' := #[.val (.int p0), .val (.int p1), .val (.int p2), .val (.int p3), .val (.int p4), .val (.int p5), .val (.int (2 : Int32)), .val (.int v499), .val (.int v503), .val (.int v507), .val (.int v511), .val (.int v515), .val (.ref b518), .val (.int v565), .val (.int v569), .unset, .unset, .unset, .unset, .unset, .unset, .unset, .unset, .unset, .unset, .unset, .unset, .unset]) rfl (q := 137) rfl ?_
    refine k_iload K X567 at_137 rfl (q := 139) rfl ?_
    refine k_iconst K X567 at_139 (v := (1 : Int32)) rfl (q := 140) rfl ?_
    refine k_icmp_le_n K X567 at_140 (by decide) (q := 143) rfl ?_
    refine k_iload K X567 at_143 rfl (q := 145) rfl ?_
    refine k_staticP K X567 e568 at_145 (wd hw 31 rfl) (wd hw 32 rfl) (wd hw 2 rfl) (wd hw 33 rfl) (by decide) (rm7 l Z az hw [] v503 T548.heap) (W := 0) (by decide) (by decide) (by decide) (by decide) rfl pd_5 (argsL := [(.int v503)]) (rest := []) rfl rfl rfl (Nat.le_of_eq rfl) (q := 148) rfl ?_
    intro T570 X571 e572
    refine k_goto K X571 at_148 (by decide) (q := 152) rfl ?_
    obtain ⟨v573, hv_v573⟩ : ∃ z : Int32, (F_delta v503) = z := ⟨_, rfl⟩
    refine k_istore K X571 at_152 hv_v573 (Ls' := #[.val (.int p0), .val (.int p1), .val (.int p2), .val (.int p3), .val (.int p4), .val (.int p5), .val (.int (2 : Int32)), .val (.int v499), .val (.int v503), .val (.int v507), .val (.int v511), .val (.int v515), .val (.ref b518), .val (.int v565), .val (.int v569), .val (.int v573), .unset, .unset, .unset, .unset, .unset, .unset, .unset, .unset, .unset, .unset, .unset, .unset]) rfl (q := 154) rfl ?_
    refine k_iload K X571 at_154 rfl (q := 156) rfl ?_
    refine k_iconst K X571 at_156 (v := (2 : Int32)) rfl (q := 157) rfl ?_
    refine k_icmp_le_y K X571 at_157 (by decide) (by decide) (q := 168) rfl ?_
    refine k_iconst K X571 at_168 (v := (0 : Int32)) rfl (q := 169) rfl ?_
    refine k_istore K X571 at_169 rfl (Ls' := #[.val (.int p0), .val (.int p1), .val (.int p2), .val (.int p3), .val (.int p4), .val (.int p5), .val (.int (2 : Int32)), .val (.int v499), .val (.int v503), .val (.int v507), .val (.int v511), .val (.int v515), .val (.ref b518), .val (.int v565), .val (.int v569), .val (.int v573), .val (.int (0 : Int32)), .unset, .unset, .unset, .unset, .unset, .unset, .unset, .unset, .unset, .unset, .unset]) rfl (q := 171) rfl ?_
    refine k_iload K X571 at_171 rfl (q := 173) rfl ?_
    refine k_iconst K X571 at_173 (v := (3 : Int32)) rfl (q := 174) rfl ?_
    refine k_icmp_le_y K X571 at_174 (by decide) (by decide) (q := 185) rfl ?_
    refine k_iconst K X571 at_185 (v := (0 : Int32)) rfl (q := 186) rfl ?_
    refine k_istore K X571 at_186 rfl (Ls' := #[.val (.int p0), .val (.int p1), .val (.int p2), .val (.int p3), .val (.int p4), .val (.int p5), .val (.int (2 : Int32)), .val (.int v499), .val (.int v503), .val (.int v507), .val (.int v511), .val (.int v515), .val (.ref b518), .val (.int v565), .val (.int v569), .val (.int v573), .val (.int (0 : Int32)), .val (.int (0 : Int32)), .unset, .unset, .unset, .unset, .unset, .unset, .unset, .unset, .unset, .unset]) rfl (q := 188) rfl ?_
    refine k_iload K X571 at_188 rfl (q := 190) rfl ?_
    refine k_iconst K X571 at_190 (v := (4 : Int32)) rfl (q := 191) rfl ?_
    refine k_icmp_le_y K X571 at_191 (by decide) (by decide) (q := 202) rfl ?_
    refine k_iconst K X571 at_202 (v := (0 : Int32)) rfl (q := 203) rfl ?_
    refine k_istore K X571 at_203 rfl (Ls' := #[.val (.int p0), .val (.int p1), .val (.int p2), .val (.int p3), .val (.int p4), .val (.int p5), .val (.int (2 : Int32)), .val (.int v499), .val (.int v503), .val (.int v507), .val (.int v511), .val (.int v515), .val (.ref b518), .val (.int v565), .val (.int v569), .val (.int v573), .val (.int (0 : Int32)), .val (.int (0 : Int32)), .val (.int (0 : Int32)), .unset, .unset, .unset, .unset, .unset, .unset, .unset, .unset, .unset]) rfl (q := 205) rfl ?_
    refine k_iload K X571 at_205 rfl (q := 207) rfl ?_
    refine k_istore K X571 at_207 rfl (Ls' := #[.val (.int p0), .val (.int p1), .val (.int p2), .val (.int p3), .val (.int p4), .val (.int p5), .val (.int (2 : Int32)), .val (.int v499), .val (.int v503), .val (.int v507), .val (.int v511), .val (.int v515), .val (.ref b518), .val (.int v565), .val (.int v569), .val (.int v573), .val (.int (0 : Int32)), .val (.int (0 : Int32)), .val (.int (0 : Int32)), .val (.int v569), .unset, .unset, .unset, .unset, .unset, .unset, .unset, .unset]) rfl (q := 209) rfl ?_
    refine k_iload K X571 at_209 rfl (q := 211) rfl ?_
    refine k_iload K X571 at_211 rfl (q := 213) rfl ?_
    refine k_iadd K X571 at_213 (q := 214) rfl ?_
    obtain ⟨v574, hv_v574⟩ : ∃ z : Int32, (v569 + v573) = z := ⟨_, rfl⟩
    refine k_istore K X571 at_214 hv_v574 (Ls' := #[.val (.int p0), .val (.int p1), .val (.int p2), .val (.int p3), .val (.int p4), .val (.int p5), .val (.int (2 : Int32)), .val (.int v499), .val (.int v503), .val (.int v507), .val (.int v511), .val (.int v515), .val (.ref b518), .val (.int v565), .val (.int v569), .val (.int v573), .val (.int (0 : Int32)), .val (.int (0 : Int32)), .val (.int (0 : Int32)), .val (.int v569), .val (.int v574), .unset, .unset, .unset, .unset, .unset, .unset, .unset]) rfl (q := 216) rfl ?_
    refine k_iload K X571 at_216 rfl (q := 218) rfl ?_
    refine k_iload K X571 at_218 rfl (q := 220) rfl ?_
    refine k_iadd K X571 at_220 (q := 221) rfl ?_
    obtain ⟨v575, hv_v575⟩ : ∃ z : Int32, (v574 + (0 : Int32)) = z := ⟨_, rfl⟩
    refine k_istore K X571 at_221 hv_v575 (Ls' := #[.val (.int p0), .val (.int p1), .val (.int p2), .val (.int p3), .val (.int p4), .val (.int p5), .val (.int (2 : Int32)), .val (.int v499), .val (.int v503), .val (.int v507), .val (.int v511), .val (.int v515), .val (.ref b518), .val (.int v565), .val (.int v569), .val (.int v573), .val (.int (0 : Int32)), .val (.int (0 : Int32)), .val (.int (0 : Int32)), .val (.int v569), .val (.int v574), .val (.int v575), .unset, .unset, .unset, .unset, .unset, .unset]) rfl (q := 223) rfl ?_
    refine k_iload K X571 at_223 rfl (q := 225) rfl ?_
    refine k_iload K X571 at_225 rfl (q := 227) rfl ?_
    refine k_iadd K X571 at_227 (q := 228) rfl ?_
    obtain ⟨v576, hv_v576⟩ : ∃ z : Int32, (v575 + (0 : Int32)) = z := ⟨_, rfl⟩
    refine k_istore K X571 at_228 hv_v576 (Ls' := #[.val (.int p0), .val (.int p1), .val (.int p2), .val (.int p3), .val (.int p4), .val (.int p5), .val (.int (2 : Int32)), .val (.int v499), .val (.int v503), .val (.int v507), .val (.int v511), .val (.int v515), .val (.ref b518), .val (.int v565), .val (.int v569), .val (.int v573), .val (.int (0 : Int32)), .val (.int (0 : Int32)), .val (.int (0 : Int32)), .val (.int v569), .val (.int v574), .val (.int v575), .val (.int v576), .unset, .unset, .unset, .unset, .unset]) rfl (q := 230) rfl ?_
    refine k_iload K X571 at_230 rfl (q := 232) rfl ?_
    refine k_iload K X571 at_232 rfl (q := 234) rfl ?_
    refine k_iadd K X571 at_234 (q := 235) rfl ?_
    obtain ⟨v577, hv_v577⟩ : ∃ z : Int32, (v576 + (0 : Int32)) = z := ⟨_, rfl⟩
    refine k_istore K X571 at_235 hv_v577 (Ls' := #[.val (.int p0), .val (.int p1), .val (.int p2), .val (.int p3), .val (.int p4), .val (.int p5), .val (.int (2 : Int32)), .val (.int v499), .val (.int v503), .val (.int v507), .val (.int v511), .val (.int v515), .val (.ref b518), .val (.int v565), .val (.int v569), .val (.int v573), .val (.int (0 : Int32)), .val (.int (0 : Int32)), .val (.int (0 : Int32)), .val (.int v569), .val (.int v574), .val (.int v575), .val (.int v576), .val (.int v577), .unset, .unset, .unset, .unset]) rfl (q := 237) rfl ?_
    refine k_iconst K X571 at_237 (v := (0 : Int32)) rfl (q := 238) rfl ?_
    refine k_iload K X571 at_238 rfl (q := 240) rfl ?_
    refine k_iload K X571 at_240 rfl (q := 242) rfl ?_
    refine k_iload K X571 at_242 rfl (q := 244) rfl ?_
    refine k_iload K X571 at_244 rfl (q := 246) rfl ?_
    refine k_iload K X571 at_246 rfl (q := 248) rfl ?_
    refine k_staticP K X571 e572 at_248 (wd hw 22 rfl) (wd hw 23 rfl) (wd hw 24 rfl) (wd hw 25 rfl) (by decide) (rm5 l Z az hw [] v576 v577 T548.heap) (W := 4) (by decide) (by decide) (by decide) (by decide) rfl pd_3 (argsL := [(.int v576), (.int v577)]) (rest := [(.int v575), (.int v574), (.int v569), (.int (0 : Int32))]) rfl rfl rfl (Nat.le_of_eq rfl) (q := 251) rfl ?_
    intro T578 X579 e580
    refine k_staticP K X579 e580 at_251 (wd hw 22 rfl) (wd hw 23 rfl) (wd hw 24 rfl) (wd hw 25 rfl) (by decide) (rm5 l Z az hw [] v575 (F_min v576 v577) T548.heap) (W := 3) (by decide) (by decide) (by decide) (by decide) rfl pd_3 (argsL := [(.int v575), (.int (F_min v576 v577))]) (rest := [(.int v574), (.int v569), (.int (0 : Int32))]) rfl rfl rfl (Nat.le_of_eq rfl) (q := 254) rfl ?_
    intro T581 X582 e583
    refine k_staticP K X582 e583 at_254 (wd hw 22 rfl) (wd hw 23 rfl) (wd hw 24 rfl) (wd hw 25 rfl) (by decide) (rm5 l Z az hw [] v574 (F_min v575 (F_min v576 v577)) T548.heap) (W := 2) (by decide) (by decide) (by decide) (by decide) rfl pd_3 (argsL := [(.int v574), (.int (F_min v575 (F_min v576 v577)))]) (rest := [(.int v569), (.int (0 : Int32))]) rfl rfl rfl (Nat.le_of_eq rfl) (q := 257) rfl ?_
    intro T584 X585 e586
    refine k_staticP K X585 e586 at_257 (wd hw 22 rfl) (wd hw 23 rfl) (wd hw 24 rfl) (wd hw 25 rfl) (by decide) (rm5 l Z az hw [] v569 (F_min v574 (F_min v575 (F_min v576 v577))) T548.heap) (W := 1) (by decide) (by decide) (by decide) (by decide) rfl pd_3 (argsL := [(.int v569), (.int (F_min v574 (F_min v575 (F_min v576 v577))))]) (rest := [(.int (0 : Int32))]) rfl rfl rfl (Nat.le_of_eq rfl) (q := 260) rfl ?_
    intro T587 X588 e589
    refine k_staticP K X588 e589 at_260 (wd hw 22 rfl) (wd hw 23 rfl) (wd hw 24 rfl) (wd hw 25 rfl) (by decide) (rm5 l Z az hw [] (0 : Int32) (F_min v569 (F_min v574 (F_min v575 (F_min v576 v577)))) T548.heap) (W := 0) (by decide) (by decide) (by decide) (by decide) rfl pd_3 (argsL := [(.int (0 : Int32)), (.int (F_min v569 (F_min v574 (F_min v575 (F_min v576 v577)))))]) (rest := []) rfl rfl rfl (Nat.le_of_eq rfl) (q := 263) rfl ?_
    intro T590 X591 e592
    obtain ⟨v593, hv_v593⟩ : ∃ z : Int32, (F_min (0 : Int32) (F_min v569 (F_min v574 (F_min v575 (F_min v576 v577))))) = z := ⟨_, rfl⟩
    refine k_istore K X591 at_263 hv_v593 (Ls' := #[.val (.int p0), .val (.int p1), .val (.int p2), .val (.int p3), .val (.int p4), .val (.int p5), .val (.int (2 : Int32)), .val (.int v499), .val (.int v503), .val (.int v507), .val (.int v511), .val (.int v515), .val (.ref b518), .val (.int v565), .val (.int v569), .val (.int v573), .val (.int (0 : Int32)), .val (.int (0 : Int32)), .val (.int (0 : Int32)), .val (.int v569), .val (.int v574), .val (.int v575), .val (.int v576), .val (.int v577), .val (.int v593), .unset, .unset, .unset]) rfl (q := 265) rfl ?_
    refine k_iload K X591 at_265 rfl (q := 267) rfl ?_
    refine k_iload K X591 at_267 rfl (q := 269) rfl ?_
    refine k_isub K X591 at_269 (q := 270) rfl ?_
    obtain ⟨v594, hv_v594⟩ : ∃ z : Int32, (v577 - v593) = z := ⟨_, rfl⟩
    refine k_istore K X591 at_270 hv_v594 (Ls' := #[.val (.int p0), .val (.int p1), .val (.int p2), .val (.int p3), .val (.int p4), .val (.int p5), .val (.int (2 : Int32)), .val (.int v499), .val (.int v503), .val (.int v507), .val (.int v511), .val (.int v515), .val (.ref b518), .val (.int v565), .val (.int v569), .val (.int v573), .val (.int (0 : Int32)), .val (.int (0 : Int32)), .val (.int (0 : Int32)), .val (.int v569), .val (.int v574), .val (.int v575), .val (.int v576), .val (.int v577), .val (.int v593), .val (.int v594), .unset, .unset]) rfl (q := 272) rfl ?_
    refine k_iload K X591 at_272 rfl (q := 274) rfl ?_
    refine k_if_le_n K X591 at_274 (by decide) (q := 277) rfl ?_
    refine k_iload K X591 at_277 rfl (q := 279) rfl ?_
    refine k_staticP K X591 e592 at_279 (wd hw 34 rfl) (wd hw 35 rfl) (wd hw 2 rfl) (wd hw 36 rfl) (by decide) (rm8 l Z az hw [] v499 T548.heap) (W := 0) (by decide) (by decide) (by decide) (by decide) rfl pd_5 (argsL := [(.int v499)]) (rest := []) rfl rfl rfl (Nat.le_of_eq rfl) (q := 282) rfl ?_
    intro T595 X596 e597
    refine k_goto K X596 at_282 (by decide) (q := 286) rfl ?_
    refine k_iload K X596 at_286 rfl (q := 288) rfl ?_
    refine k_iconst K X596 at_288 (v := (1 : Int32)) rfl (q := 289) rfl ?_
    refine k_icmp_le_n K X596 at_289 (by decide) (q := 292) rfl ?_
    refine k_iload K X596 at_292 rfl (q := 294) rfl ?_
    refine k_staticP K X596 e597 at_294 (wd hw 34 rfl) (wd hw 35 rfl) (wd hw 2 rfl) (wd hw 36 rfl) (by decide) (rm8 l Z az hw [] v503 T548.heap) (W := 1) (by decide) (by decide) (by decide) (by decide) rfl pd_5 (argsL := [(.int v503)]) (rest := [(.int (F_quote v499))]) rfl rfl rfl (Nat.le_of_eq rfl) (q := 297) rfl ?_
    intro T598 X599 e600
    refine k_goto K X599 at_297 (by decide) (q := 301) rfl ?_
    refine k_iadd K X599 at_301 (q := 302) rfl ?_
    refine k_iload K X599 at_302 rfl (q := 304) rfl ?_
    refine k_iconst K X599 at_304 (v := (2 : Int32)) rfl (q := 305) rfl ?_
    refine k_icmp_le_y K X599 at_305 (by decide) (by decide) (q := 316) rfl ?_
    refine k_iconst K X599 at_316 (v := (0 : Int32)) rfl (q := 317) rfl ?_
    refine k_iadd K X599 at_317 (q := 318) rfl ?_
    refine k_iload K X599 at_318 rfl (q := 320) rfl ?_
    refine k_iconst K X599 at_320 (v := (3 : Int32)) rfl (q := 321) rfl ?_
    refine k_icmp_le_y K X599 at_321 (by decide) (by decide) (q := 332) rfl ?_
    refine k_iconst K X599 at_332 (v := (0 : Int32)) rfl (q := 333) rfl ?_
    refine k_iadd K X599 at_333 (q := 334) rfl ?_
    refine k_iload K X599 at_334 rfl (q := 336) rfl ?_
    refine k_iconst K X599 at_336 (v := (4 : Int32)) rfl (q := 337) rfl ?_
    refine k_icmp_le_y K X599 at_337 (by decide) (by decide) (q := 348) rfl ?_
    refine k_iconst K X599 at_348 (v := (0 : Int32)) rfl (q := 349) rfl ?_
    refine k_iadd K X599 at_349 (q := 350) rfl ?_
    obtain ⟨v601, hv_v601⟩ : ∃ z : Int32, (((((F_quote v499) + (F_quote v503)) + (0 : Int32)) + (0 : Int32)) + (0 : Int32)) = z := ⟨_, rfl⟩
    refine k_istore K X599 at_350 hv_v601 (Ls' := #[.val (.int p0), .val (.int p1), .val (.int p2), .val (.int p3), .val (.int p4), .val (.int p5), .val (.int (2 : Int32)), .val (.int v499), .val (.int v503), .val (.int v507), .val (.int v511), .val (.int v515), .val (.ref b518), .val (.int v565), .val (.int v569), .val (.int v573), .val (.int (0 : Int32)), .val (.int (0 : Int32)), .val (.int (0 : Int32)), .val (.int v569), .val (.int v574), .val (.int v575), .val (.int v576), .val (.int v577), .val (.int v593), .val (.int v594), .val (.int v601), .unset]) rfl (q := 352) rfl ?_
    refine k_iload K X599 at_352 rfl (q := 354) rfl ?_
    have J605 : ∀ (d604 : Int32), (if (0 : Int32) < v594 then (1 : Int32) else (if (v601 &&& (1 : Int32)) = (0 : Int32) then (0 : Int32) else (1 : Int32))) = d604 → Run p e below s kc kn Q T598 (mkF m 369 #[.val (.int p0), .val (.int p1), .val (.int p2), .val (.int p3), .val (.int p4), .val (.int p5), .val (.int (2 : Int32)), .val (.int v499), .val (.int v503), .val (.int v507), .val (.int v511), .val (.int v515), .val (.ref b518), .val (.int v565), .val (.int v569), .val (.int v573), .val (.int (0 : Int32)), .val (.int (0 : Int32)), .val (.int (0 : Int32)), .val (.int v569), .val (.int v574), .val (.int v575), .val (.int v576), .val (.int v577), .val (.int v593), .val (.int v594), .val (.int v601), .unset] [(.int d604)]) := by
      intro d604 hv_d604
      refine k_istore K X599 at_369 rfl (Ls' := #[.val (.int p0), .val (.int p1), .val (.int p2), .val (.int p3), .val (.int p4), .val (.int p5), .val (.int (2 : Int32)), .val (.int v499), .val (.int v503), .val (.int v507), .val (.int v511), .val (.int v515), .val (.ref b518), .val (.int v565), .val (.int v569), .val (.int v573), .val (.int (0 : Int32)), .val (.int (0 : Int32)), .val (.int (0 : Int32)), .val (.int v569), .val (.int v574), .val (.int v575), .val (.int v576), .val (.int v577), .val (.int v593), .val (.int v594), .val (.int v601), .val (.int d604)]) rfl (q := 371) rfl ?_
      refine k_iload K X599 at_371 rfl (q := 373) rfl ?_
      refine k_iload K X599 at_373 rfl (q := 375) rfl ?_
      have J608 : ∀ (d607 : Int32), (if v565 = d604 then (1 : Int32) else (0 : Int32)) = d607 → Run p e below s kc kn Q T598 (mkF m 383 #[.val (.int p0), .val (.int p1), .val (.int p2), .val (.int p3), .val (.int p4), .val (.int p5), .val (.int (2 : Int32)), .val (.int v499), .val (.int v503), .val (.int v507), .val (.int v511), .val (.int v515), .val (.ref b518), .val (.int v565), .val (.int v569), .val (.int v573), .val (.int (0 : Int32)), .val (.int (0 : Int32)), .val (.int (0 : Int32)), .val (.int v569), .val (.int v574), .val (.int v575), .val (.int v576), .val (.int v577), .val (.int v593), .val (.int v594), .val (.int v601), .val (.int d604)] [(.int d607)]) := by
        intro d607 hv_d607
        exact k_retz K X599 e600 at_383 (Nat.le_trans (by decide) hkc) (Nat.le_trans (by decide) hkn) (hQ _ _ _ ⟨(by show some (Value.int (nar .boolean d607)) = some (Value.int (F_law p0 p1 p2 p3 p4 p5)); simp only [F_law, hv_v336, hv_v499, hv_v503, hv_v507, hv_v511, hv_v515, hv_v546, hv_v547, hv_v560, hv_v561, hv_v565, hv_v569, hv_v573, hv_v574, hv_v575, hv_v576, hv_v577, hv_v593, hv_v594, hv_v601, hv_d604, hv_d607, if_neg hs337, if_neg hs399, if_pos (rfl : (2 : Int32) = (2 : Int32)), if_true]), N557⟩)
      refine k_icmp_ne K X599 at_375 (by decide) (q := 382) rfl (q' := 378) rfl ?_ ?_
      · intro hc609
        refine k_iconst K X599 at_382 (v := (0 : Int32)) rfl (q := 383) rfl ?_
        exact J608 _ (by first | rfl | (simp only [if_neg hc609]))
      · intro hc609
        refine k_iconst K X599 at_378 (v := (1 : Int32)) rfl (q := 379) rfl ?_
        refine k_goto K X599 at_379 (by decide) (q := 383) rfl ?_
        exact J608 _ (by first | rfl | (simp only [if_pos hc609]))
    refine k_if_gt K X599 at_354 (by decide) (q := 364) rfl (q' := 357) rfl ?_ ?_
    · intro hc610
      refine k_iconst K X599 at_364 (v := (1 : Int32)) rfl (q := 365) rfl ?_
      refine k_goto K X599 at_365 (by decide) (q := 369) rfl ?_
      exact J605 _ (by first | rfl | (simp only [if_pos hc610]))
    · intro hc610
      refine k_iload K X599 at_357 rfl (q := 359) rfl ?_
      refine k_iconst K X599 at_359 (v := (1 : Int32)) rfl (q := 360) rfl ?_
      refine k_iand K X599 at_360 (q := 361) rfl ?_
      refine k_if_eq K X599 at_361 (by decide) (q := 368) rfl (q' := 364) rfl ?_ ?_
      · intro hc611
        refine k_iconst K X599 at_368 (v := (0 : Int32)) rfl (q := 369) rfl ?_
        exact J605 _ (by first | rfl | (simp only [if_neg hc610, if_pos hc611]))
      · intro hc611
        refine k_iconst K X599 at_364 (v := (1 : Int32)) rfl (q := 365) rfl ?_
        refine k_goto K X599 at_365 (by decide) (q := 369) rfl ?_
        exact J605 _ (by first | rfl | (simp only [if_neg hc610, if_neg hc611]))
  by_cases hs612 : v336 = (3 : Int32)
  · subst hs612
    refine k_iloadN K X0 at_9 rfl (q := 10) rfl ?_
    refine k_staticP K X0 e0 at_10 (wd hw 0 rfl) (wd hw 1 rfl) (wd hw 2 rfl) (wd hw 3 rfl) (by decide) (rm1 l Z az hw [] p1 h0) (W := 0) (by decide) (by decide) (by decide) (by decide) rfl pd_0 (argsL := [(.int p1)]) (rest := []) rfl rfl rfl (Nat.le_of_eq rfl) (q := 13) rfl ?_
    intro T613 X614 e615
    obtain ⟨v616, hv_v616⟩ : ∃ z : Int32, (F_pick p1) = z := ⟨_, rfl⟩
    refine k_istore K X614 at_13 hv_v616 (Ls' := #[.val (.int p0), .val (.int p1), .val (.int p2), .val (.int p3), .val (.int p4), .val (.int p5), .val (.int (3 : Int32)), .val (.int v616), .unset, .unset, .unset, .unset, .unset, .unset, .unset, .unset, .unset, .unset, .unset, .unset, .unset, .unset, .unset, .unset, .unset, .unset, .unset, .unset]) rfl (q := 15) rfl ?_
    refine k_iloadN K X614 at_15 rfl (q := 16) rfl ?_
    refine k_staticP K X614 e615 at_16 (wd hw 0 rfl) (wd hw 1 rfl) (wd hw 2 rfl) (wd hw 3 rfl) (by decide) (rm1 l Z az hw [] p2 h0) (W := 0) (by decide) (by decide) (by decide) (by decide) rfl pd_0 (argsL := [(.int p2)]) (rest := []) rfl rfl rfl (Nat.le_of_eq rfl) (q := 19) rfl ?_
    intro T617 X618 e619
    obtain ⟨v620, hv_v620⟩ : ∃ z : Int32, (F_pick p2) = z := ⟨_, rfl⟩
    refine k_istore K X618 at_19 hv_v620 (Ls' := #[.val (.int p0), .val (.int p1), .val (.int p2), .val (.int p3), .val (.int p4), .val (.int p5), .val (.int (3 : Int32)), .val (.int v616), .val (.int v620), .unset, .unset, .unset, .unset, .unset, .unset, .unset, .unset, .unset, .unset, .unset, .unset, .unset, .unset, .unset, .unset, .unset, .unset, .unset]) rfl (q := 21) rfl ?_
    refine k_iloadN K X618 at_21 rfl (q := 22) rfl ?_
    refine k_staticP K X618 e619 at_22 (wd hw 0 rfl) (wd hw 1 rfl) (wd hw 2 rfl) (wd hw 3 rfl) (by decide) (rm1 l Z az hw [] p3 h0) (W := 0) (by decide) (by decide) (by decide) (by decide) rfl pd_0 (argsL := [(.int p3)]) (rest := []) rfl rfl rfl (Nat.le_of_eq rfl) (q := 25) rfl ?_
    intro T621 X622 e623
    obtain ⟨v624, hv_v624⟩ : ∃ z : Int32, (F_pick p3) = z := ⟨_, rfl⟩
    refine k_istore K X622 at_25 hv_v624 (Ls' := #[.val (.int p0), .val (.int p1), .val (.int p2), .val (.int p3), .val (.int p4), .val (.int p5), .val (.int (3 : Int32)), .val (.int v616), .val (.int v620), .val (.int v624), .unset, .unset, .unset, .unset, .unset, .unset, .unset, .unset, .unset, .unset, .unset, .unset, .unset, .unset, .unset, .unset, .unset, .unset]) rfl (q := 27) rfl ?_
    refine k_iload K X622 at_27 rfl (q := 29) rfl ?_
    refine k_staticP K X622 e623 at_29 (wd hw 0 rfl) (wd hw 1 rfl) (wd hw 2 rfl) (wd hw 3 rfl) (by decide) (rm1 l Z az hw [] p4 h0) (W := 0) (by decide) (by decide) (by decide) (by decide) rfl pd_0 (argsL := [(.int p4)]) (rest := []) rfl rfl rfl (Nat.le_of_eq rfl) (q := 32) rfl ?_
    intro T625 X626 e627
    obtain ⟨v628, hv_v628⟩ : ∃ z : Int32, (F_pick p4) = z := ⟨_, rfl⟩
    refine k_istore K X626 at_32 hv_v628 (Ls' := #[.val (.int p0), .val (.int p1), .val (.int p2), .val (.int p3), .val (.int p4), .val (.int p5), .val (.int (3 : Int32)), .val (.int v616), .val (.int v620), .val (.int v624), .val (.int v628), .unset, .unset, .unset, .unset, .unset, .unset, .unset, .unset, .unset, .unset, .unset, .unset, .unset, .unset, .unset, .unset, .unset]) rfl (q := 34) rfl ?_
    refine k_iload K X626 at_34 rfl (q := 36) rfl ?_
    refine k_staticP K X626 e627 at_36 (wd hw 0 rfl) (wd hw 1 rfl) (wd hw 2 rfl) (wd hw 3 rfl) (by decide) (rm1 l Z az hw [] p5 h0) (W := 0) (by decide) (by decide) (by decide) (by decide) rfl pd_0 (argsL := [(.int p5)]) (rest := []) rfl rfl rfl (Nat.le_of_eq rfl) (q := 39) rfl ?_
    intro T629 X630 e631
    obtain ⟨v632, hv_v632⟩ : ∃ z : Int32, (F_pick p5) = z := ⟨_, rfl⟩
    refine k_istore K X630 at_39 hv_v632 (Ls' := #[.val (.int p0), .val (.int p1), .val (.int p2), .val (.int p3), .val (.int p4), .val (.int p5), .val (.int (3 : Int32)), .val (.int v616), .val (.int v620), .val (.int v624), .val (.int v628), .val (.int v632), .unset, .unset, .unset, .unset, .unset, .unset, .unset, .unset, .unset, .unset, .unset, .unset, .unset, .unset, .unset, .unset]) rfl (q := 41) rfl ?_
    refine k_new K X630 e631 at_41 (wd hw 4 rfl) (wd hw 5 rfl) (wd hw 6 rfl) (by decide) (by decide) (q := 44) rfl ?_
    intro T633 h634 b635 X636 e637 g638 E639 A640 D641
    have ge642 : n0 ≤ b635 := Nat.le_trans Z0 (Nat.le_of_eq g638.symm)
    have bn643 : h0.size ≤ b635 := Nat.le_trans K0.1 (Nat.le_of_eq g638.symm)
    have K644 := Keep.ext K0 E639
    have Z645 := Nat.le_trans Z0 E639.1
    have f646 : Fld Z h634 b635 "com/example/wherefore/wherefore/instrument/Quotation" "depth" "I" (.int (0 : Int32)) := D641 (Or.inl (wd hw 19 rfl)) (ty := .int) (by decide)
    have f647 : Fld Z h634 b635 "com/example/wherefore/wherefore/instrument/Quotation" "straight" "Z" (.int (0 : Int32)) := D641 (Or.inl (wd hw 21 rfl)) (ty := .boolean) (by decide)
    refine k_dup K X636 at_44 rfl (q := 45) rfl ?_
    refine k_specialP K X636 e637 at_45 rfl (wd hw 7 rfl) (wd hw 8 rfl) (wd hw 6 rfl) (wd hw 9 rfl) (by decide) (rm2 l Z az hw [] b635 h634) (W := 1) (by decide) (by decide) (by decide) (by decide) rfl pd_1 (argsL := []) (rest := [(.ref b635)]) rfl rfl rfl (Nat.le_of_eq rfl) (q := 48) rfl ?_
    intro T648 X649 e650
    refine k_astore K X649 at_48 rfl (Ls' := #[.val (.int p0), .val (.int p1), .val (.int p2), .val (.int p3), .val (.int p4), .val (.int p5), .val (.int (3 : Int32)), .val (.int v616), .val (.int v620), .val (.int v624), .val (.int v628), .val (.int v632), .val (.ref b635), .unset, .unset, .unset, .unset, .unset, .unset, .unset, .unset, .unset, .unset, .unset, .unset, .unset, .unset, .unset]) rfl (q := 50) rfl ?_
    refine k_iload K X649 at_50 rfl (q := 52) rfl ?_
    refine k_if_le_n K X649 at_52 (by decide) (q := 55) rfl ?_
    refine k_aload K X649 at_55 rfl rfl (q := 57) rfl ?_
    refine k_iload K X649 at_57 rfl (q := 59) rfl ?_
    refine k_virtual K X649 e650 at_59 (wd hw 26 rfl) (wd hw 27 rfl) (wd hw 29 rfl) (wd hw 28 rfl) (wd hw 6 rfl) (wd hw 30 rfl) (by decide) A640 (rm6 l Z az hw [] b635 v616 (0 : Int32) (0 : Int32) h634 n0 Z645 f647 A640 ge642 f646) (W := 0) (by decide) (by decide) (by decide) (by decide) rfl pd_4 (argsL := [(.int v616)]) (rest := []) rfl rfl rfl (Nat.le_of_eq rfl) (q := 62) rfl ?_
    rintro _ T651 L652 X653 ⟨rfl, N654, K655, f657, f658⟩
    have f659 := Exa.keep A640 K655
    have N660 := Fr.app N0 N654
    have K661 := Keep.trans K644 K655 (allS (Or.inr bn643) all0)
    have Z662 := Nat.le_trans Z645 K655.1
    obtain ⟨v663, hv_v663⟩ : ∃ z : Int32, (F_read_a0_depth v616 (0 : Int32) (0 : Int32)) = z := ⟨_, rfl⟩
    rw [hv_v663] at f657
    obtain ⟨v664, hv_v664⟩ : ∃ z : Int32, (F_read_a0_straight v616 (0 : Int32) (0 : Int32)) = z := ⟨_, rfl⟩
    rw [hv_v664] at f658
    refine k_iload K X653 at_62 rfl (q := 64) rfl ?_
    refine k_iconst K X653 at_64 (v := (1 : Int32)) rfl (q := 65) rfl ?_
    refine k_icmp_le_n K X653 at_65 (by decide) (q := 68) rfl ?_
    refine k_aload K X653 at_68 rfl rfl (q := 70) rfl ?_
    refine k_iload K X653 at_70 rfl (q := 72) rfl ?_
    refine k_virtual K X653 rfl at_72 (wd hw 26 rfl) (wd hw 27 rfl) (wd hw 29 rfl) (wd hw 28 rfl) (wd hw 6 rfl) (wd hw 30 rfl) (by decide) f659 (rm6 l Z az hw [] b635 v620 v664 v663 T651.heap n0 Z662 f658 f659 ge642 f657) (W := 0) (by decide) (by decide) (by decide) (by decide) rfl pd_4 (argsL := [(.int v620)]) (rest := []) rfl rfl rfl (Nat.le_of_eq rfl) (q := 75) rfl ?_
    rintro _ T665 L666 X667 ⟨rfl, N668, K669, f671, f672⟩
    have f673 := Exa.keep f659 K669
    have N674 := Fr.app N660 N668
    have K675 := Keep.trans K661 K669 (allS (Or.inr bn643) all0)
    have Z676 := Nat.le_trans Z662 K669.1
    obtain ⟨v677, hv_v677⟩ : ∃ z : Int32, (F_read_a0_depth v620 v664 v663) = z := ⟨_, rfl⟩
    rw [hv_v677] at f671
    obtain ⟨v678, hv_v678⟩ : ∃ z : Int32, (F_read_a0_straight v620 v664 v663) = z := ⟨_, rfl⟩
    rw [hv_v678] at f672
    refine k_iload K X667 at_75 rfl (q := 77) rfl ?_
    refine k_iconst K X667 at_77 (v := (2 : Int32)) rfl (q := 78) rfl ?_
    refine k_icmp_le_n K X667 at_78 (by decide) (q := 81) rfl ?_
    refine k_aload K X667 at_81 rfl rfl (q := 83) rfl ?_
    refine k_iload K X667 at_83 rfl (q := 85) rfl ?_
    refine k_virtual K X667 rfl at_85 (wd hw 26 rfl) (wd hw 27 rfl) (wd hw 29 rfl) (wd hw 28 rfl) (wd hw 6 rfl) (wd hw 30 rfl) (by decide) f673 (rm6 l Z az hw [] b635 v624 v678 v677 T665.heap n0 Z676 f672 f673 ge642 f671) (W := 0) (by decide) (by decide) (by decide) (by decide) rfl pd_4 (argsL := [(.int v624)]) (rest := []) rfl rfl rfl (Nat.le_of_eq rfl) (q := 88) rfl ?_
    rintro _ T679 L680 X681 ⟨rfl, N682, K683, f685, f686⟩
    have f687 := Exa.keep f673 K683
    have N688 := Fr.app N674 N682
    have K689 := Keep.trans K675 K683 (allS (Or.inr bn643) all0)
    have Z690 := Nat.le_trans Z676 K683.1
    obtain ⟨v691, hv_v691⟩ : ∃ z : Int32, (F_read_a0_depth v624 v678 v677) = z := ⟨_, rfl⟩
    rw [hv_v691] at f685
    obtain ⟨v692, hv_v692⟩ : ∃ z : Int32, (F_read_a0_straight v624 v678 v677) = z := ⟨_, rfl⟩
    rw [hv_v692] at f686
    refine k_iload K X681 at_88 rfl (q := 90) rfl ?_
    refine k_iconst K X681 at_90 (v := (3 : Int32)) rfl (q := 91) rfl ?_
    refine k_icmp_le_y K X681 at_91 (by decide) (by decide) (q := 101) rfl ?_
    refine k_iload K X681 at_101 rfl (q := 103) rfl ?_
    refine k_iconst K X681 at_103 (v := (4 : Int32)) rfl (q := 104) rfl ?_
    refine k_icmp_le_y K X681 at_104 (by decide) (by decide) (q := 114) rfl ?_
    refine k_aload K X681 at_114 rfl rfl (q := 116) rfl ?_
    refine k_virtualP K X681 rfl at_116 (wd hw 13 rfl) (wd hw 14 rfl) (wd hw 16 rfl) (wd hw 15 rfl) (wd hw 6 rfl) (wd hw 17 rfl) (by decide) f687 (rm4 l Z az hw [] b635 v691 v692 T679.heap f685 f686) (W := 0) (by decide) (by decide) (by decide) (by decide) rfl pd_2 (argsL := []) (rest := []) rfl rfl rfl (Nat.le_of_eq rfl) (q := 119) rfl ?_
    intro T693 X694 e695
    obtain ⟨v696, hv_v696⟩ : ∃ z : Int32, (F_inside v691 v692) = z := ⟨_, rfl⟩
    refine k_istore K X694 at_119 hv_v696 (Ls' := #[.val (.int p0), .val (.int p1), .val (.int p2), .val (.int p3), .val (.int p4), .val (.int p5), .val (.int (3 : Int32)), .val (.int v616), .val (.int v620), .val (.int v624), .val (.int v628), .val (.int v632), .val (.ref b635), .val (.int v696), .unset, .unset, .unset, .unset, .unset, .unset, .unset, .unset, .unset, .unset, .unset, .unset, .unset, .unset]) rfl (q := 121) rfl ?_
    refine k_iload K X694 at_121 rfl (q := 123) rfl ?_
    refine k_if_le_n K X694 at_123 (by decide) (q := 126) rfl ?_
    refine k_iload K X694 at_126 rfl (q := 128) rfl ?_
    refine k_staticP K X694 e695 at_128 (wd hw 31 rfl) (wd hw 32 rfl) (wd hw 2 rfl) (wd hw 33 rfl) (by decide) (rm7 l Z az hw [] v616 T679.heap) (W := 0) (by decide) (by decide) (by decide) (by decide) rfl pd_5 (argsL := [(.int v616)]) (rest := []) rfl rfl rfl (Nat.le_of_eq rfl) (q := 131) rfl ?_
    intro T697 X698 e699
    refine k_goto K X698 at_131 (by decide) (q := 135) rfl ?_
    obtain ⟨v700, hv_v700⟩ : ∃ z : Int32, (F_delta v616) = z := ⟨_, rfl⟩
    refine k_istore K X698 at_135 hv_v700 (Ls' := #[.val (.int p0), .val (.int p1), .val (.int p2), .val (.int p3), .val (.int p4), .val (.int p5), .val (.int (3 : Int32)), .val (.int v616), .val (.int v620), .val (.int v624), .val (.int v628), .val (.int v632), .val (.ref b635), .val (.int v696), .val (.int v700), .unset, .unset, .unset, .unset, .unset, .unset, .unset, .unset, .unset, .unset, .unset, .unset, .unset]) rfl (q := 137) rfl ?_
    refine k_iload K X698 at_137 rfl (q := 139) rfl ?_
    refine k_iconst K X698 at_139 (v := (1 : Int32)) rfl (q := 140) rfl ?_
    refine k_icmp_le_n K X698 at_140 (by decide) (q := 143) rfl ?_
    refine k_iload K X698 at_143 rfl (q := 145) rfl ?_
    refine k_staticP K X698 e699 at_145 (wd hw 31 rfl) (wd hw 32 rfl) (wd hw 2 rfl) (wd hw 33 rfl) (by decide) (rm7 l Z az hw [] v620 T679.heap) (W := 0) (by decide) (by decide) (by decide) (by decide) rfl pd_5 (argsL := [(.int v620)]) (rest := []) rfl rfl rfl (Nat.le_of_eq rfl) (q := 148) rfl ?_
    intro T701 X702 e703
    refine k_goto K X702 at_148 (by decide) (q := 152) rfl ?_
    obtain ⟨v704, hv_v704⟩ : ∃ z : Int32, (F_delta v620) = z := ⟨_, rfl⟩
    refine k_istore K X702 at_152 hv_v704 (Ls' := #[.val (.int p0), .val (.int p1), .val (.int p2), .val (.int p3), .val (.int p4), .val (.int p5), .val (.int (3 : Int32)), .val (.int v616), .val (.int v620), .val (.int v624), .val (.int v628), .val (.int v632), .val (.ref b635), .val (.int v696), .val (.int v700), .val (.int v704), .unset, .unset, .unset, .unset, .unset, .unset, .unset, .unset, .unset, .unset, .unset, .unset]) rfl (q := 154) rfl ?_
    refine k_iload K X702 at_154 rfl (q := 156) rfl ?_
    refine k_iconst K X702 at_156 (v := (2 : Int32)) rfl (q := 157) rfl ?_
    refine k_icmp_le_n K X702 at_157 (by decide) (q := 160) rfl ?_
    refine k_iload K X702 at_160 rfl (q := 162) rfl ?_
    refine k_staticP K X702 e703 at_162 (wd hw 31 rfl) (wd hw 32 rfl) (wd hw 2 rfl) (wd hw 33 rfl) (by decide) (rm7 l Z az hw [] v624 T679.heap) (W := 0) (by decide) (by decide) (by decide) (by decide) rfl pd_5 (argsL := [(.int v624)]) (rest := []) rfl rfl rfl (Nat.le_of_eq rfl) (q := 165) rfl ?_
    intro T705 X706 e707
    refine k_goto K X706 at_165 (by decide) (q := 169) rfl ?_
    obtain ⟨v708, hv_v708⟩ : ∃ z : Int32, (F_delta v624) = z := ⟨_, rfl⟩
    refine k_istore K X706 at_169 hv_v708 (Ls' := #[.val (.int p0), .val (.int p1), .val (.int p2), .val (.int p3), .val (.int p4), .val (.int p5), .val (.int (3 : Int32)), .val (.int v616), .val (.int v620), .val (.int v624), .val (.int v628), .val (.int v632), .val (.ref b635), .val (.int v696), .val (.int v700), .val (.int v704), .val (.int v708), .unset, .unset, .unset, .unset, .unset, .unset, .unset, .unset, .unset, .unset, .unset]) rfl (q := 171) rfl ?_
    refine k_iload K X706 at_171 rfl (q := 173) rfl ?_
    refine k_iconst K X706 at_173 (v := (3 : Int32)) rfl (q := 174) rfl ?_
    refine k_icmp_le_y K X706 at_174 (by decide) (by decide) (q := 185) rfl ?_
    refine k_iconst K X706 at_185 (v := (0 : Int32)) rfl (q := 186) rfl ?_
    refine k_istore K X706 at_186 rfl (Ls' := #[.val (.int p0), .val (.int p1), .val (.int p2), .val (.int p3), .val (.int p4), .val (.int p5), .val (.int (3 : Int32)), .val (.int v616), .val (.int v620), .val (.int v624), .val (.int v628), .val (.int v632), .val (.ref b635), .val (.int v696), .val (.int v700), .val (.int v704), .val (.int v708), .val (.int (0 : Int32)), .unset, .unset, .unset, .unset, .unset, .unset, .unset, .unset, .unset, .unset]) rfl (q := 188) rfl ?_
    refine k_iload K X706 at_188 rfl (q := 190) rfl ?_
    refine k_iconst K X706 at_190 (v := (4 : Int32)) rfl (q := 191) rfl ?_
    refine k_icmp_le_y K X706 at_191 (by decide) (by decide) (q := 202) rfl ?_
    refine k_iconst K X706 at_202 (v := (0 : Int32)) rfl (q := 203) rfl ?_
    refine k_istore K X706 at_203 rfl (Ls' := #[.val (.int p0), .val (.int p1), .val (.int p2), .val (.int p3), .val (.int p4), .val (.int p5), .val (.int (3 : Int32)), .val (.int v616), .val (.int v620), .val (.int v624), .val (.int v628), .val (.int v632), .val (.ref b635), .val (.int v696), .val (.int v700), .val (.int v704), .val (.int v708), .val (.int (0 : Int32)), .val (.int (0 : Int32)), .unset, .unset, .unset, .unset, .unset, .unset, .unset, .unset, .unset]) rfl (q := 205) rfl ?_
    refine k_iload K X706 at_205 rfl (q := 207) rfl ?_
    refine k_istore K X706 at_207 rfl (Ls' := #[.val (.int p0), .val (.int p1), .val (.int p2), .val (.int p3), .val (.int p4), .val (.int p5), .val (.int (3 : Int32)), .val (.int v616), .val (.int v620), .val (.int v624), .val (.int v628), .val (.int v632), .val (.ref b635), .val (.int v696), .val (.int v700), .val (.int v704), .val (.int v708), .val (.int (0 : Int32)), .val (.int (0 : Int32)), .val (.int v700), .unset, .unset, .unset, .unset, .unset, .unset, .unset, .unset]) rfl (q := 209) rfl ?_
    refine k_iload K X706 at_209 rfl (q := 211) rfl ?_
    refine k_iload K X706 at_211 rfl (q := 213) rfl ?_
    refine k_iadd K X706 at_213 (q := 214) rfl ?_
    obtain ⟨v709, hv_v709⟩ : ∃ z : Int32, (v700 + v704) = z := ⟨_, rfl⟩
    refine k_istore K X706 at_214 hv_v709 (Ls' := #[.val (.int p0), .val (.int p1), .val (.int p2), .val (.int p3), .val (.int p4), .val (.int p5), .val (.int (3 : Int32)), .val (.int v616), .val (.int v620), .val (.int v624), .val (.int v628), .val (.int v632), .val (.ref b635), .val (.int v696), .val (.int v700), .val (.int v704), .val (.int v708), .val (.int (0 : Int32)), .val (.int (0 : Int32)), .val (.int v700), .val (.int v709), .unset, .unset, .unset, .unset, .unset, .unset, .unset]) rfl (q := 216) rfl ?_
    refine k_iload K X706 at_216 rfl (q := 218) rfl ?_
    refine k_iload K X706 at_218 rfl (q := 220) rfl ?_
    refine k_iadd K X706 at_220 (q := 221) rfl ?_
    obtain ⟨v710, hv_v710⟩ : ∃ z : Int32, (v709 + v708) = z := ⟨_, rfl⟩
    refine k_istore K X706 at_221 hv_v710 (Ls' := #[.val (.int p0), .val (.int p1), .val (.int p2), .val (.int p3), .val (.int p4), .val (.int p5), .val (.int (3 : Int32)), .val (.int v616), .val (.int v620), .val (.int v624), .val (.int v628), .val (.int v632), .val (.ref b635), .val (.int v696), .val (.int v700), .val (.int v704), .val (.int v708), .val (.int (0 : Int32)), .val (.int (0 : Int32)), .val (.int v700), .val (.int v709), .val (.int v710), .unset, .unset, .unset, .unset, .unset, .unset]) rfl (q := 223) rfl ?_
    refine k_iload K X706 at_223 rfl (q := 225) rfl ?_
    refine k_iload K X706 at_225 rfl (q := 227) rfl ?_
    refine k_iadd K X706 at_227 (q := 228) rfl ?_
    obtain ⟨v711, hv_v711⟩ : ∃ z : Int32, (v710 + (0 : Int32)) = z := ⟨_, rfl⟩
    refine k_istore K X706 at_228 hv_v711 (Ls' := #[.val (.int p0), .val (.int p1), .val (.int p2), .val (.int p3), .val (.int p4), .val (.int p5), .val (.int (3 : Int32)), .val (.int v616), .val (.int v620), .val (.int v624), .val (.int v628), .val (.int v632), .val (.ref b635), .val (.int v696), .val (.int v700), .val (.int v704), .val (.int v708), .val (.int (0 : Int32)), .val (.int (0 : Int32)), .val (.int v700), .val (.int v709), .val (.int v710), .val (.int v711), .unset, .unset, .unset, .unset, .unset]) rfl (q := 230) rfl ?_
    refine k_iload K X706 at_230 rfl (q := 232) rfl ?_
    refine k_iload K X706 at_232 rfl (q := 234) rfl ?_
    refine k_iadd K X706 at_234 (q := 235) rfl ?_
    obtain ⟨v712, hv_v712⟩ : ∃ z : Int32, (v711 + (0 : Int32)) = z := ⟨_, rfl⟩
    refine k_istore K X706 at_235 hv_v712 (Ls' := #[.val (.int p0), .val (.int p1), .val (.int p2), .val (.int p3), .val (.int p4), .val (.int p5), .val (.int (3 : Int32)), .val (.int v616), .val (.int v620), .val (.int v624), .val (.int v628), .val (.int v632), .val (.ref b635), .val (.int v696), .val (.int v700), .val (.int v704), .val (.int v708), .val (.int (0 : Int32)), .val (.int (0 : Int32)), .val (.int v700), .val (.int v709), .val (.int v710), .val (.int v711), .val (.int v712), .unset, .unset, .unset, .unset]) rfl (q := 237) rfl ?_
    refine k_iconst K X706 at_237 (v := (0 : Int32)) rfl (q := 238) rfl ?_
    refine k_iload K X706 at_238 rfl (q := 240) rfl ?_
    refine k_iload K X706 at_240 rfl (q := 242) rfl ?_
    refine k_iload K X706 at_242 rfl (q := 244) rfl ?_
    refine k_iload K X706 at_244 rfl (q := 246) rfl ?_
    refine k_iload K X706 at_246 rfl (q := 248) rfl ?_
    refine k_staticP K X706 e707 at_248 (wd hw 22 rfl) (wd hw 23 rfl) (wd hw 24 rfl) (wd hw 25 rfl) (by decide) (rm5 l Z az hw [] v711 v712 T679.heap) (W := 4) (by decide) (by decide) (by decide) (by decide) rfl pd_3 (argsL := [(.int v711), (.int v712)]) (rest := [(.int v710), (.int v709), (.int v700), (.int (0 : Int32))]) rfl rfl rfl (Nat.le_of_eq rfl) (q := 251) rfl ?_
    intro T713 X714 e715
    refine k_staticP K X714 e715 at_251 (wd hw 22 rfl) (wd hw 23 rfl) (wd hw 24 rfl) (wd hw 25 rfl) (by decide) (rm5 l Z az hw [] v710 (F_min v711 v712) T679.heap) (W := 3) (by decide) (by decide) (by decide) (by decide) rfl pd_3 (argsL := [(.int v710), (.int (F_min v711 v712))]) (rest := [(.int v709), (.int v700), (.int (0 : Int32))]) rfl rfl rfl (Nat.le_of_eq rfl) (q := 254) rfl ?_
    intro T716 X717 e718
    refine k_staticP K X717 e718 at_254 (wd hw 22 rfl) (wd hw 23 rfl) (wd hw 24 rfl) (wd hw 25 rfl) (by decide) (rm5 l Z az hw [] v709 (F_min v710 (F_min v711 v712)) T679.heap) (W := 2) (by decide) (by decide) (by decide) (by decide) rfl pd_3 (argsL := [(.int v709), (.int (F_min v710 (F_min v711 v712)))]) (rest := [(.int v700), (.int (0 : Int32))]) rfl rfl rfl (Nat.le_of_eq rfl) (q := 257) rfl ?_
    intro T719 X720 e721
    refine k_staticP K X720 e721 at_257 (wd hw 22 rfl) (wd hw 23 rfl) (wd hw 24 rfl) (wd hw 25 rfl) (by decide) (rm5 l Z az hw [] v700 (F_min v709 (F_min v710 (F_min v711 v712))) T679.heap) (W := 1) (by decide) (by decide) (by decide) (by decide) rfl pd_3 (argsL := [(.int v700), (.int (F_min v709 (F_min v710 (F_min v711 v712))))]) (rest := [(.int (0 : Int32))]) rfl rfl rfl (Nat.le_of_eq rfl) (q := 260) rfl ?_
    intro T722 X723 e724
    refine k_staticP K X723 e724 at_260 (wd hw 22 rfl) (wd hw 23 rfl) (wd hw 24 rfl) (wd hw 25 rfl) (by decide) (rm5 l Z az hw [] (0 : Int32) (F_min v700 (F_min v709 (F_min v710 (F_min v711 v712)))) T679.heap) (W := 0) (by decide) (by decide) (by decide) (by decide) rfl pd_3 (argsL := [(.int (0 : Int32)), (.int (F_min v700 (F_min v709 (F_min v710 (F_min v711 v712)))))]) (rest := []) rfl rfl rfl (Nat.le_of_eq rfl) (q := 263) rfl ?_
    intro T725 X726 e727
    obtain ⟨v728, hv_v728⟩ : ∃ z : Int32, (F_min (0 : Int32) (F_min v700 (F_min v709 (F_min v710 (F_min v711 v712))))) = z := ⟨_, rfl⟩
    refine k_istore K X726 at_263 hv_v728 (Ls' := #[.val (.int p0), .val (.int p1), .val (.int p2), .val (.int p3), .val (.int p4), .val (.int p5), .val (.int (3 : Int32)), .val (.int v616), .val (.int v620), .val (.int v624), .val (.int v628), .val (.int v632), .val (.ref b635), .val (.int v696), .val (.int v700), .val (.int v704), .val (.int v708), .val (.int (0 : Int32)), .val (.int (0 : Int32)), .val (.int v700), .val (.int v709), .val (.int v710), .val (.int v711), .val (.int v712), .val (.int v728), .unset, .unset, .unset]) rfl (q := 265) rfl ?_
    refine k_iload K X726 at_265 rfl (q := 267) rfl ?_
    refine k_iload K X726 at_267 rfl (q := 269) rfl ?_
    refine k_isub K X726 at_269 (q := 270) rfl ?_
    obtain ⟨v729, hv_v729⟩ : ∃ z : Int32, (v712 - v728) = z := ⟨_, rfl⟩
    refine k_istore K X726 at_270 hv_v729 (Ls' := #[.val (.int p0), .val (.int p1), .val (.int p2), .val (.int p3), .val (.int p4), .val (.int p5), .val (.int (3 : Int32)), .val (.int v616), .val (.int v620), .val (.int v624), .val (.int v628), .val (.int v632), .val (.ref b635), .val (.int v696), .val (.int v700), .val (.int v704), .val (.int v708), .val (.int (0 : Int32)), .val (.int (0 : Int32)), .val (.int v700), .val (.int v709), .val (.int v710), .val (.int v711), .val (.int v712), .val (.int v728), .val (.int v729), .unset, .unset]) rfl (q := 272) rfl ?_
    refine k_iload K X726 at_272 rfl (q := 274) rfl ?_
    refine k_if_le_n K X726 at_274 (by decide) (q := 277) rfl ?_
    refine k_iload K X726 at_277 rfl (q := 279) rfl ?_
    refine k_staticP K X726 e727 at_279 (wd hw 34 rfl) (wd hw 35 rfl) (wd hw 2 rfl) (wd hw 36 rfl) (by decide) (rm8 l Z az hw [] v616 T679.heap) (W := 0) (by decide) (by decide) (by decide) (by decide) rfl pd_5 (argsL := [(.int v616)]) (rest := []) rfl rfl rfl (Nat.le_of_eq rfl) (q := 282) rfl ?_
    intro T730 X731 e732
    refine k_goto K X731 at_282 (by decide) (q := 286) rfl ?_
    refine k_iload K X731 at_286 rfl (q := 288) rfl ?_
    refine k_iconst K X731 at_288 (v := (1 : Int32)) rfl (q := 289) rfl ?_
    refine k_icmp_le_n K X731 at_289 (by decide) (q := 292) rfl ?_
    refine k_iload K X731 at_292 rfl (q := 294) rfl ?_
    refine k_staticP K X731 e732 at_294 (wd hw 34 rfl) (wd hw 35 rfl) (wd hw 2 rfl) (wd hw 36 rfl) (by decide) (rm8 l Z az hw [] v620 T679.heap) (W := 1) (by decide) (by decide) (by decide) (by decide) rfl pd_5 (argsL := [(.int v620)]) (rest := [(.int (F_quote v616))]) rfl rfl rfl (Nat.le_of_eq rfl) (q := 297) rfl ?_
    intro T733 X734 e735
    refine k_goto K X734 at_297 (by decide) (q := 301) rfl ?_
    refine k_iadd K X734 at_301 (q := 302) rfl ?_
    refine k_iload K X734 at_302 rfl (q := 304) rfl ?_
    refine k_iconst K X734 at_304 (v := (2 : Int32)) rfl (q := 305) rfl ?_
    refine k_icmp_le_n K X734 at_305 (by decide) (q := 308) rfl ?_
    refine k_iload K X734 at_308 rfl (q := 310) rfl ?_
    refine k_staticP K X734 e735 at_310 (wd hw 34 rfl) (wd hw 35 rfl) (wd hw 2 rfl) (wd hw 36 rfl) (by decide) (rm8 l Z az hw [] v624 T679.heap) (W := 1) (by decide) (by decide) (by decide) (by decide) rfl pd_5 (argsL := [(.int v624)]) (rest := [(.int ((F_quote v616) + (F_quote v620)))]) rfl rfl rfl (Nat.le_of_eq rfl) (q := 313) rfl ?_
    intro T736 X737 e738
    refine k_goto K X737 at_313 (by decide) (q := 317) rfl ?_
    refine k_iadd K X737 at_317 (q := 318) rfl ?_
    refine k_iload K X737 at_318 rfl (q := 320) rfl ?_
    refine k_iconst K X737 at_320 (v := (3 : Int32)) rfl (q := 321) rfl ?_
    refine k_icmp_le_y K X737 at_321 (by decide) (by decide) (q := 332) rfl ?_
    refine k_iconst K X737 at_332 (v := (0 : Int32)) rfl (q := 333) rfl ?_
    refine k_iadd K X737 at_333 (q := 334) rfl ?_
    refine k_iload K X737 at_334 rfl (q := 336) rfl ?_
    refine k_iconst K X737 at_336 (v := (4 : Int32)) rfl (q := 337) rfl ?_
    refine k_icmp_le_y K X737 at_337 (by decide) (by decide) (q := 348) rfl ?_
    refine k_iconst K X737 at_348 (v := (0 : Int32)) rfl (q := 349) rfl ?_
    refine k_iadd K X737 at_349 (q := 350) rfl ?_
    obtain ⟨v739, hv_v739⟩ : ∃ z : Int32, (((((F_quote v616) + (F_quote v620)) + (F_quote v624)) + (0 : Int32)) + (0 : Int32)) = z := ⟨_, rfl⟩
    refine k_istore K X737 at_350 hv_v739 (Ls' := #[.val (.int p0), .val (.int p1), .val (.int p2), .val (.int p3), .val (.int p4), .val (.int p5), .val (.int (3 : Int32)), .val (.int v616), .val (.int v620), .val (.int v624), .val (.int v628), .val (.int v632), .val (.ref b635), .val (.int v696), .val (.int v700), .val (.int v704), .val (.int v708), .val (.int (0 : Int32)), .val (.int (0 : Int32)), .val (.int v700), .val (.int v709), .val (.int v710), .val (.int v711), .val (.int v712), .val (.int v728), .val (.int v729), .val (.int v739), .unset]) rfl (q := 352) rfl ?_
    refine k_iload K X737 at_352 rfl (q := 354) rfl ?_
    have J743 : ∀ (d742 : Int32), (if (0 : Int32) < v729 then (1 : Int32) else (if (v739 &&& (1 : Int32)) = (0 : Int32) then (0 : Int32) else (1 : Int32))) = d742 → Run p e below s kc kn Q T736 (mkF m 369 #[.val (.int p0), .val (.int p1), .val (.int p2), .val (.int p3), .val (.int p4), .val (.int p5), .val (.int (3 : Int32)), .val (.int v616), .val (.int v620), .val (.int v624), .val (.int v628), .val (.int v632), .val (.ref b635), .val (.int v696), .val (.int v700), .val (.int v704), .val (.int v708), .val (.int (0 : Int32)), .val (.int (0 : Int32)), .val (.int v700), .val (.int v709), .val (.int v710), .val (.int v711), .val (.int v712), .val (.int v728), .val (.int v729), .val (.int v739), .unset] [(.int d742)]) := by
      intro d742 hv_d742
      refine k_istore K X737 at_369 rfl (Ls' := #[.val (.int p0), .val (.int p1), .val (.int p2), .val (.int p3), .val (.int p4), .val (.int p5), .val (.int (3 : Int32)), .val (.int v616), .val (.int v620), .val (.int v624), .val (.int v628), .val (.int v632), .val (.ref b635), .val (.int v696), .val (.int v700), .val (.int v704), .val (.int v708), .val (.int (0 : Int32)), .val (.int (0 : Int32)), .val (.int v700), .val (.int v709), .val (.int v710), .val (.int v711), .val (.int v712), .val (.int v728), .val (.int v729), .val (.int v739), .val (.int d742)]) rfl (q := 371) rfl ?_
      refine k_iload K X737 at_371 rfl (q := 373) rfl ?_
      refine k_iload K X737 at_373 rfl (q := 375) rfl ?_
      have J746 : ∀ (d745 : Int32), (if v696 = d742 then (1 : Int32) else (0 : Int32)) = d745 → Run p e below s kc kn Q T736 (mkF m 383 #[.val (.int p0), .val (.int p1), .val (.int p2), .val (.int p3), .val (.int p4), .val (.int p5), .val (.int (3 : Int32)), .val (.int v616), .val (.int v620), .val (.int v624), .val (.int v628), .val (.int v632), .val (.ref b635), .val (.int v696), .val (.int v700), .val (.int v704), .val (.int v708), .val (.int (0 : Int32)), .val (.int (0 : Int32)), .val (.int v700), .val (.int v709), .val (.int v710), .val (.int v711), .val (.int v712), .val (.int v728), .val (.int v729), .val (.int v739), .val (.int d742)] [(.int d745)]) := by
        intro d745 hv_d745
        exact k_retz K X737 e738 at_383 (Nat.le_trans (by decide) hkc) (Nat.le_trans (by decide) hkn) (hQ _ _ _ ⟨(by show some (Value.int (nar .boolean d745)) = some (Value.int (F_law p0 p1 p2 p3 p4 p5)); simp only [F_law, hv_v336, hv_v616, hv_v620, hv_v624, hv_v628, hv_v632, hv_v663, hv_v664, hv_v677, hv_v678, hv_v691, hv_v692, hv_v696, hv_v700, hv_v704, hv_v708, hv_v709, hv_v710, hv_v711, hv_v712, hv_v728, hv_v729, hv_v739, hv_d742, hv_d745, if_neg hs337, if_neg hs399, if_neg hs495, if_pos (rfl : (3 : Int32) = (3 : Int32)), if_true]), N688⟩)
      refine k_icmp_ne K X737 at_375 (by decide) (q := 382) rfl (q' := 378) rfl ?_ ?_
      · intro hc747
        refine k_iconst K X737 at_382 (v := (0 : Int32)) rfl (q := 383) rfl ?_
        exact J746 _ (by first | rfl | (simp only [if_neg hc747]))
      · intro hc747
        refine k_iconst K X737 at_378 (v := (1 : Int32)) rfl (q := 379) rfl ?_
        refine k_goto K X737 at_379 (by decide) (q := 383) rfl ?_
        exact J746 _ (by first | rfl | (simp only [if_pos hc747]))
    refine k_if_gt K X737 at_354 (by decide) (q := 364) rfl (q' := 357) rfl ?_ ?_
    · intro hc748
      refine k_iconst K X737 at_364 (v := (1 : Int32)) rfl (q := 365) rfl ?_
      refine k_goto K X737 at_365 (by decide) (q := 369) rfl ?_
      exact J743 _ (by first | rfl | (simp only [if_pos hc748]))
    · intro hc748
      refine k_iload K X737 at_357 rfl (q := 359) rfl ?_
      refine k_iconst K X737 at_359 (v := (1 : Int32)) rfl (q := 360) rfl ?_
      refine k_iand K X737 at_360 (q := 361) rfl ?_
      refine k_if_eq K X737 at_361 (by decide) (q := 368) rfl (q' := 364) rfl ?_ ?_
      · intro hc749
        refine k_iconst K X737 at_368 (v := (0 : Int32)) rfl (q := 369) rfl ?_
        exact J743 _ (by first | rfl | (simp only [if_neg hc748, if_pos hc749]))
      · intro hc749
        refine k_iconst K X737 at_364 (v := (1 : Int32)) rfl (q := 365) rfl ?_
        refine k_goto K X737 at_365 (by decide) (q := 369) rfl ?_
        exact J743 _ (by first | rfl | (simp only [if_neg hc748, if_neg hc749]))
  by_cases hs750 : v336 = (4 : Int32)
  · subst hs750
    refine k_iloadN K X0 at_9 rfl (q := 10) rfl ?_
    refine k_staticP K X0 e0 at_10 (wd hw 0 rfl) (wd hw 1 rfl) (wd hw 2 rfl) (wd hw 3 rfl) (by decide) (rm1 l Z az hw [] p1 h0) (W := 0) (by decide) (by decide) (by decide) (by decide) rfl pd_0 (argsL := [(.int p1)]) (rest := []) rfl rfl rfl (Nat.le_of_eq rfl) (q := 13) rfl ?_
    intro T751 X752 e753
    obtain ⟨v754, hv_v754⟩ : ∃ z : Int32, (F_pick p1) = z := ⟨_, rfl⟩
    refine k_istore K X752 at_13 hv_v754 (Ls' := #[.val (.int p0), .val (.int p1), .val (.int p2), .val (.int p3), .val (.int p4), .val (.int p5), .val (.int (4 : Int32)), .val (.int v754), .unset, .unset, .unset, .unset, .unset, .unset, .unset, .unset, .unset, .unset, .unset, .unset, .unset, .unset, .unset, .unset, .unset, .unset, .unset, .unset]) rfl (q := 15) rfl ?_
    refine k_iloadN K X752 at_15 rfl (q := 16) rfl ?_
    refine k_staticP K X752 e753 at_16 (wd hw 0 rfl) (wd hw 1 rfl) (wd hw 2 rfl) (wd hw 3 rfl) (by decide) (rm1 l Z az hw [] p2 h0) (W := 0) (by decide) (by decide) (by decide) (by decide) rfl pd_0 (argsL := [(.int p2)]) (rest := []) rfl rfl rfl (Nat.le_of_eq rfl) (q := 19) rfl ?_
    intro T755 X756 e757
    obtain ⟨v758, hv_v758⟩ : ∃ z : Int32, (F_pick p2) = z := ⟨_, rfl⟩
    refine k_istore K X756 at_19 hv_v758 (Ls' := #[.val (.int p0), .val (.int p1), .val (.int p2), .val (.int p3), .val (.int p4), .val (.int p5), .val (.int (4 : Int32)), .val (.int v754), .val (.int v758), .unset, .unset, .unset, .unset, .unset, .unset, .unset, .unset, .unset, .unset, .unset, .unset, .unset, .unset, .unset, .unset, .unset, .unset, .unset]) rfl (q := 21) rfl ?_
    refine k_iloadN K X756 at_21 rfl (q := 22) rfl ?_
    refine k_staticP K X756 e757 at_22 (wd hw 0 rfl) (wd hw 1 rfl) (wd hw 2 rfl) (wd hw 3 rfl) (by decide) (rm1 l Z az hw [] p3 h0) (W := 0) (by decide) (by decide) (by decide) (by decide) rfl pd_0 (argsL := [(.int p3)]) (rest := []) rfl rfl rfl (Nat.le_of_eq rfl) (q := 25) rfl ?_
    intro T759 X760 e761
    obtain ⟨v762, hv_v762⟩ : ∃ z : Int32, (F_pick p3) = z := ⟨_, rfl⟩
    refine k_istore K X760 at_25 hv_v762 (Ls' := #[.val (.int p0), .val (.int p1), .val (.int p2), .val (.int p3), .val (.int p4), .val (.int p5), .val (.int (4 : Int32)), .val (.int v754), .val (.int v758), .val (.int v762), .unset, .unset, .unset, .unset, .unset, .unset, .unset, .unset, .unset, .unset, .unset, .unset, .unset, .unset, .unset, .unset, .unset, .unset]) rfl (q := 27) rfl ?_
    refine k_iload K X760 at_27 rfl (q := 29) rfl ?_
    refine k_staticP K X760 e761 at_29 (wd hw 0 rfl) (wd hw 1 rfl) (wd hw 2 rfl) (wd hw 3 rfl) (by decide) (rm1 l Z az hw [] p4 h0) (W := 0) (by decide) (by decide) (by decide) (by decide) rfl pd_0 (argsL := [(.int p4)]) (rest := []) rfl rfl rfl (Nat.le_of_eq rfl) (q := 32) rfl ?_
    intro T763 X764 e765
    obtain ⟨v766, hv_v766⟩ : ∃ z : Int32, (F_pick p4) = z := ⟨_, rfl⟩
    refine k_istore K X764 at_32 hv_v766 (Ls' := #[.val (.int p0), .val (.int p1), .val (.int p2), .val (.int p3), .val (.int p4), .val (.int p5), .val (.int (4 : Int32)), .val (.int v754), .val (.int v758), .val (.int v762), .val (.int v766), .unset, .unset, .unset, .unset, .unset, .unset, .unset, .unset, .unset, .unset, .unset, .unset, .unset, .unset, .unset, .unset, .unset]) rfl (q := 34) rfl ?_
    refine k_iload K X764 at_34 rfl (q := 36) rfl ?_
    refine k_staticP K X764 e765 at_36 (wd hw 0 rfl) (wd hw 1 rfl) (wd hw 2 rfl) (wd hw 3 rfl) (by decide) (rm1 l Z az hw [] p5 h0) (W := 0) (by decide) (by decide) (by decide) (by decide) rfl pd_0 (argsL := [(.int p5)]) (rest := []) rfl rfl rfl (Nat.le_of_eq rfl) (q := 39) rfl ?_
    intro T767 X768 e769
    obtain ⟨v770, hv_v770⟩ : ∃ z : Int32, (F_pick p5) = z := ⟨_, rfl⟩
    refine k_istore K X768 at_39 hv_v770 (Ls' := #[.val (.int p0), .val (.int p1), .val (.int p2), .val (.int p3), .val (.int p4), .val (.int p5), .val (.int (4 : Int32)), .val (.int v754), .val (.int v758), .val (.int v762), .val (.int v766), .val (.int v770), .unset, .unset, .unset, .unset, .unset, .unset, .unset, .unset, .unset, .unset, .unset, .unset, .unset, .unset, .unset, .unset]) rfl (q := 41) rfl ?_
    refine k_new K X768 e769 at_41 (wd hw 4 rfl) (wd hw 5 rfl) (wd hw 6 rfl) (by decide) (by decide) (q := 44) rfl ?_
    intro T771 h772 b773 X774 e775 g776 E777 A778 D779
    have ge780 : n0 ≤ b773 := Nat.le_trans Z0 (Nat.le_of_eq g776.symm)
    have bn781 : h0.size ≤ b773 := Nat.le_trans K0.1 (Nat.le_of_eq g776.symm)
    have K782 := Keep.ext K0 E777
    have Z783 := Nat.le_trans Z0 E777.1
    have f784 : Fld Z h772 b773 "com/example/wherefore/wherefore/instrument/Quotation" "depth" "I" (.int (0 : Int32)) := D779 (Or.inl (wd hw 19 rfl)) (ty := .int) (by decide)
    have f785 : Fld Z h772 b773 "com/example/wherefore/wherefore/instrument/Quotation" "straight" "Z" (.int (0 : Int32)) := D779 (Or.inl (wd hw 21 rfl)) (ty := .boolean) (by decide)
    refine k_dup K X774 at_44 rfl (q := 45) rfl ?_
    refine k_specialP K X774 e775 at_45 rfl (wd hw 7 rfl) (wd hw 8 rfl) (wd hw 6 rfl) (wd hw 9 rfl) (by decide) (rm2 l Z az hw [] b773 h772) (W := 1) (by decide) (by decide) (by decide) (by decide) rfl pd_1 (argsL := []) (rest := [(.ref b773)]) rfl rfl rfl (Nat.le_of_eq rfl) (q := 48) rfl ?_
    intro T786 X787 e788
    refine k_astore K X787 at_48 rfl (Ls' := #[.val (.int p0), .val (.int p1), .val (.int p2), .val (.int p3), .val (.int p4), .val (.int p5), .val (.int (4 : Int32)), .val (.int v754), .val (.int v758), .val (.int v762), .val (.int v766), .val (.int v770), .val (.ref b773), .unset, .unset, .unset, .unset, .unset, .unset, .unset, .unset, .unset, .unset, .unset, .unset, .unset, .unset, .unset]) rfl (q := 50) rfl ?_
    refine k_iload K X787 at_50 rfl (q := 52) rfl ?_
    refine k_if_le_n K X787 at_52 (by decide) (q := 55) rfl ?_
    refine k_aload K X787 at_55 rfl rfl (q := 57) rfl ?_
    refine k_iload K X787 at_57 rfl (q := 59) rfl ?_
    refine k_virtual K X787 e788 at_59 (wd hw 26 rfl) (wd hw 27 rfl) (wd hw 29 rfl) (wd hw 28 rfl) (wd hw 6 rfl) (wd hw 30 rfl) (by decide) A778 (rm6 l Z az hw [] b773 v754 (0 : Int32) (0 : Int32) h772 n0 Z783 f785 A778 ge780 f784) (W := 0) (by decide) (by decide) (by decide) (by decide) rfl pd_4 (argsL := [(.int v754)]) (rest := []) rfl rfl rfl (Nat.le_of_eq rfl) (q := 62) rfl ?_
    rintro _ T789 L790 X791 ⟨rfl, N792, K793, f795, f796⟩
    have f797 := Exa.keep A778 K793
    have N798 := Fr.app N0 N792
    have K799 := Keep.trans K782 K793 (allS (Or.inr bn781) all0)
    have Z800 := Nat.le_trans Z783 K793.1
    obtain ⟨v801, hv_v801⟩ : ∃ z : Int32, (F_read_a0_depth v754 (0 : Int32) (0 : Int32)) = z := ⟨_, rfl⟩
    rw [hv_v801] at f795
    obtain ⟨v802, hv_v802⟩ : ∃ z : Int32, (F_read_a0_straight v754 (0 : Int32) (0 : Int32)) = z := ⟨_, rfl⟩
    rw [hv_v802] at f796
    refine k_iload K X791 at_62 rfl (q := 64) rfl ?_
    refine k_iconst K X791 at_64 (v := (1 : Int32)) rfl (q := 65) rfl ?_
    refine k_icmp_le_n K X791 at_65 (by decide) (q := 68) rfl ?_
    refine k_aload K X791 at_68 rfl rfl (q := 70) rfl ?_
    refine k_iload K X791 at_70 rfl (q := 72) rfl ?_
    refine k_virtual K X791 rfl at_72 (wd hw 26 rfl) (wd hw 27 rfl) (wd hw 29 rfl) (wd hw 28 rfl) (wd hw 6 rfl) (wd hw 30 rfl) (by decide) f797 (rm6 l Z az hw [] b773 v758 v802 v801 T789.heap n0 Z800 f796 f797 ge780 f795) (W := 0) (by decide) (by decide) (by decide) (by decide) rfl pd_4 (argsL := [(.int v758)]) (rest := []) rfl rfl rfl (Nat.le_of_eq rfl) (q := 75) rfl ?_
    rintro _ T803 L804 X805 ⟨rfl, N806, K807, f809, f810⟩
    have f811 := Exa.keep f797 K807
    have N812 := Fr.app N798 N806
    have K813 := Keep.trans K799 K807 (allS (Or.inr bn781) all0)
    have Z814 := Nat.le_trans Z800 K807.1
    obtain ⟨v815, hv_v815⟩ : ∃ z : Int32, (F_read_a0_depth v758 v802 v801) = z := ⟨_, rfl⟩
    rw [hv_v815] at f809
    obtain ⟨v816, hv_v816⟩ : ∃ z : Int32, (F_read_a0_straight v758 v802 v801) = z := ⟨_, rfl⟩
    rw [hv_v816] at f810
    refine k_iload K X805 at_75 rfl (q := 77) rfl ?_
    refine k_iconst K X805 at_77 (v := (2 : Int32)) rfl (q := 78) rfl ?_
    refine k_icmp_le_n K X805 at_78 (by decide) (q := 81) rfl ?_
    refine k_aload K X805 at_81 rfl rfl (q := 83) rfl ?_
    refine k_iload K X805 at_83 rfl (q := 85) rfl ?_
    refine k_virtual K X805 rfl at_85 (wd hw 26 rfl) (wd hw 27 rfl) (wd hw 29 rfl) (wd hw 28 rfl) (wd hw 6 rfl) (wd hw 30 rfl) (by decide) f811 (rm6 l Z az hw [] b773 v762 v816 v815 T803.heap n0 Z814 f810 f811 ge780 f809) (W := 0) (by decide) (by decide) (by decide) (by decide) rfl pd_4 (argsL := [(.int v762)]) (rest := []) rfl rfl rfl (Nat.le_of_eq rfl) (q := 88) rfl ?_
    rintro _ T817 L818 X819 ⟨rfl, N820, K821, f823, f824⟩
    have f825 := Exa.keep f811 K821
    have N826 := Fr.app N812 N820
    have K827 := Keep.trans K813 K821 (allS (Or.inr bn781) all0)
    have Z828 := Nat.le_trans Z814 K821.1
    obtain ⟨v829, hv_v829⟩ : ∃ z : Int32, (F_read_a0_depth v762 v816 v815) = z := ⟨_, rfl⟩
    rw [hv_v829] at f823
    obtain ⟨v830, hv_v830⟩ : ∃ z : Int32, (F_read_a0_straight v762 v816 v815) = z := ⟨_, rfl⟩
    rw [hv_v830] at f824
    refine k_iload K X819 at_88 rfl (q := 90) rfl ?_
    refine k_iconst K X819 at_90 (v := (3 : Int32)) rfl (q := 91) rfl ?_
    refine k_icmp_le_n K X819 at_91 (by decide) (q := 94) rfl ?_
    refine k_aload K X819 at_94 rfl rfl (q := 96) rfl ?_
    refine k_iload K X819 at_96 rfl (q := 98) rfl ?_
    refine k_virtual K X819 rfl at_98 (wd hw 26 rfl) (wd hw 27 rfl) (wd hw 29 rfl) (wd hw 28 rfl) (wd hw 6 rfl) (wd hw 30 rfl) (by decide) f825 (rm6 l Z az hw [] b773 v766 v830 v829 T817.heap n0 Z828 f824 f825 ge780 f823) (W := 0) (by decide) (by decide) (by decide) (by decide) rfl pd_4 (argsL := [(.int v766)]) (rest := []) rfl rfl rfl (Nat.le_of_eq rfl) (q := 101) rfl ?_
    rintro _ T831 L832 X833 ⟨rfl, N834, K835, f837, f838⟩
    have f839 := Exa.keep f825 K835
    have N840 := Fr.app N826 N834
    have K841 := Keep.trans K827 K835 (allS (Or.inr bn781) all0)
    have Z842 := Nat.le_trans Z828 K835.1
    obtain ⟨v843, hv_v843⟩ : ∃ z : Int32, (F_read_a0_depth v766 v830 v829) = z := ⟨_, rfl⟩
    rw [hv_v843] at f837
    obtain ⟨v844, hv_v844⟩ : ∃ z : Int32, (F_read_a0_straight v766 v830 v829) = z := ⟨_, rfl⟩
    rw [hv_v844] at f838
    refine k_iload K X833 at_101 rfl (q := 103) rfl ?_
    refine k_iconst K X833 at_103 (v := (4 : Int32)) rfl (q := 104) rfl ?_
    refine k_icmp_le_y K X833 at_104 (by decide) (by decide) (q := 114) rfl ?_
    refine k_aload K X833 at_114 rfl rfl (q := 116) rfl ?_
    refine k_virtualP K X833 rfl at_116 (wd hw 13 rfl) (wd hw 14 rfl) (wd hw 16 rfl) (wd hw 15 rfl) (wd hw 6 rfl) (wd hw 17 rfl) (by decide) f839 (rm4 l Z az hw [] b773 v843 v844 T831.heap f837 f838) (W := 0) (by decide) (by decide) (by decide) (by decide) rfl pd_2 (argsL := []) (rest := []) rfl rfl rfl (Nat.le_of_eq rfl) (q := 119) rfl ?_
    intro T845 X846 e847
    obtain ⟨v848, hv_v848⟩ : ∃ z : Int32, (F_inside v843 v844) = z := ⟨_, rfl⟩
    refine k_istore K X846 at_119 hv_v848 (Ls' := #[.val (.int p0), .val (.int p1), .val (.int p2), .val (.int p3), .val (.int p4), .val (.int p5), .val (.int (4 : Int32)), .val (.int v754), .val (.int v758), .val (.int v762), .val (.int v766), .val (.int v770), .val (.ref b773), .val (.int v848), .unset, .unset, .unset, .unset, .unset, .unset, .unset, .unset, .unset, .unset, .unset, .unset, .unset, .unset]) rfl (q := 121) rfl ?_
    refine k_iload K X846 at_121 rfl (q := 123) rfl ?_
    refine k_if_le_n K X846 at_123 (by decide) (q := 126) rfl ?_
    refine k_iload K X846 at_126 rfl (q := 128) rfl ?_
    refine k_staticP K X846 e847 at_128 (wd hw 31 rfl) (wd hw 32 rfl) (wd hw 2 rfl) (wd hw 33 rfl) (by decide) (rm7 l Z az hw [] v754 T831.heap) (W := 0) (by decide) (by decide) (by decide) (by decide) rfl pd_5 (argsL := [(.int v754)]) (rest := []) rfl rfl rfl (Nat.le_of_eq rfl) (q := 131) rfl ?_
    intro T849 X850 e851
    refine k_goto K X850 at_131 (by decide) (q := 135) rfl ?_
    obtain ⟨v852, hv_v852⟩ : ∃ z : Int32, (F_delta v754) = z := ⟨_, rfl⟩
    refine k_istore K X850 at_135 hv_v852 (Ls' := #[.val (.int p0), .val (.int p1), .val (.int p2), .val (.int p3), .val (.int p4), .val (.int p5), .val (.int (4 : Int32)), .val (.int v754), .val (.int v758), .val (.int v762), .val (.int v766), .val (.int v770), .val (.ref b773), .val (.int v848), .val (.int v852), .unset, .unset, .unset, .unset, .unset, .unset, .unset, .unset, .unset, .unset, .unset, .unset, .unset]) rfl (q := 137) rfl ?_
    refine k_iload K X850 at_137 rfl (q := 139) rfl ?_
    refine k_iconst K X850 at_139 (v := (1 : Int32)) rfl (q := 140) rfl ?_
    refine k_icmp_le_n K X850 at_140 (by decide) (q := 143) rfl ?_
    refine k_iload K X850 at_143 rfl (q := 145) rfl ?_
    refine k_staticP K X850 e851 at_145 (wd hw 31 rfl) (wd hw 32 rfl) (wd hw 2 rfl) (wd hw 33 rfl) (by decide) (rm7 l Z az hw [] v758 T831.heap) (W := 0) (by decide) (by decide) (by decide) (by decide) rfl pd_5 (argsL := [(.int v758)]) (rest := []) rfl rfl rfl (Nat.le_of_eq rfl) (q := 148) rfl ?_
    intro T853 X854 e855
    refine k_goto K X854 at_148 (by decide) (q := 152) rfl ?_
    obtain ⟨v856, hv_v856⟩ : ∃ z : Int32, (F_delta v758) = z := ⟨_, rfl⟩
    refine k_istore K X854 at_152 hv_v856 (Ls' := #[.val (.int p0), .val (.int p1), .val (.int p2), .val (.int p3), .val (.int p4), .val (.int p5), .val (.int (4 : Int32)), .val (.int v754), .val (.int v758), .val (.int v762), .val (.int v766), .val (.int v770), .val (.ref b773), .val (.int v848), .val (.int v852), .val (.int v856), .unset, .unset, .unset, .unset, .unset, .unset, .unset, .unset, .unset, .unset, .unset, .unset]) rfl (q := 154) rfl ?_
    refine k_iload K X854 at_154 rfl (q := 156) rfl ?_
    refine k_iconst K X854 at_156 (v := (2 : Int32)) rfl (q := 157) rfl ?_
    refine k_icmp_le_n K X854 at_157 (by decide) (q := 160) rfl ?_
    refine k_iload K X854 at_160 rfl (q := 162) rfl ?_
    refine k_staticP K X854 e855 at_162 (wd hw 31 rfl) (wd hw 32 rfl) (wd hw 2 rfl) (wd hw 33 rfl) (by decide) (rm7 l Z az hw [] v762 T831.heap) (W := 0) (by decide) (by decide) (by decide) (by decide) rfl pd_5 (argsL := [(.int v762)]) (rest := []) rfl rfl rfl (Nat.le_of_eq rfl) (q := 165) rfl ?_
    intro T857 X858 e859
    refine k_goto K X858 at_165 (by decide) (q := 169) rfl ?_
    obtain ⟨v860, hv_v860⟩ : ∃ z : Int32, (F_delta v762) = z := ⟨_, rfl⟩
    refine k_istore K X858 at_169 hv_v860 (Ls' := #[.val (.int p0), .val (.int p1), .val (.int p2), .val (.int p3), .val (.int p4), .val (.int p5), .val (.int (4 : Int32)), .val (.int v754), .val (.int v758), .val (.int v762), .val (.int v766), .val (.int v770), .val (.ref b773), .val (.int v848), .val (.int v852), .val (.int v856), .val (.int v860), .unset, .unset, .unset, .unset, .unset, .unset, .unset, .unset, .unset, .unset, .unset]) rfl (q := 171) rfl ?_
    refine k_iload K X858 at_171 rfl (q := 173) rfl ?_
    refine k_iconst K X858 at_173 (v := (3 : Int32)) rfl (q := 174) rfl ?_
    refine k_icmp_le_n K X858 at_174 (by decide) (q := 177) rfl ?_
    refine k_iload K X858 at_177 rfl (q := 179) rfl ?_
    refine k_staticP K X858 e859 at_179 (wd hw 31 rfl) (wd hw 32 rfl) (wd hw 2 rfl) (wd hw 33 rfl) (by decide) (rm7 l Z az hw [] v766 T831.heap) (W := 0) (by decide) (by decide) (by decide) (by decide) rfl pd_5 (argsL := [(.int v766)]) (rest := []) rfl rfl rfl (Nat.le_of_eq rfl) (q := 182) rfl ?_
    intro T861 X862 e863
    refine k_goto K X862 at_182 (by decide) (q := 186) rfl ?_
    obtain ⟨v864, hv_v864⟩ : ∃ z : Int32, (F_delta v766) = z := ⟨_, rfl⟩
    refine k_istore K X862 at_186 hv_v864 (Ls' := #[.val (.int p0), .val (.int p1), .val (.int p2), .val (.int p3), .val (.int p4), .val (.int p5), .val (.int (4 : Int32)), .val (.int v754), .val (.int v758), .val (.int v762), .val (.int v766), .val (.int v770), .val (.ref b773), .val (.int v848), .val (.int v852), .val (.int v856), .val (.int v860), .val (.int v864), .unset, .unset, .unset, .unset, .unset, .unset, .unset, .unset, .unset, .unset]) rfl (q := 188) rfl ?_
    refine k_iload K X862 at_188 rfl (q := 190) rfl ?_
    refine k_iconst K X862 at_190 (v := (4 : Int32)) rfl (q := 191) rfl ?_
    refine k_icmp_le_y K X862 at_191 (by decide) (by decide) (q := 202) rfl ?_
    refine k_iconst K X862 at_202 (v := (0 : Int32)) rfl (q := 203) rfl ?_
    refine k_istore K X862 at_203 rfl (Ls' := #[.val (.int p0), .val (.int p1), .val (.int p2), .val (.int p3), .val (.int p4), .val (.int p5), .val (.int (4 : Int32)), .val (.int v754), .val (.int v758), .val (.int v762), .val (.int v766), .val (.int v770), .val (.ref b773), .val (.int v848), .val (.int v852), .val (.int v856), .val (.int v860), .val (.int v864), .val (.int (0 : Int32)), .unset, .unset, .unset, .unset, .unset, .unset, .unset, .unset, .unset]) rfl (q := 205) rfl ?_
    refine k_iload K X862 at_205 rfl (q := 207) rfl ?_
    refine k_istore K X862 at_207 rfl (Ls' := #[.val (.int p0), .val (.int p1), .val (.int p2), .val (.int p3), .val (.int p4), .val (.int p5), .val (.int (4 : Int32)), .val (.int v754), .val (.int v758), .val (.int v762), .val (.int v766), .val (.int v770), .val (.ref b773), .val (.int v848), .val (.int v852), .val (.int v856), .val (.int v860), .val (.int v864), .val (.int (0 : Int32)), .val (.int v852), .unset, .unset, .unset, .unset, .unset, .unset, .unset, .unset]) rfl (q := 209) rfl ?_
    refine k_iload K X862 at_209 rfl (q := 211) rfl ?_
    refine k_iload K X862 at_211 rfl (q := 213) rfl ?_
    refine k_iadd K X862 at_213 (q := 214) rfl ?_
    obtain ⟨v865, hv_v865⟩ : ∃ z : Int32, (v852 + v856) = z := ⟨_, rfl⟩
    refine k_istore K X862 at_214 hv_v865 (Ls' := #[.val (.int p0), .val (.int p1), .val (.int p2), .val (.int p3), .val (.int p4), .val (.int p5), .val (.int (4 : Int32)), .val (.int v754), .val (.int v758), .val (.int v762), .val (.int v766), .val (.int v770), .val (.ref b773), .val (.int v848), .val (.int v852), .val (.int v856), .val (.int v860), .val (.int v864), .val (.int (0 : Int32)), .val (.int v852), .val (.int v865), .unset, .unset, .unset, .unset, .unset, .unset, .unset]) rfl (q := 216) rfl ?_
    refine k_iload K X862 at_216 rfl (q := 218) rfl ?_
    refine k_iload K X862 at_218 rfl (q := 220) rfl ?_
    refine k_iadd K X862 at_220 (q := 221) rfl ?_
    obtain ⟨v866, hv_v866⟩ : ∃ z : Int32, (v865 + v860) = z := ⟨_, rfl⟩
    refine k_istore K X862 at_221 hv_v866 (Ls' := #[.val (.int p0), .val (.int p1), .val (.int p2), .val (.int p3), .val (.int p4), .val (.int p5), .val (.int (4 : Int32)), .val (.int v754), .val (.int v758), .val (.int v762), .val (.int v766), .val (.int v770), .val (.ref b773), .val (.int v848), .val (.int v852), .val (.int v856), .val (.int v860), .val (.int v864), .val (.int (0 : Int32)), .val (.int v852), .val (.int v865), .val (.int v866), .unset, .unset, .unset, .unset, .unset, .unset]) rfl (q := 223) rfl ?_
    refine k_iload K X862 at_223 rfl (q := 225) rfl ?_
    refine k_iload K X862 at_225 rfl (q := 227) rfl ?_
    refine k_iadd K X862 at_227 (q := 228) rfl ?_
    obtain ⟨v867, hv_v867⟩ : ∃ z : Int32, (v866 + v864) = z := ⟨_, rfl⟩
    refine k_istore K X862 at_228 hv_v867 (Ls' := #[.val (.int p0), .val (.int p1), .val (.int p2), .val (.int p3), .val (.int p4), .val (.int p5), .val (.int (4 : Int32)), .val (.int v754), .val (.int v758), .val (.int v762), .val (.int v766), .val (.int v770), .val (.ref b773), .val (.int v848), .val (.int v852), .val (.int v856), .val (.int v860), .val (.int v864), .val (.int (0 : Int32)), .val (.int v852), .val (.int v865), .val (.int v866), .val (.int v867), .unset, .unset, .unset, .unset, .unset]) rfl (q := 230) rfl ?_
    refine k_iload K X862 at_230 rfl (q := 232) rfl ?_
    refine k_iload K X862 at_232 rfl (q := 234) rfl ?_
    refine k_iadd K X862 at_234 (q := 235) rfl ?_
    obtain ⟨v868, hv_v868⟩ : ∃ z : Int32, (v867 + (0 : Int32)) = z := ⟨_, rfl⟩
    refine k_istore K X862 at_235 hv_v868 (Ls' := #[.val (.int p0), .val (.int p1), .val (.int p2), .val (.int p3), .val (.int p4), .val (.int p5), .val (.int (4 : Int32)), .val (.int v754), .val (.int v758), .val (.int v762), .val (.int v766), .val (.int v770), .val (.ref b773), .val (.int v848), .val (.int v852), .val (.int v856), .val (.int v860), .val (.int v864), .val (.int (0 : Int32)), .val (.int v852), .val (.int v865), .val (.int v866), .val (.int v867), .val (.int v868), .unset, .unset, .unset, .unset]) rfl (q := 237) rfl ?_
    refine k_iconst K X862 at_237 (v := (0 : Int32)) rfl (q := 238) rfl ?_
    refine k_iload K X862 at_238 rfl (q := 240) rfl ?_
    refine k_iload K X862 at_240 rfl (q := 242) rfl ?_
    refine k_iload K X862 at_242 rfl (q := 244) rfl ?_
    refine k_iload K X862 at_244 rfl (q := 246) rfl ?_
    refine k_iload K X862 at_246 rfl (q := 248) rfl ?_
    refine k_staticP K X862 e863 at_248 (wd hw 22 rfl) (wd hw 23 rfl) (wd hw 24 rfl) (wd hw 25 rfl) (by decide) (rm5 l Z az hw [] v867 v868 T831.heap) (W := 4) (by decide) (by decide) (by decide) (by decide) rfl pd_3 (argsL := [(.int v867), (.int v868)]) (rest := [(.int v866), (.int v865), (.int v852), (.int (0 : Int32))]) rfl rfl rfl (Nat.le_of_eq rfl) (q := 251) rfl ?_
    intro T869 X870 e871
    refine k_staticP K X870 e871 at_251 (wd hw 22 rfl) (wd hw 23 rfl) (wd hw 24 rfl) (wd hw 25 rfl) (by decide) (rm5 l Z az hw [] v866 (F_min v867 v868) T831.heap) (W := 3) (by decide) (by decide) (by decide) (by decide) rfl pd_3 (argsL := [(.int v866), (.int (F_min v867 v868))]) (rest := [(.int v865), (.int v852), (.int (0 : Int32))]) rfl rfl rfl (Nat.le_of_eq rfl) (q := 254) rfl ?_
    intro T872 X873 e874
    refine k_staticP K X873 e874 at_254 (wd hw 22 rfl) (wd hw 23 rfl) (wd hw 24 rfl) (wd hw 25 rfl) (by decide) (rm5 l Z az hw [] v865 (F_min v866 (F_min v867 v868)) T831.heap) (W := 2) (by decide) (by decide) (by decide) (by decide) rfl pd_3 (argsL := [(.int v865), (.int (F_min v866 (F_min v867 v868)))]) (rest := [(.int v852), (.int (0 : Int32))]) rfl rfl rfl (Nat.le_of_eq rfl) (q := 257) rfl ?_
    intro T875 X876 e877
    refine k_staticP K X876 e877 at_257 (wd hw 22 rfl) (wd hw 23 rfl) (wd hw 24 rfl) (wd hw 25 rfl) (by decide) (rm5 l Z az hw [] v852 (F_min v865 (F_min v866 (F_min v867 v868))) T831.heap) (W := 1) (by decide) (by decide) (by decide) (by decide) rfl pd_3 (argsL := [(.int v852), (.int (F_min v865 (F_min v866 (F_min v867 v868))))]) (rest := [(.int (0 : Int32))]) rfl rfl rfl (Nat.le_of_eq rfl) (q := 260) rfl ?_
    intro T878 X879 e880
    refine k_staticP K X879 e880 at_260 (wd hw 22 rfl) (wd hw 23 rfl) (wd hw 24 rfl) (wd hw 25 rfl) (by decide) (rm5 l Z az hw [] (0 : Int32) (F_min v852 (F_min v865 (F_min v866 (F_min v867 v868)))) T831.heap) (W := 0) (by decide) (by decide) (by decide) (by decide) rfl pd_3 (argsL := [(.int (0 : Int32)), (.int (F_min v852 (F_min v865 (F_min v866 (F_min v867 v868)))))]) (rest := []) rfl rfl rfl (Nat.le_of_eq rfl) (q := 263) rfl ?_
    intro T881 X882 e883
    obtain ⟨v884, hv_v884⟩ : ∃ z : Int32, (F_min (0 : Int32) (F_min v852 (F_min v865 (F_min v866 (F_min v867 v868))))) = z := ⟨_, rfl⟩
    refine k_istore K X882 at_263 hv_v884 (Ls' := #[.val (.int p0), .val (.int p1), .val (.int p2), .val (.int p3), .val (.int p4), .val (.int p5), .val (.int (4 : Int32)), .val (.int v754), .val (.int v758), .val (.int v762), .val (.int v766), .val (.int v770), .val (.ref b773), .val (.int v848), .val (.int v852), .val (.int v856), .val (.int v860), .val (.int v864), .val (.int (0 : Int32)), .val (.int v852), .val (.int v865), .val (.int v866), .val (.int v867), .val (.int v868), .val (.int v884), .unset, .unset, .unset]) rfl (q := 265) rfl ?_
    refine k_iload K X882 at_265 rfl (q := 267) rfl ?_
    refine k_iload K X882 at_267 rfl (q := 269) rfl ?_
    refine k_isub K X882 at_269 (q := 270) rfl ?_
    obtain ⟨v885, hv_v885⟩ : ∃ z : Int32, (v868 - v884) = z := ⟨_, rfl⟩
    refine k_istore K X882 at_270 hv_v885 (Ls' := #[.val (.int p0), .val (.int p1), .val (.int p2), .val (.int p3), .val (.int p4), .val (.int p5), .val (.int (4 : Int32)), .val (.int v754), .val (.int v758), .val (.int v762), .val (.int v766), .val (.int v770), .val (.ref b773), .val (.int v848), .val (.int v852), .val (.int v856), .val (.int v860), .val (.int v864), .val (.int (0 : Int32)), .val (.int v852), .val (.int v865), .val (.int v866), .val (.int v867), .val (.int v868), .val (.int v884), .val (.int v885), .unset, .unset]) rfl (q := 272) rfl ?_
    refine k_iload K X882 at_272 rfl (q := 274) rfl ?_
    refine k_if_le_n K X882 at_274 (by decide) (q := 277) rfl ?_
    refine k_iload K X882 at_277 rfl (q := 279) rfl ?_
    refine k_staticP K X882 e883 at_279 (wd hw 34 rfl) (wd hw 35 rfl) (wd hw 2 rfl) (wd hw 36 rfl) (by decide) (rm8 l Z az hw [] v754 T831.heap) (W := 0) (by decide) (by decide) (by decide) (by decide) rfl pd_5 (argsL := [(.int v754)]) (rest := []) rfl rfl rfl (Nat.le_of_eq rfl) (q := 282) rfl ?_
    intro T886 X887 e888
    refine k_goto K X887 at_282 (by decide) (q := 286) rfl ?_
    refine k_iload K X887 at_286 rfl (q := 288) rfl ?_
    refine k_iconst K X887 at_288 (v := (1 : Int32)) rfl (q := 289) rfl ?_
    refine k_icmp_le_n K X887 at_289 (by decide) (q := 292) rfl ?_
    refine k_iload K X887 at_292 rfl (q := 294) rfl ?_
    refine k_staticP K X887 e888 at_294 (wd hw 34 rfl) (wd hw 35 rfl) (wd hw 2 rfl) (wd hw 36 rfl) (by decide) (rm8 l Z az hw [] v758 T831.heap) (W := 1) (by decide) (by decide) (by decide) (by decide) rfl pd_5 (argsL := [(.int v758)]) (rest := [(.int (F_quote v754))]) rfl rfl rfl (Nat.le_of_eq rfl) (q := 297) rfl ?_
    intro T889 X890 e891
    refine k_goto K X890 at_297 (by decide) (q := 301) rfl ?_
    refine k_iadd K X890 at_301 (q := 302) rfl ?_
    refine k_iload K X890 at_302 rfl (q := 304) rfl ?_
    refine k_iconst K X890 at_304 (v := (2 : Int32)) rfl (q := 305) rfl ?_
    refine k_icmp_le_n K X890 at_305 (by decide) (q := 308) rfl ?_
    refine k_iload K X890 at_308 rfl (q := 310) rfl ?_
    refine k_staticP K X890 e891 at_310 (wd hw 34 rfl) (wd hw 35 rfl) (wd hw 2 rfl) (wd hw 36 rfl) (by decide) (rm8 l Z az hw [] v762 T831.heap) (W := 1) (by decide) (by decide) (by decide) (by decide) rfl pd_5 (argsL := [(.int v762)]) (rest := [(.int ((F_quote v754) + (F_quote v758)))]) rfl rfl rfl (Nat.le_of_eq rfl) (q := 313) rfl ?_
    intro T892 X893 e894
    refine k_goto K X893 at_313 (by decide) (q := 317) rfl ?_
    refine k_iadd K X893 at_317 (q := 318) rfl ?_
    refine k_iload K X893 at_318 rfl (q := 320) rfl ?_
    refine k_iconst K X893 at_320 (v := (3 : Int32)) rfl (q := 321) rfl ?_
    refine k_icmp_le_n K X893 at_321 (by decide) (q := 324) rfl ?_
    refine k_iload K X893 at_324 rfl (q := 326) rfl ?_
    refine k_staticP K X893 e894 at_326 (wd hw 34 rfl) (wd hw 35 rfl) (wd hw 2 rfl) (wd hw 36 rfl) (by decide) (rm8 l Z az hw [] v766 T831.heap) (W := 1) (by decide) (by decide) (by decide) (by decide) rfl pd_5 (argsL := [(.int v766)]) (rest := [(.int (((F_quote v754) + (F_quote v758)) + (F_quote v762)))]) rfl rfl rfl (Nat.le_of_eq rfl) (q := 329) rfl ?_
    intro T895 X896 e897
    refine k_goto K X896 at_329 (by decide) (q := 333) rfl ?_
    refine k_iadd K X896 at_333 (q := 334) rfl ?_
    refine k_iload K X896 at_334 rfl (q := 336) rfl ?_
    refine k_iconst K X896 at_336 (v := (4 : Int32)) rfl (q := 337) rfl ?_
    refine k_icmp_le_y K X896 at_337 (by decide) (by decide) (q := 348) rfl ?_
    refine k_iconst K X896 at_348 (v := (0 : Int32)) rfl (q := 349) rfl ?_
    refine k_iadd K X896 at_349 (q := 350) rfl ?_
    obtain ⟨v898, hv_v898⟩ : ∃ z : Int32, (((((F_quote v754) + (F_quote v758)) + (F_quote v762)) + (F_quote v766)) + (0 : Int32)) = z := ⟨_, rfl⟩
    refine k_istore K X896 at_350 hv_v898 (Ls' := #[.val (.int p0), .val (.int p1), .val (.int p2), .val (.int p3), .val (.int p4), .val (.int p5), .val (.int (4 : Int32)), .val (.int v754), .val (.int v758), .val (.int v762), .val (.int v766), .val (.int v770), .val (.ref b773), .val (.int v848), .val (.int v852), .val (.int v856), .val (.int v860), .val (.int v864), .val (.int (0 : Int32)), .val (.int v852), .val (.int v865), .val (.int v866), .val (.int v867), .val (.int v868), .val (.int v884), .val (.int v885), .val (.int v898), .unset]) rfl (q := 352) rfl ?_
    refine k_iload K X896 at_352 rfl (q := 354) rfl ?_
    have J902 : ∀ (d901 : Int32), (if (0 : Int32) < v885 then (1 : Int32) else (if (v898 &&& (1 : Int32)) = (0 : Int32) then (0 : Int32) else (1 : Int32))) = d901 → Run p e below s kc kn Q T895 (mkF m 369 #[.val (.int p0), .val (.int p1), .val (.int p2), .val (.int p3), .val (.int p4), .val (.int p5), .val (.int (4 : Int32)), .val (.int v754), .val (.int v758), .val (.int v762), .val (.int v766), .val (.int v770), .val (.ref b773), .val (.int v848), .val (.int v852), .val (.int v856), .val (.int v860), .val (.int v864), .val (.int (0 : Int32)), .val (.int v852), .val (.int v865), .val (.int v866), .val (.int v867), .val (.int v868), .val (.int v884), .val (.int v885), .val (.int v898), .unset] [(.int d901)]) := by
      intro d901 hv_d901
      refine k_istore K X896 at_369 rfl (Ls' := #[.val (.int p0), .val (.int p1), .val (.int p2), .val (.int p3), .val (.int p4), .val (.int p5), .val (.int (4 : Int32)), .val (.int v754), .val (.int v758), .val (.int v762), .val (.int v766), .val (.int v770), .val (.ref b773), .val (.int v848), .val (.int v852), .val (.int v856), .val (.int v860), .val (.int v864), .val (.int (0 : Int32)), .val (.int v852), .val (.int v865), .val (.int v866), .val (.int v867), .val (.int v868), .val (.int v884), .val (.int v885), .val (.int v898), .val (.int d901)]) rfl (q := 371) rfl ?_
      refine k_iload K X896 at_371 rfl (q := 373) rfl ?_
      refine k_iload K X896 at_373 rfl (q := 375) rfl ?_
      have J905 : ∀ (d904 : Int32), (if v848 = d901 then (1 : Int32) else (0 : Int32)) = d904 → Run p e below s kc kn Q T895 (mkF m 383 #[.val (.int p0), .val (.int p1), .val (.int p2), .val (.int p3), .val (.int p4), .val (.int p5), .val (.int (4 : Int32)), .val (.int v754), .val (.int v758), .val (.int v762), .val (.int v766), .val (.int v770), .val (.ref b773), .val (.int v848), .val (.int v852), .val (.int v856), .val (.int v860), .val (.int v864), .val (.int (0 : Int32)), .val (.int v852), .val (.int v865), .val (.int v866), .val (.int v867), .val (.int v868), .val (.int v884), .val (.int v885), .val (.int v898), .val (.int d901)] [(.int d904)]) := by
        intro d904 hv_d904
        exact k_retz K X896 e897 at_383 (Nat.le_trans (by decide) hkc) (Nat.le_trans (by decide) hkn) (hQ _ _ _ ⟨(by show some (Value.int (nar .boolean d904)) = some (Value.int (F_law p0 p1 p2 p3 p4 p5)); simp only [F_law, hv_v336, hv_v754, hv_v758, hv_v762, hv_v766, hv_v770, hv_v801, hv_v802, hv_v815, hv_v816, hv_v829, hv_v830, hv_v843, hv_v844, hv_v848, hv_v852, hv_v856, hv_v860, hv_v864, hv_v865, hv_v866, hv_v867, hv_v868, hv_v884, hv_v885, hv_v898, hv_d901, hv_d904, if_neg hs337, if_neg hs399, if_neg hs495, if_neg hs612, if_pos (rfl : (4 : Int32) = (4 : Int32)), if_true]), N840⟩)
      refine k_icmp_ne K X896 at_375 (by decide) (q := 382) rfl (q' := 378) rfl ?_ ?_
      · intro hc906
        refine k_iconst K X896 at_382 (v := (0 : Int32)) rfl (q := 383) rfl ?_
        exact J905 _ (by first | rfl | (simp only [if_neg hc906]))
      · intro hc906
        refine k_iconst K X896 at_378 (v := (1 : Int32)) rfl (q := 379) rfl ?_
        refine k_goto K X896 at_379 (by decide) (q := 383) rfl ?_
        exact J905 _ (by first | rfl | (simp only [if_pos hc906]))
    refine k_if_gt K X896 at_354 (by decide) (q := 364) rfl (q' := 357) rfl ?_ ?_
    · intro hc907
      refine k_iconst K X896 at_364 (v := (1 : Int32)) rfl (q := 365) rfl ?_
      refine k_goto K X896 at_365 (by decide) (q := 369) rfl ?_
      exact J902 _ (by first | rfl | (simp only [if_pos hc907]))
    · intro hc907
      refine k_iload K X896 at_357 rfl (q := 359) rfl ?_
      refine k_iconst K X896 at_359 (v := (1 : Int32)) rfl (q := 360) rfl ?_
      refine k_iand K X896 at_360 (q := 361) rfl ?_
      refine k_if_eq K X896 at_361 (by decide) (q := 368) rfl (q' := 364) rfl ?_ ?_
      · intro hc908
        refine k_iconst K X896 at_368 (v := (0 : Int32)) rfl (q := 369) rfl ?_
        exact J902 _ (by first | rfl | (simp only [if_neg hc907, if_pos hc908]))
      · intro hc908
        refine k_iconst K X896 at_364 (v := (1 : Int32)) rfl (q := 365) rfl ?_
        refine k_goto K X896 at_365 (by decide) (q := 369) rfl ?_
        exact J902 _ (by first | rfl | (simp only [if_neg hc907, if_neg hc908]))
  by_cases hs909 : v336 = (5 : Int32)
  · subst hs909
    refine k_iloadN K X0 at_9 rfl (q := 10) rfl ?_
    refine k_staticP K X0 e0 at_10 (wd hw 0 rfl) (wd hw 1 rfl) (wd hw 2 rfl) (wd hw 3 rfl) (by decide) (rm1 l Z az hw [] p1 h0) (W := 0) (by decide) (by decide) (by decide) (by decide) rfl pd_0 (argsL := [(.int p1)]) (rest := []) rfl rfl rfl (Nat.le_of_eq rfl) (q := 13) rfl ?_
    intro T910 X911 e912
    obtain ⟨v913, hv_v913⟩ : ∃ z : Int32, (F_pick p1) = z := ⟨_, rfl⟩
    refine k_istore K X911 at_13 hv_v913 (Ls' := #[.val (.int p0), .val (.int p1), .val (.int p2), .val (.int p3), .val (.int p4), .val (.int p5), .val (.int (5 : Int32)), .val (.int v913), .unset, .unset, .unset, .unset, .unset, .unset, .unset, .unset, .unset, .unset, .unset, .unset, .unset, .unset, .unset, .unset, .unset, .unset, .unset, .unset]) rfl (q := 15) rfl ?_
    refine k_iloadN K X911 at_15 rfl (q := 16) rfl ?_
    refine k_staticP K X911 e912 at_16 (wd hw 0 rfl) (wd hw 1 rfl) (wd hw 2 rfl) (wd hw 3 rfl) (by decide) (rm1 l Z az hw [] p2 h0) (W := 0) (by decide) (by decide) (by decide) (by decide) rfl pd_0 (argsL := [(.int p2)]) (rest := []) rfl rfl rfl (Nat.le_of_eq rfl) (q := 19) rfl ?_
    intro T914 X915 e916
    obtain ⟨v917, hv_v917⟩ : ∃ z : Int32, (F_pick p2) = z := ⟨_, rfl⟩
    refine k_istore K X915 at_19 hv_v917 (Ls' := #[.val (.int p0), .val (.int p1), .val (.int p2), .val (.int p3), .val (.int p4), .val (.int p5), .val (.int (5 : Int32)), .val (.int v913), .val (.int v917), .unset, .unset, .unset, .unset, .unset, .unset, .unset, .unset, .unset, .unset, .unset, .unset, .unset, .unset, .unset, .unset, .unset, .unset, .unset]) rfl (q := 21) rfl ?_
    refine k_iloadN K X915 at_21 rfl (q := 22) rfl ?_
    refine k_staticP K X915 e916 at_22 (wd hw 0 rfl) (wd hw 1 rfl) (wd hw 2 rfl) (wd hw 3 rfl) (by decide) (rm1 l Z az hw [] p3 h0) (W := 0) (by decide) (by decide) (by decide) (by decide) rfl pd_0 (argsL := [(.int p3)]) (rest := []) rfl rfl rfl (Nat.le_of_eq rfl) (q := 25) rfl ?_
    intro T918 X919 e920
    obtain ⟨v921, hv_v921⟩ : ∃ z : Int32, (F_pick p3) = z := ⟨_, rfl⟩
    refine k_istore K X919 at_25 hv_v921 (Ls' := #[.val (.int p0), .val (.int p1), .val (.int p2), .val (.int p3), .val (.int p4), .val (.int p5), .val (.int (5 : Int32)), .val (.int v913), .val (.int v917), .val (.int v921), .unset, .unset, .unset, .unset, .unset, .unset, .unset, .unset, .unset, .unset, .unset, .unset, .unset, .unset, .unset, .unset, .unset, .unset]) rfl (q := 27) rfl ?_
    refine k_iload K X919 at_27 rfl (q := 29) rfl ?_
    refine k_staticP K X919 e920 at_29 (wd hw 0 rfl) (wd hw 1 rfl) (wd hw 2 rfl) (wd hw 3 rfl) (by decide) (rm1 l Z az hw [] p4 h0) (W := 0) (by decide) (by decide) (by decide) (by decide) rfl pd_0 (argsL := [(.int p4)]) (rest := []) rfl rfl rfl (Nat.le_of_eq rfl) (q := 32) rfl ?_
    intro T922 X923 e924
    obtain ⟨v925, hv_v925⟩ : ∃ z : Int32, (F_pick p4) = z := ⟨_, rfl⟩
    refine k_istore K X923 at_32 hv_v925 (Ls' := #[.val (.int p0), .val (.int p1), .val (.int p2), .val (.int p3), .val (.int p4), .val (.int p5), .val (.int (5 : Int32)), .val (.int v913), .val (.int v917), .val (.int v921), .val (.int v925), .unset, .unset, .unset, .unset, .unset, .unset, .unset, .unset, .unset, .unset, .unset, .unset, .unset, .unset, .unset, .unset, .unset]) rfl (q := 34) rfl ?_
    refine k_iload K X923 at_34 rfl (q := 36) rfl ?_
    refine k_staticP K X923 e924 at_36 (wd hw 0 rfl) (wd hw 1 rfl) (wd hw 2 rfl) (wd hw 3 rfl) (by decide) (rm1 l Z az hw [] p5 h0) (W := 0) (by decide) (by decide) (by decide) (by decide) rfl pd_0 (argsL := [(.int p5)]) (rest := []) rfl rfl rfl (Nat.le_of_eq rfl) (q := 39) rfl ?_
    intro T926 X927 e928
    obtain ⟨v929, hv_v929⟩ : ∃ z : Int32, (F_pick p5) = z := ⟨_, rfl⟩
    refine k_istore K X927 at_39 hv_v929 (Ls' := #[.val (.int p0), .val (.int p1), .val (.int p2), .val (.int p3), .val (.int p4), .val (.int p5), .val (.int (5 : Int32)), .val (.int v913), .val (.int v917), .val (.int v921), .val (.int v925), .val (.int v929), .unset, .unset, .unset, .unset, .unset, .unset, .unset, .unset, .unset, .unset, .unset, .unset, .unset, .unset, .unset, .unset]) rfl (q := 41) rfl ?_
    refine k_new K X927 e928 at_41 (wd hw 4 rfl) (wd hw 5 rfl) (wd hw 6 rfl) (by decide) (by decide) (q := 44) rfl ?_
    intro T930 h931 b932 X933 e934 g935 E936 A937 D938
    have ge939 : n0 ≤ b932 := Nat.le_trans Z0 (Nat.le_of_eq g935.symm)
    have bn940 : h0.size ≤ b932 := Nat.le_trans K0.1 (Nat.le_of_eq g935.symm)
    have K941 := Keep.ext K0 E936
    have Z942 := Nat.le_trans Z0 E936.1
    have f943 : Fld Z h931 b932 "com/example/wherefore/wherefore/instrument/Quotation" "depth" "I" (.int (0 : Int32)) := D938 (Or.inl (wd hw 19 rfl)) (ty := .int) (by decide)
    have f944 : Fld Z h931 b932 "com/example/wherefore/wherefore/instrument/Quotation" "straight" "Z" (.int (0 : Int32)) := D938 (Or.inl (wd hw 21 rfl)) (ty := .boolean) (by decide)
    refine k_dup K X933 at_44 rfl (q := 45) rfl ?_
    refine k_specialP K X933 e934 at_45 rfl (wd hw 7 rfl) (wd hw 8 rfl) (wd hw 6 rfl) (wd hw 9 rfl) (by decide) (rm2 l Z az hw [] b932 h931) (W := 1) (by decide) (by decide) (by decide) (by decide) rfl pd_1 (argsL := []) (rest := [(.ref b932)]) rfl rfl rfl (Nat.le_of_eq rfl) (q := 48) rfl ?_
    intro T945 X946 e947
    refine k_astore K X946 at_48 rfl (Ls' := #[.val (.int p0), .val (.int p1), .val (.int p2), .val (.int p3), .val (.int p4), .val (.int p5), .val (.int (5 : Int32)), .val (.int v913), .val (.int v917), .val (.int v921), .val (.int v925), .val (.int v929), .val (.ref b932), .unset, .unset, .unset, .unset, .unset, .unset, .unset, .unset, .unset, .unset, .unset, .unset, .unset, .unset, .unset]) rfl (q := 50) rfl ?_
    refine k_iload K X946 at_50 rfl (q := 52) rfl ?_
    refine k_if_le_n K X946 at_52 (by decide) (q := 55) rfl ?_
    refine k_aload K X946 at_55 rfl rfl (q := 57) rfl ?_
    refine k_iload K X946 at_57 rfl (q := 59) rfl ?_
    refine k_virtual K X946 e947 at_59 (wd hw 26 rfl) (wd hw 27 rfl) (wd hw 29 rfl) (wd hw 28 rfl) (wd hw 6 rfl) (wd hw 30 rfl) (by decide) A937 (rm6 l Z az hw [] b932 v913 (0 : Int32) (0 : Int32) h931 n0 Z942 f944 A937 ge939 f943) (W := 0) (by decide) (by decide) (by decide) (by decide) rfl pd_4 (argsL := [(.int v913)]) (rest := []) rfl rfl rfl (Nat.le_of_eq rfl) (q := 62) rfl ?_
    rintro _ T948 L949 X950 ⟨rfl, N951, K952, f954, f955⟩
    have f956 := Exa.keep A937 K952
    have N957 := Fr.app N0 N951
    have K958 := Keep.trans K941 K952 (allS (Or.inr bn940) all0)
    have Z959 := Nat.le_trans Z942 K952.1
    obtain ⟨v960, hv_v960⟩ : ∃ z : Int32, (F_read_a0_depth v913 (0 : Int32) (0 : Int32)) = z := ⟨_, rfl⟩
    rw [hv_v960] at f954
    obtain ⟨v961, hv_v961⟩ : ∃ z : Int32, (F_read_a0_straight v913 (0 : Int32) (0 : Int32)) = z := ⟨_, rfl⟩
    rw [hv_v961] at f955
    refine k_iload K X950 at_62 rfl (q := 64) rfl ?_
    refine k_iconst K X950 at_64 (v := (1 : Int32)) rfl (q := 65) rfl ?_
    refine k_icmp_le_n K X950 at_65 (by decide) (q := 68) rfl ?_
    refine k_aload K X950 at_68 rfl rfl (q := 70) rfl ?_
    refine k_iload K X950 at_70 rfl (q := 72) rfl ?_
    refine k_virtual K X950 rfl at_72 (wd hw 26 rfl) (wd hw 27 rfl) (wd hw 29 rfl) (wd hw 28 rfl) (wd hw 6 rfl) (wd hw 30 rfl) (by decide) f956 (rm6 l Z az hw [] b932 v917 v961 v960 T948.heap n0 Z959 f955 f956 ge939 f954) (W := 0) (by decide) (by decide) (by decide) (by decide) rfl pd_4 (argsL := [(.int v917)]) (rest := []) rfl rfl rfl (Nat.le_of_eq rfl) (q := 75) rfl ?_
    rintro _ T962 L963 X964 ⟨rfl, N965, K966, f968, f969⟩
    have f970 := Exa.keep f956 K966
    have N971 := Fr.app N957 N965
    have K972 := Keep.trans K958 K966 (allS (Or.inr bn940) all0)
    have Z973 := Nat.le_trans Z959 K966.1
    obtain ⟨v974, hv_v974⟩ : ∃ z : Int32, (F_read_a0_depth v917 v961 v960) = z := ⟨_, rfl⟩
    rw [hv_v974] at f968
    obtain ⟨v975, hv_v975⟩ : ∃ z : Int32, (F_read_a0_straight v917 v961 v960) = z := ⟨_, rfl⟩
    rw [hv_v975] at f969
    refine k_iload K X964 at_75 rfl (q := 77) rfl ?_
    refine k_iconst K X964 at_77 (v := (2 : Int32)) rfl (q := 78) rfl ?_
    refine k_icmp_le_n K X964 at_78 (by decide) (q := 81) rfl ?_
    refine k_aload K X964 at_81 rfl rfl (q := 83) rfl ?_
    refine k_iload K X964 at_83 rfl (q := 85) rfl ?_
    refine k_virtual K X964 rfl at_85 (wd hw 26 rfl) (wd hw 27 rfl) (wd hw 29 rfl) (wd hw 28 rfl) (wd hw 6 rfl) (wd hw 30 rfl) (by decide) f970 (rm6 l Z az hw [] b932 v921 v975 v974 T962.heap n0 Z973 f969 f970 ge939 f968) (W := 0) (by decide) (by decide) (by decide) (by decide) rfl pd_4 (argsL := [(.int v921)]) (rest := []) rfl rfl rfl (Nat.le_of_eq rfl) (q := 88) rfl ?_
    rintro _ T976 L977 X978 ⟨rfl, N979, K980, f982, f983⟩
    have f984 := Exa.keep f970 K980
    have N985 := Fr.app N971 N979
    have K986 := Keep.trans K972 K980 (allS (Or.inr bn940) all0)
    have Z987 := Nat.le_trans Z973 K980.1
    obtain ⟨v988, hv_v988⟩ : ∃ z : Int32, (F_read_a0_depth v921 v975 v974) = z := ⟨_, rfl⟩
    rw [hv_v988] at f982
    obtain ⟨v989, hv_v989⟩ : ∃ z : Int32, (F_read_a0_straight v921 v975 v974) = z := ⟨_, rfl⟩
    rw [hv_v989] at f983
    refine k_iload K X978 at_88 rfl (q := 90) rfl ?_
    refine k_iconst K X978 at_90 (v := (3 : Int32)) rfl (q := 91) rfl ?_
    refine k_icmp_le_n K X978 at_91 (by decide) (q := 94) rfl ?_
    refine k_aload K X978 at_94 rfl rfl (q := 96) rfl ?_
    refine k_iload K X978 at_96 rfl (q := 98) rfl ?_
    refine k_virtual K X978 rfl at_98 (wd hw 26 rfl) (wd hw 27 rfl) (wd hw 29 rfl) (wd hw 28 rfl) (wd hw 6 rfl) (wd hw 30 rfl) (by decide) f984 (rm6 l Z az hw [] b932 v925 v989 v988 T976.heap n0 Z987 f983 f984 ge939 f982) (W := 0) (by decide) (by decide) (by decide) (by decide) rfl pd_4 (argsL := [(.int v925)]) (rest := []) rfl rfl rfl (Nat.le_of_eq rfl) (q := 101) rfl ?_
    rintro _ T990 L991 X992 ⟨rfl, N993, K994, f996, f997⟩
    have f998 := Exa.keep f984 K994
    have N999 := Fr.app N985 N993
    have K1000 := Keep.trans K986 K994 (allS (Or.inr bn940) all0)
    have Z1001 := Nat.le_trans Z987 K994.1
    obtain ⟨v1002, hv_v1002⟩ : ∃ z : Int32, (F_read_a0_depth v925 v989 v988) = z := ⟨_, rfl⟩
    rw [hv_v1002] at f996
    obtain ⟨v1003, hv_v1003⟩ : ∃ z : Int32, (F_read_a0_straight v925 v989 v988) = z := ⟨_, rfl⟩
    rw [hv_v1003] at f997
    refine k_iload K X992 at_101 rfl (q := 103) rfl ?_
    refine k_iconst K X992 at_103 (v := (4 : Int32)) rfl (q := 104) rfl ?_
    refine k_icmp_le_n K X992 at_104 (by decide) (q := 107) rfl ?_
    refine k_aload K X992 at_107 rfl rfl (q := 109) rfl ?_
    refine k_iload K X992 at_109 rfl (q := 111) rfl ?_
    refine k_virtual K X992 rfl at_111 (wd hw 26 rfl) (wd hw 27 rfl) (wd hw 29 rfl) (wd hw 28 rfl) (wd hw 6 rfl) (wd hw 30 rfl) (by decide) f998 (rm6 l Z az hw [] b932 v929 v1003 v1002 T990.heap n0 Z1001 f997 f998 ge939 f996) (W := 0) (by decide) (by decide) (by decide) (by decide) rfl pd_4 (argsL := [(.int v929)]) (rest := []) rfl rfl rfl (Nat.le_of_eq rfl) (q := 114) rfl ?_
    rintro _ T1004 L1005 X1006 ⟨rfl, N1007, K1008, f1010, f1011⟩
    have f1012 := Exa.keep f998 K1008
    have N1013 := Fr.app N999 N1007
    have K1014 := Keep.trans K1000 K1008 (allS (Or.inr bn940) all0)
    have Z1015 := Nat.le_trans Z1001 K1008.1
    obtain ⟨v1016, hv_v1016⟩ : ∃ z : Int32, (F_read_a0_depth v929 v1003 v1002) = z := ⟨_, rfl⟩
    rw [hv_v1016] at f1010
    obtain ⟨v1017, hv_v1017⟩ : ∃ z : Int32, (F_read_a0_straight v929 v1003 v1002) = z := ⟨_, rfl⟩
    rw [hv_v1017] at f1011
    refine k_aload K X1006 at_114 rfl rfl (q := 116) rfl ?_
    refine k_virtualP K X1006 rfl at_116 (wd hw 13 rfl) (wd hw 14 rfl) (wd hw 16 rfl) (wd hw 15 rfl) (wd hw 6 rfl) (wd hw 17 rfl) (by decide) f1012 (rm4 l Z az hw [] b932 v1016 v1017 T1004.heap f1010 f1011) (W := 0) (by decide) (by decide) (by decide) (by decide) rfl pd_2 (argsL := []) (rest := []) rfl rfl rfl (Nat.le_of_eq rfl) (q := 119) rfl ?_
    intro T1018 X1019 e1020
    obtain ⟨v1021, hv_v1021⟩ : ∃ z : Int32, (F_inside v1016 v1017) = z := ⟨_, rfl⟩
    refine k_istore K X1019 at_119 hv_v1021 (Ls' := #[.val (.int p0), .val (.int p1), .val (.int p2), .val (.int p3), .val (.int p4), .val (.int p5), .val (.int (5 : Int32)), .val (.int v913), .val (.int v917), .val (.int v921), .val (.int v925), .val (.int v929), .val (.ref b932), .val (.int v1021), .unset, .unset, .unset, .unset, .unset, .unset, .unset, .unset, .unset, .unset, .unset, .unset, .unset, .unset]) rfl (q := 121) rfl ?_
    refine k_iload K X1019 at_121 rfl (q := 123) rfl ?_
    refine k_if_le_n K X1019 at_123 (by decide) (q := 126) rfl ?_
    refine k_iload K X1019 at_126 rfl (q := 128) rfl ?_
    refine k_staticP K X1019 e1020 at_128 (wd hw 31 rfl) (wd hw 32 rfl) (wd hw 2 rfl) (wd hw 33 rfl) (by decide) (rm7 l Z az hw [] v913 T1004.heap) (W := 0) (by decide) (by decide) (by decide) (by decide) rfl pd_5 (argsL := [(.int v913)]) (rest := []) rfl rfl rfl (Nat.le_of_eq rfl) (q := 131) rfl ?_
    intro T1022 X1023 e1024
    refine k_goto K X1023 at_131 (by decide) (q := 135) rfl ?_
    obtain ⟨v1025, hv_v1025⟩ : ∃ z : Int32, (F_delta v913) = z := ⟨_, rfl⟩
    refine k_istore K X1023 at_135 hv_v1025 (Ls' := #[.val (.int p0), .val (.int p1), .val (.int p2), .val (.int p3), .val (.int p4), .val (.int p5), .val (.int (5 : Int32)), .val (.int v913), .val (.int v917), .val (.int v921), .val (.int v925), .val (.int v929), .val (.ref b932), .val (.int v1021), .val (.int v1025), .unset, .unset, .unset, .unset, .unset, .unset, .unset, .unset, .unset, .unset, .unset, .unset, .unset]) rfl (q := 137) rfl ?_
    refine k_iload K X1023 at_137 rfl (q := 139) rfl ?_
    refine k_iconst K X1023 at_139 (v := (1 : Int32)) rfl (q := 140) rfl ?_
    refine k_icmp_le_n K X1023 at_140 (by decide) (q := 143) rfl ?_
    refine k_iload K X1023 at_143 rfl (q := 145) rfl ?_
    refine k_staticP K X1023 e1024 at_145 (wd hw 31 rfl) (wd hw 32 rfl) (wd hw 2 rfl) (wd hw 33 rfl) (by decide) (rm7 l Z az hw [] v917 T1004.heap) (W := 0) (by decide) (by decide) (by decide) (by decide) rfl pd_5 (argsL := [(.int v917)]) (rest := []) rfl rfl rfl (Nat.le_of_eq rfl) (q := 148) rfl ?_
    intro T1026 X1027 e1028
    refine k_goto K X1027 at_148 (by decide) (q := 152) rfl ?_
    obtain ⟨v1029, hv_v1029⟩ : ∃ z : Int32, (F_delta v917) = z := ⟨_, rfl⟩
    refine k_istore K X1027 at_152 hv_v1029 (Ls' := #[.val (.int p0), .val (.int p1), .val (.int p2), .val (.int p3), .val (.int p4), .val (.int p5), .val (.int (5 : Int32)), .val (.int v913), .val (.int v917), .val (.int v921), .val (.int v925), .val (.int v929), .val (.ref b932), .val (.int v1021), .val (.int v1025), .val (.int v1029), .unset, .unset, .unset, .unset, .unset, .unset, .unset, .unset, .unset, .unset, .unset, .unset]) rfl (q := 154) rfl ?_
    refine k_iload K X1027 at_154 rfl (q := 156) rfl ?_
    refine k_iconst K X1027 at_156 (v := (2 : Int32)) rfl (q := 157) rfl ?_
    refine k_icmp_le_n K X1027 at_157 (by decide) (q := 160) rfl ?_
    refine k_iload K X1027 at_160 rfl (q := 162) rfl ?_
    refine k_staticP K X1027 e1028 at_162 (wd hw 31 rfl) (wd hw 32 rfl) (wd hw 2 rfl) (wd hw 33 rfl) (by decide) (rm7 l Z az hw [] v921 T1004.heap) (W := 0) (by decide) (by decide) (by decide) (by decide) rfl pd_5 (argsL := [(.int v921)]) (rest := []) rfl rfl rfl (Nat.le_of_eq rfl) (q := 165) rfl ?_
    intro T1030 X1031 e1032
    refine k_goto K X1031 at_165 (by decide) (q := 169) rfl ?_
    obtain ⟨v1033, hv_v1033⟩ : ∃ z : Int32, (F_delta v921) = z := ⟨_, rfl⟩
    refine k_istore K X1031 at_169 hv_v1033 (Ls' := #[.val (.int p0), .val (.int p1), .val (.int p2), .val (.int p3), .val (.int p4), .val (.int p5), .val (.int (5 : Int32)), .val (.int v913), .val (.int v917), .val (.int v921), .val (.int v925), .val (.int v929), .val (.ref b932), .val (.int v1021), .val (.int v1025), .val (.int v1029), .val (.int v1033), .unset, .unset, .unset, .unset, .unset, .unset, .unset, .unset, .unset, .unset, .unset]) rfl (q := 171) rfl ?_
    refine k_iload K X1031 at_171 rfl (q := 173) rfl ?_
    refine k_iconst K X1031 at_173 (v := (3 : Int32)) rfl (q := 174) rfl ?_
    refine k_icmp_le_n K X1031 at_174 (by decide) (q := 177) rfl ?_
    refine k_iload K X1031 at_177 rfl (q := 179) rfl ?_
    refine k_staticP K X1031 e1032 at_179 (wd hw 31 rfl) (wd hw 32 rfl) (wd hw 2 rfl) (wd hw 33 rfl) (by decide) (rm7 l Z az hw [] v925 T1004.heap) (W := 0) (by decide) (by decide) (by decide) (by decide) rfl pd_5 (argsL := [(.int v925)]) (rest := []) rfl rfl rfl (Nat.le_of_eq rfl) (q := 182) rfl ?_
    intro T1034 X1035 e1036
    refine k_goto K X1035 at_182 (by decide) (q := 186) rfl ?_
    obtain ⟨v1037, hv_v1037⟩ : ∃ z : Int32, (F_delta v925) = z := ⟨_, rfl⟩
    refine k_istore K X1035 at_186 hv_v1037 (Ls' := #[.val (.int p0), .val (.int p1), .val (.int p2), .val (.int p3), .val (.int p4), .val (.int p5), .val (.int (5 : Int32)), .val (.int v913), .val (.int v917), .val (.int v921), .val (.int v925), .val (.int v929), .val (.ref b932), .val (.int v1021), .val (.int v1025), .val (.int v1029), .val (.int v1033), .val (.int v1037), .unset, .unset, .unset, .unset, .unset, .unset, .unset, .unset, .unset, .unset]) rfl (q := 188) rfl ?_
    refine k_iload K X1035 at_188 rfl (q := 190) rfl ?_
    refine k_iconst K X1035 at_190 (v := (4 : Int32)) rfl (q := 191) rfl ?_
    refine k_icmp_le_n K X1035 at_191 (by decide) (q := 194) rfl ?_
    refine k_iload K X1035 at_194 rfl (q := 196) rfl ?_
    refine k_staticP K X1035 e1036 at_196 (wd hw 31 rfl) (wd hw 32 rfl) (wd hw 2 rfl) (wd hw 33 rfl) (by decide) (rm7 l Z az hw [] v929 T1004.heap) (W := 0) (by decide) (by decide) (by decide) (by decide) rfl pd_5 (argsL := [(.int v929)]) (rest := []) rfl rfl rfl (Nat.le_of_eq rfl) (q := 199) rfl ?_
    intro T1038 X1039 e1040
    refine k_goto K X1039 at_199 (by decide) (q := 203) rfl ?_
    obtain ⟨v1041, hv_v1041⟩ : ∃ z : Int32, (F_delta v929) = z := ⟨_, rfl⟩
    refine k_istore K X1039 at_203 hv_v1041 (Ls' := #[.val (.int p0), .val (.int p1), .val (.int p2), .val (.int p3), .val (.int p4), .val (.int p5), .val (.int (5 : Int32)), .val (.int v913), .val (.int v917), .val (.int v921), .val (.int v925), .val (.int v929), .val (.ref b932), .val (.int v1021), .val (.int v1025), .val (.int v1029), .val (.int v1033), .val (.int v1037), .val (.int v1041), .unset, .unset, .unset, .unset, .unset, .unset, .unset, .unset, .unset]) rfl (q := 205) rfl ?_
    refine k_iload K X1039 at_205 rfl (q := 207) rfl ?_
    refine k_istore K X1039 at_207 rfl (Ls' := #[.val (.int p0), .val (.int p1), .val (.int p2), .val (.int p3), .val (.int p4), .val (.int p5), .val (.int (5 : Int32)), .val (.int v913), .val (.int v917), .val (.int v921), .val (.int v925), .val (.int v929), .val (.ref b932), .val (.int v1021), .val (.int v1025), .val (.int v1029), .val (.int v1033), .val (.int v1037), .val (.int v1041), .val (.int v1025), .unset, .unset, .unset, .unset, .unset, .unset, .unset, .unset]) rfl (q := 209) rfl ?_
    refine k_iload K X1039 at_209 rfl (q := 211) rfl ?_
    refine k_iload K X1039 at_211 rfl (q := 213) rfl ?_
    refine k_iadd K X1039 at_213 (q := 214) rfl ?_
    obtain ⟨v1042, hv_v1042⟩ : ∃ z : Int32, (v1025 + v1029) = z := ⟨_, rfl⟩
    refine k_istore K X1039 at_214 hv_v1042 (Ls' := #[.val (.int p0), .val (.int p1), .val (.int p2), .val (.int p3), .val (.int p4), .val (.int p5), .val (.int (5 : Int32)), .val (.int v913), .val (.int v917), .val (.int v921), .val (.int v925), .val (.int v929), .val (.ref b932), .val (.int v1021), .val (.int v1025), .val (.int v1029), .val (.int v1033), .val (.int v1037), .val (.int v1041), .val (.int v1025), .val (.int v1042), .unset, .unset, .unset, .unset, .unset, .unset, .unset]) rfl (q := 216) rfl ?_
    refine k_iload K X1039 at_216 rfl (q := 218) rfl ?_
    refine k_iload K X1039 at_218 rfl (q := 220) rfl ?_
    refine k_iadd K X1039 at_220 (q := 221) rfl ?_
    obtain ⟨v1043, hv_v1043⟩ : ∃ z : Int32, (v1042 + v1033) = z := ⟨_, rfl⟩
    refine k_istore K X1039 at_221 hv_v1043 (Ls' := #[.val (.int p0), .val (.int p1), .val (.int p2), .val (.int p3), .val (.int p4), .val (.int p5), .val (.int (5 : Int32)), .val (.int v913), .val (.int v917), .val (.int v921), .val (.int v925), .val (.int v929), .val (.ref b932), .val (.int v1021), .val (.int v1025), .val (.int v1029), .val (.int v1033), .val (.int v1037), .val (.int v1041), .val (.int v1025), .val (.int v1042), .val (.int v1043), .unset, .unset, .unset, .unset, .unset, .unset]) rfl (q := 223) rfl ?_
    refine k_iload K X1039 at_223 rfl (q := 225) rfl ?_
    refine k_iload K X1039 at_225 rfl (q := 227) rfl ?_
    refine k_iadd K X1039 at_227 (q := 228) rfl ?_
    obtain ⟨v1044, hv_v1044⟩ : ∃ z : Int32, (v1043 + v1037) = z := ⟨_, rfl⟩
    refine k_istore K X1039 at_228 hv_v1044 (Ls' := #[.val (.int p0), .val (.int p1), .val (.int p2), .val (.int p3), .val (.int p4), .val (.int p5), .val (.int (5 : Int32)), .val (.int v913), .val (.int v917), .val (.int v921), .val (.int v925), .val (.int v929), .val (.ref b932), .val (.int v1021), .val (.int v1025), .val (.int v1029), .val (.int v1033), .val (.int v1037), .val (.int v1041), .val (.int v1025), .val (.int v1042), .val (.int v1043), .val (.int v1044), .unset, .unset, .unset, .unset, .unset]) rfl (q := 230) rfl ?_
    refine k_iload K X1039 at_230 rfl (q := 232) rfl ?_
    refine k_iload K X1039 at_232 rfl (q := 234) rfl ?_
    refine k_iadd K X1039 at_234 (q := 235) rfl ?_
    obtain ⟨v1045, hv_v1045⟩ : ∃ z : Int32, (v1044 + v1041) = z := ⟨_, rfl⟩
    refine k_istore K X1039 at_235 hv_v1045 (Ls' := #[.val (.int p0), .val (.int p1), .val (.int p2), .val (.int p3), .val (.int p4), .val (.int p5), .val (.int (5 : Int32)), .val (.int v913), .val (.int v917), .val (.int v921), .val (.int v925), .val (.int v929), .val (.ref b932), .val (.int v1021), .val (.int v1025), .val (.int v1029), .val (.int v1033), .val (.int v1037), .val (.int v1041), .val (.int v1025), .val (.int v1042), .val (.int v1043), .val (.int v1044), .val (.int v1045), .unset, .unset, .unset, .unset]) rfl (q := 237) rfl ?_
    refine k_iconst K X1039 at_237 (v := (0 : Int32)) rfl (q := 238) rfl ?_
    refine k_iload K X1039 at_238 rfl (q := 240) rfl ?_
    refine k_iload K X1039 at_240 rfl (q := 242) rfl ?_
    refine k_iload K X1039 at_242 rfl (q := 244) rfl ?_
    refine k_iload K X1039 at_244 rfl (q := 246) rfl ?_
    refine k_iload K X1039 at_246 rfl (q := 248) rfl ?_
    refine k_staticP K X1039 e1040 at_248 (wd hw 22 rfl) (wd hw 23 rfl) (wd hw 24 rfl) (wd hw 25 rfl) (by decide) (rm5 l Z az hw [] v1044 v1045 T1004.heap) (W := 4) (by decide) (by decide) (by decide) (by decide) rfl pd_3 (argsL := [(.int v1044), (.int v1045)]) (rest := [(.int v1043), (.int v1042), (.int v1025), (.int (0 : Int32))]) rfl rfl rfl (Nat.le_of_eq rfl) (q := 251) rfl ?_
    intro T1046 X1047 e1048
    refine k_staticP K X1047 e1048 at_251 (wd hw 22 rfl) (wd hw 23 rfl) (wd hw 24 rfl) (wd hw 25 rfl) (by decide) (rm5 l Z az hw [] v1043 (F_min v1044 v1045) T1004.heap) (W := 3) (by decide) (by decide) (by decide) (by decide) rfl pd_3 (argsL := [(.int v1043), (.int (F_min v1044 v1045))]) (rest := [(.int v1042), (.int v1025), (.int (0 : Int32))]) rfl rfl rfl (Nat.le_of_eq rfl) (q := 254) rfl ?_
    intro T1049 X1050 e1051
    refine k_staticP K X1050 e1051 at_254 (wd hw 22 rfl) (wd hw 23 rfl) (wd hw 24 rfl) (wd hw 25 rfl) (by decide) (rm5 l Z az hw [] v1042 (F_min v1043 (F_min v1044 v1045)) T1004.heap) (W := 2) (by decide) (by decide) (by decide) (by decide) rfl pd_3 (argsL := [(.int v1042), (.int (F_min v1043 (F_min v1044 v1045)))]) (rest := [(.int v1025), (.int (0 : Int32))]) rfl rfl rfl (Nat.le_of_eq rfl) (q := 257) rfl ?_
    intro T1052 X1053 e1054
    refine k_staticP K X1053 e1054 at_257 (wd hw 22 rfl) (wd hw 23 rfl) (wd hw 24 rfl) (wd hw 25 rfl) (by decide) (rm5 l Z az hw [] v1025 (F_min v1042 (F_min v1043 (F_min v1044 v1045))) T1004.heap) (W := 1) (by decide) (by decide) (by decide) (by decide) rfl pd_3 (argsL := [(.int v1025), (.int (F_min v1042 (F_min v1043 (F_min v1044 v1045))))]) (rest := [(.int (0 : Int32))]) rfl rfl rfl (Nat.le_of_eq rfl) (q := 260) rfl ?_
    intro T1055 X1056 e1057
    refine k_staticP K X1056 e1057 at_260 (wd hw 22 rfl) (wd hw 23 rfl) (wd hw 24 rfl) (wd hw 25 rfl) (by decide) (rm5 l Z az hw [] (0 : Int32) (F_min v1025 (F_min v1042 (F_min v1043 (F_min v1044 v1045)))) T1004.heap) (W := 0) (by decide) (by decide) (by decide) (by decide) rfl pd_3 (argsL := [(.int (0 : Int32)), (.int (F_min v1025 (F_min v1042 (F_min v1043 (F_min v1044 v1045)))))]) (rest := []) rfl rfl rfl (Nat.le_of_eq rfl) (q := 263) rfl ?_
    intro T1058 X1059 e1060
    obtain ⟨v1061, hv_v1061⟩ : ∃ z : Int32, (F_min (0 : Int32) (F_min v1025 (F_min v1042 (F_min v1043 (F_min v1044 v1045))))) = z := ⟨_, rfl⟩
    refine k_istore K X1059 at_263 hv_v1061 (Ls' := #[.val (.int p0), .val (.int p1), .val (.int p2), .val (.int p3), .val (.int p4), .val (.int p5), .val (.int (5 : Int32)), .val (.int v913), .val (.int v917), .val (.int v921), .val (.int v925), .val (.int v929), .val (.ref b932), .val (.int v1021), .val (.int v1025), .val (.int v1029), .val (.int v1033), .val (.int v1037), .val (.int v1041), .val (.int v1025), .val (.int v1042), .val (.int v1043), .val (.int v1044), .val (.int v1045), .val (.int v1061), .unset, .unset, .unset]) rfl (q := 265) rfl ?_
    refine k_iload K X1059 at_265 rfl (q := 267) rfl ?_
    refine k_iload K X1059 at_267 rfl (q := 269) rfl ?_
    refine k_isub K X1059 at_269 (q := 270) rfl ?_
    obtain ⟨v1062, hv_v1062⟩ : ∃ z : Int32, (v1045 - v1061) = z := ⟨_, rfl⟩
    refine k_istore K X1059 at_270 hv_v1062 (Ls' := #[.val (.int p0), .val (.int p1), .val (.int p2), .val (.int p3), .val (.int p4), .val (.int p5), .val (.int (5 : Int32)), .val (.int v913), .val (.int v917), .val (.int v921), .val (.int v925), .val (.int v929), .val (.ref b932), .val (.int v1021), .val (.int v1025), .val (.int v1029), .val (.int v1033), .val (.int v1037), .val (.int v1041), .val (.int v1025), .val (.int v1042), .val (.int v1043), .val (.int v1044), .val (.int v1045), .val (.int v1061), .val (.int v1062), .unset, .unset]) rfl (q := 272) rfl ?_
    refine k_iload K X1059 at_272 rfl (q := 274) rfl ?_
    refine k_if_le_n K X1059 at_274 (by decide) (q := 277) rfl ?_
    refine k_iload K X1059 at_277 rfl (q := 279) rfl ?_
    refine k_staticP K X1059 e1060 at_279 (wd hw 34 rfl) (wd hw 35 rfl) (wd hw 2 rfl) (wd hw 36 rfl) (by decide) (rm8 l Z az hw [] v913 T1004.heap) (W := 0) (by decide) (by decide) (by decide) (by decide) rfl pd_5 (argsL := [(.int v913)]) (rest := []) rfl rfl rfl (Nat.le_of_eq rfl) (q := 282) rfl ?_
    intro T1063 X1064 e1065
    refine k_goto K X1064 at_282 (by decide) (q := 286) rfl ?_
    refine k_iload K X1064 at_286 rfl (q := 288) rfl ?_
    refine k_iconst K X1064 at_288 (v := (1 : Int32)) rfl (q := 289) rfl ?_
    refine k_icmp_le_n K X1064 at_289 (by decide) (q := 292) rfl ?_
    refine k_iload K X1064 at_292 rfl (q := 294) rfl ?_
    refine k_staticP K X1064 e1065 at_294 (wd hw 34 rfl) (wd hw 35 rfl) (wd hw 2 rfl) (wd hw 36 rfl) (by decide) (rm8 l Z az hw [] v917 T1004.heap) (W := 1) (by decide) (by decide) (by decide) (by decide) rfl pd_5 (argsL := [(.int v917)]) (rest := [(.int (F_quote v913))]) rfl rfl rfl (Nat.le_of_eq rfl) (q := 297) rfl ?_
    intro T1066 X1067 e1068
    refine k_goto K X1067 at_297 (by decide) (q := 301) rfl ?_
    refine k_iadd K X1067 at_301 (q := 302) rfl ?_
    refine k_iload K X1067 at_302 rfl (q := 304) rfl ?_
    refine k_iconst K X1067 at_304 (v := (2 : Int32)) rfl (q := 305) rfl ?_
    refine k_icmp_le_n K X1067 at_305 (by decide) (q := 308) rfl ?_
    refine k_iload K X1067 at_308 rfl (q := 310) rfl ?_
    refine k_staticP K X1067 e1068 at_310 (wd hw 34 rfl) (wd hw 35 rfl) (wd hw 2 rfl) (wd hw 36 rfl) (by decide) (rm8 l Z az hw [] v921 T1004.heap) (W := 1) (by decide) (by decide) (by decide) (by decide) rfl pd_5 (argsL := [(.int v921)]) (rest := [(.int ((F_quote v913) + (F_quote v917)))]) rfl rfl rfl (Nat.le_of_eq rfl) (q := 313) rfl ?_
    intro T1069 X1070 e1071
    refine k_goto K X1070 at_313 (by decide) (q := 317) rfl ?_
    refine k_iadd K X1070 at_317 (q := 318) rfl ?_
    refine k_iload K X1070 at_318 rfl (q := 320) rfl ?_
    refine k_iconst K X1070 at_320 (v := (3 : Int32)) rfl (q := 321) rfl ?_
    refine k_icmp_le_n K X1070 at_321 (by decide) (q := 324) rfl ?_
    refine k_iload K X1070 at_324 rfl (q := 326) rfl ?_
    refine k_staticP K X1070 e1071 at_326 (wd hw 34 rfl) (wd hw 35 rfl) (wd hw 2 rfl) (wd hw 36 rfl) (by decide) (rm8 l Z az hw [] v925 T1004.heap) (W := 1) (by decide) (by decide) (by decide) (by decide) rfl pd_5 (argsL := [(.int v925)]) (rest := [(.int (((F_quote v913) + (F_quote v917)) + (F_quote v921)))]) rfl rfl rfl (Nat.le_of_eq rfl) (q := 329) rfl ?_
    intro T1072 X1073 e1074
    refine k_goto K X1073 at_329 (by decide) (q := 333) rfl ?_
    refine k_iadd K X1073 at_333 (q := 334) rfl ?_
    refine k_iload K X1073 at_334 rfl (q := 336) rfl ?_
    refine k_iconst K X1073 at_336 (v := (4 : Int32)) rfl (q := 337) rfl ?_
    refine k_icmp_le_n K X1073 at_337 (by decide) (q := 340) rfl ?_
    refine k_iload K X1073 at_340 rfl (q := 342) rfl ?_
    refine k_staticP K X1073 e1074 at_342 (wd hw 34 rfl) (wd hw 35 rfl) (wd hw 2 rfl) (wd hw 36 rfl) (by decide) (rm8 l Z az hw [] v929 T1004.heap) (W := 1) (by decide) (by decide) (by decide) (by decide) rfl pd_5 (argsL := [(.int v929)]) (rest := [(.int ((((F_quote v913) + (F_quote v917)) + (F_quote v921)) + (F_quote v925)))]) rfl rfl rfl (Nat.le_of_eq rfl) (q := 345) rfl ?_
    intro T1075 X1076 e1077
    refine k_goto K X1076 at_345 (by decide) (q := 349) rfl ?_
    refine k_iadd K X1076 at_349 (q := 350) rfl ?_
    obtain ⟨v1078, hv_v1078⟩ : ∃ z : Int32, (((((F_quote v913) + (F_quote v917)) + (F_quote v921)) + (F_quote v925)) + (F_quote v929)) = z := ⟨_, rfl⟩
    refine k_istore K X1076 at_350 hv_v1078 (Ls' := #[.val (.int p0), .val (.int p1), .val (.int p2), .val (.int p3), .val (.int p4), .val (.int p5), .val (.int (5 : Int32)), .val (.int v913), .val (.int v917), .val (.int v921), .val (.int v925), .val (.int v929), .val (.ref b932), .val (.int v1021), .val (.int v1025), .val (.int v1029), .val (.int v1033), .val (.int v1037), .val (.int v1041), .val (.int v1025), .val (.int v1042), .val (.int v1043), .val (.int v1044), .val (.int v1045), .val (.int v1061), .val (.int v1062), .val (.int v1078), .unset]) rfl (q := 352) rfl ?_
    refine k_iload K X1076 at_352 rfl (q := 354) rfl ?_
    have J1082 : ∀ (d1081 : Int32), (if (0 : Int32) < v1062 then (1 : Int32) else (if (v1078 &&& (1 : Int32)) = (0 : Int32) then (0 : Int32) else (1 : Int32))) = d1081 → Run p e below s kc kn Q T1075 (mkF m 369 #[.val (.int p0), .val (.int p1), .val (.int p2), .val (.int p3), .val (.int p4), .val (.int p5), .val (.int (5 : Int32)), .val (.int v913), .val (.int v917), .val (.int v921), .val (.int v925), .val (.int v929), .val (.ref b932), .val (.int v1021), .val (.int v1025), .val (.int v1029), .val (.int v1033), .val (.int v1037), .val (.int v1041), .val (.int v1025), .val (.int v1042), .val (.int v1043), .val (.int v1044), .val (.int v1045), .val (.int v1061), .val (.int v1062), .val (.int v1078), .unset] [(.int d1081)]) := by
      intro d1081 hv_d1081
      refine k_istore K X1076 at_369 rfl (Ls' := #[.val (.int p0), .val (.int p1), .val (.int p2), .val (.int p3), .val (.int p4), .val (.int p5), .val (.int (5 : Int32)), .val (.int v913), .val (.int v917), .val (.int v921), .val (.int v925), .val (.int v929), .val (.ref b932), .val (.int v1021), .val (.int v1025), .val (.int v1029), .val (.int v1033), .val (.int v1037), .val (.int v1041), .val (.int v1025), .val (.int v1042), .val (.int v1043), .val (.int v1044), .val (.int v1045), .val (.int v1061), .val (.int v1062), .val (.int v1078), .val (.int d1081)]) rfl (q := 371) rfl ?_
      refine k_iload K X1076 at_371 rfl (q := 373) rfl ?_
      refine k_iload K X1076 at_373 rfl (q := 375) rfl ?_
      have J1085 : ∀ (d1084 : Int32), (if v1021 = d1081 then (1 : Int32) else (0 : Int32)) = d1084 → Run p e below s kc kn Q T1075 (mkF m 383 #[.val (.int p0), .val (.int p1), .val (.int p2), .val (.int p3), .val (.int p4), .val (.int p5), .val (.int (5 : Int32)), .val (.int v913), .val (.int v917), .val (.int v921), .val (.int v925), .val (.int v929), .val (.ref b932), .val (.int v1021), .val (.int v1025), .val (.int v1029), .val (.int v1033), .val (.int v1037), .val (.int v1041), .val (.int v1025), .val (.int v1042), .val (.int v1043), .val (.int v1044), .val (.int v1045), .val (.int v1061), .val (.int v1062), .val (.int v1078), .val (.int d1081)] [(.int d1084)]) := by
        intro d1084 hv_d1084
        exact k_retz K X1076 e1077 at_383 (Nat.le_trans (by decide) hkc) (Nat.le_trans (by decide) hkn) (hQ _ _ _ ⟨(by show some (Value.int (nar .boolean d1084)) = some (Value.int (F_law p0 p1 p2 p3 p4 p5)); simp only [F_law, hv_v336, hv_v913, hv_v917, hv_v921, hv_v925, hv_v929, hv_v960, hv_v961, hv_v974, hv_v975, hv_v988, hv_v989, hv_v1002, hv_v1003, hv_v1016, hv_v1017, hv_v1021, hv_v1025, hv_v1029, hv_v1033, hv_v1037, hv_v1041, hv_v1042, hv_v1043, hv_v1044, hv_v1045, hv_v1061, hv_v1062, hv_v1078, hv_d1081, hv_d1084, if_neg hs337, if_neg hs399, if_neg hs495, if_neg hs612, if_neg hs750, if_pos (rfl : (5 : Int32) = (5 : Int32)), if_true]), N1013⟩)
      refine k_icmp_ne K X1076 at_375 (by decide) (q := 382) rfl (q' := 378) rfl ?_ ?_
      · intro hc1086
        refine k_iconst K X1076 at_382 (v := (0 : Int32)) rfl (q := 383) rfl ?_
        exact J1085 _ (by first | rfl | (simp only [if_neg hc1086]))
      · intro hc1086
        refine k_iconst K X1076 at_378 (v := (1 : Int32)) rfl (q := 379) rfl ?_
        refine k_goto K X1076 at_379 (by decide) (q := 383) rfl ?_
        exact J1085 _ (by first | rfl | (simp only [if_pos hc1086]))
    refine k_if_gt K X1076 at_354 (by decide) (q := 364) rfl (q' := 357) rfl ?_ ?_
    · intro hc1087
      refine k_iconst K X1076 at_364 (v := (1 : Int32)) rfl (q := 365) rfl ?_
      refine k_goto K X1076 at_365 (by decide) (q := 369) rfl ?_
      exact J1082 _ (by first | rfl | (simp only [if_pos hc1087]))
    · intro hc1087
      refine k_iload K X1076 at_357 rfl (q := 359) rfl ?_
      refine k_iconst K X1076 at_359 (v := (1 : Int32)) rfl (q := 360) rfl ?_
      refine k_iand K X1076 at_360 (q := 361) rfl ?_
      refine k_if_eq K X1076 at_361 (by decide) (q := 368) rfl (q' := 364) rfl ?_ ?_
      · intro hc1088
        refine k_iconst K X1076 at_368 (v := (0 : Int32)) rfl (q := 369) rfl ?_
        exact J1082 _ (by first | rfl | (simp only [if_neg hc1087, if_pos hc1088]))
      · intro hc1088
        refine k_iconst K X1076 at_364 (v := (1 : Int32)) rfl (q := 365) rfl ?_
        refine k_goto K X1076 at_365 (by decide) (q := 369) rfl ?_
        exact J1082 _ (by first | rfl | (simp only [if_neg hc1087, if_neg hc1088]))
  exact absurd hv_v336 (own_cnt _ _ hs337 hs399 hs495 hs612 hs750 hs909)
theorem own_dl (c : Int32) : (c = 8220 ∧ (F_delta c).toInt = 1 ∧ (F_quote c).toInt = 0) ∨ (c = 8221 ∧ (F_delta c).toInt = -1 ∧ (F_quote c).toInt = 0) ∨ (c = 34 ∧ (F_delta c).toInt = 0 ∧ (F_quote c).toInt = 1) ∨ (¬ c = 8220 ∧ ¬ c = 8221 ∧ ¬ c = 34 ∧ (F_delta c).toInt = 0 ∧ (F_quote c).toInt = 0) := by
  by_cases h1 : c = 8220
  · subst h1; exact Or.inl ⟨rfl, by decide, by decide⟩
  · by_cases h2 : c = 8221
    · subst h2; exact Or.inr (Or.inl ⟨rfl, by decide, by decide⟩)
    · by_cases h3 : c = 34
      · subst h3; exact Or.inr (Or.inr (Or.inl ⟨rfl, by decide, by decide⟩))
      · refine Or.inr (Or.inr (Or.inr ⟨h1, h2, h3, ?_, ?_⟩))
        · simp only [F_delta, if_neg h1, if_neg h2]; decide
        · simp only [F_quote, if_neg h3]; decide
theorem own_rd (c S D : Int32) (d0 : 0 ≤ D.toInt) (d1 : D.toInt ≤ 100) (s0 : 0 ≤ S.toInt) (s1 : S.toInt ≤ 1) :
    ((0 ≤ D.toInt + (F_delta c).toInt → (F_read_a0_depth c S D).toInt = D.toInt + (F_delta c).toInt) ∧ (D.toInt + (F_delta c).toInt < 0 → (F_read_a0_depth c S D).toInt = 0)) ∧ (F_read_a0_straight c S D).toInt = (S.toInt + (F_quote c).toInt) % 2 ∧ -1 ≤ (F_delta c).toInt ∧ (F_delta c).toInt ≤ 1 ∧ 0 ≤ (F_quote c).toInt ∧ (F_quote c).toInt ≤ 1 := by
  have e0 : (0 : Int32).toInt = 0 := rfl
  have e1 : (1 : Int32).toInt = 1 := rfl
  rcases own_dl c with ⟨rfl, a, b⟩ | ⟨rfl, a, b⟩ | ⟨rfl, a, b⟩ | ⟨h1, h2, h3, a, b⟩
  · have x1 : F_read_a0_depth 8220 S D = D + 1 := by simp only [F_read_a0_depth, if_true]
    have x2 : F_read_a0_straight 8220 S D = S := by simp only [F_read_a0_straight, if_true]
    rw [x1, x2, a, b]
    have := c_iadd D 1; have := rng32 (D + 1)
    omega
  · have n1 : ¬ ((8221 : Int32) = 8220) := by decide
    have n2 : ¬ ((8221 : Int32) = 34) := by decide
    have x2 : F_read_a0_straight 8221 S D = S := by simp only [F_read_a0_straight, if_neg n1, if_neg n2, if_true, ite_self]
    by_cases k : (0 : Int32) < D
    · have x1 : F_read_a0_depth 8221 S D = D - 1 := by simp only [F_read_a0_depth, if_neg n1, if_pos k, if_true]
      rw [x1, x2, a, b]
      have := c_isub D 1; have := rng32 (D - 1); have := own_ltI.mp k
      omega
    · have x1 : F_read_a0_depth 8221 S D = D := by simp only [F_read_a0_depth, if_neg n1, if_neg n2, if_neg k, if_true]
      rw [x1, x2, a, b]
      rw [own_ltI] at k
      omega
  · have n1 : ¬ ((34 : Int32) = 8220) := by decide
    have n2 : ¬ ((34 : Int32) = 8221) := by decide
    have x1 : F_read_a0_depth 34 S D = D := by simp only [F_read_a0_depth, if_neg n1, if_neg n2, if_true]
    by_cases k : S = 0
    · have x2 : F_read_a0_straight 34 S D = 1 := by simp only [F_read_a0_straight, if_neg n1, if_neg n2, if_pos k, if_true]; decide
      rw [x1, x2, a, b]; rw [own_eqI] at k
      omega
    · have x2 : F_read_a0_straight 34 S D = 0 := by simp only [F_read_a0_straight, if_neg n1, if_neg n2, if_neg k, if_true]; decide
      rw [x1, x2, a, b]; rw [own_eqI] at k
      omega
  · have x1 : F_read_a0_depth c S D = D := by simp only [F_read_a0_depth, if_neg h1, if_neg h2, if_neg h3]
    have x2 : F_read_a0_straight c S D = S := by simp only [F_read_a0_straight, if_neg h1, if_neg h2, if_neg h3]
    rw [x1, x2, a, b]
    omega
theorem own_add (x y : Int32) (h1 : -1000 ≤ x.toInt + y.toInt) (h2 : x.toInt + y.toInt ≤ 1000) : (x + y).toInt = x.toInt + y.toInt := by
  have := c_iadd x y; have := rng32 (x + y); omega
theorem own_sub (x y : Int32) (h1 : -1000 ≤ x.toInt - y.toInt) (h2 : x.toInt - y.toInt ≤ 1000) : (x - y).toInt = x.toInt - y.toInt := by
  have := c_isub x y; have := rng32 (x - y); omega
theorem own_mn (a b : Int32) : (F_min a b).toInt = min a.toInt b.toInt := by
  simp only [F_min]
  by_cases k : b < a
  · rw [if_pos k]; have := own_ltI.mp k; omega
  · rw [if_neg k]; rw [own_ltI] at k; omega
theorem own_ms (D s M e D' : Int) (h : D = s - M) (hM : M ≤ s) (r : (0 ≤ D + e → D' = D + e) ∧ (D + e < 0 → D' = 0)) (h1 : -1 ≤ e) (h2 : e ≤ 1) : D' = (s + e) - min M (s + e) ∧ min M (s + e) ≤ s + e := by
  omega
/-- the two answers are one -/
theorem own_fin (D S x q : Int32) (h1 : D.toInt = x.toInt) (h2 : S.toInt = q.toInt % 2) :
    (if F_inside D S = (if (0 : Int32) < x then (1 : Int32) else if (q &&& 1) = 0 then 0 else 1) then (1 : Int32) else 0) = 1 := by
  have e : D = x := own_eqI.mpr h1
  have e2 : S = q &&& 1 := own_eqI.mpr (by rw [h2]; exact (c_mask q 1 1 (by decide) (by decide)).symm)
  subst e e2
  have h : F_inside D (q &&& 1) = (if (0 : Int32) < D then (1 : Int32) else if (q &&& 1) = 0 then 0 else 1) := by
    simp only [F_inside]
    by_cases k : (0 : Int32) < D
    · simp only [if_pos k]; decide
    · by_cases k2 : (q &&& 1) = 0
      · simp only [if_neg k, if_pos k2]; decide
      · simp only [if_neg k, if_neg k2]; decide
  rw [h, if_pos rfl]
theorem own_z {x : Int32} (h : x = 1) : nar .boolean x = 1 := by subst h; decide
theorem own_l1 (c1 D1 S1 : Int32) (hD1 : F_read_a0_depth c1 0 0 = D1) (hS1 : F_read_a0_straight c1 0 0 = S1) : (if F_inside D1 S1 = (if (0 : Int32) < (((((F_delta c1 + (0 : Int32)) + (0 : Int32)) + (0 : Int32)) + (0 : Int32)) - (F_min 0 (F_min (F_delta c1) (F_min (F_delta c1 + (0 : Int32)) (F_min ((F_delta c1 + (0 : Int32)) + (0 : Int32)) (F_min (((F_delta c1 + (0 : Int32)) + (0 : Int32)) + (0 : Int32)) ((((F_delta c1 + (0 : Int32)) + (0 : Int32)) + (0 : Int32)) + (0 : Int32)))))))) then (1 : Int32) else if (((((F_quote c1 + (0 : Int32)) + (0 : Int32)) + (0 : Int32)) + (0 : Int32)) &&& 1) = 0 then 0 else 1) then (1 : Int32) else 0) = 1 := by
  have e0 : (0 : Int32).toInt = 0 := rfl
  have r1 := own_rd c1 0 0 (by decide) (by decide) (by decide) (by decide)
  rw [hD1, hS1] at r1
  clear hD1 hS1
  generalize F_delta c1 = e1 at *
  generalize F_quote c1 = q1 at *
  have k1 := own_ms 0 0 0 e1.toInt D1.toInt (by omega) (by omega) ⟨fun z => by have := r1.1.1 (by omega); omega, fun z => r1.1.2 (by omega)⟩ (by omega) (by omega)
  simp only [Int.zero_add] at k1
  have a2 := own_add e1 0 (by omega) (by omega)
  generalize e1 + 0 = s2 at *
  rw [e0, Int.add_zero] at a2
  have a3 := own_add s2 0 (by omega) (by omega)
  generalize s2 + 0 = s3 at *
  rw [e0, Int.add_zero] at a3
  have a4 := own_add s3 0 (by omega) (by omega)
  generalize s3 + 0 = s4 at *
  rw [e0, Int.add_zero] at a4
  have a5 := own_add s4 0 (by omega) (by omega)
  generalize s4 + 0 = s5 at *
  rw [e0, Int.add_zero] at a5
  have := own_add q1 0 (by omega) (by omega)
  generalize q1 + 0 = t2 at *
  have := own_add t2 0 (by omega) (by omega)
  generalize t2 + 0 = t3 at *
  have := own_add t3 0 (by omega) (by omega)
  generalize t3 + 0 = t4 at *
  have := own_add t4 0 (by omega) (by omega)
  generalize t4 + 0 = t5 at *
  have lo : (F_min 0 (F_min e1 (F_min s2 (F_min s3 (F_min s4 s5))))).toInt = min 0 (min e1.toInt (min s2.toInt (min s3.toInt (min s4.toInt s5.toInt)))) := by rw [own_mn, own_mn, own_mn, own_mn, own_mn]; rfl
  have hb : -10 ≤ (F_min 0 (F_min e1 (F_min s2 (F_min s3 (F_min s4 s5))))).toInt ∧ (F_min 0 (F_min e1 (F_min s2 (F_min s3 (F_min s4 s5))))).toInt ≤ 10 := by rw [lo]; omega
  have sb := own_sub s5 (F_min 0 (F_min e1 (F_min s2 (F_min s3 (F_min s4 s5))))) (by omega) (by omega)
  refine own_fin D1 S1 _ t5 ?_ (by omega)
  rw [sb, lo, k1.1]
  simp only [a5, a4, a3, a2, Int.min_assoc, Int.min_self]
theorem own_l2 (c1 D1 S1 c2 D2 S2 : Int32) (hD1 : F_read_a0_depth c1 0 0 = D1) (hS1 : F_read_a0_straight c1 0 0 = S1) (hD2 : F_read_a0_depth c2 S1 D1 = D2) (hS2 : F_read_a0_straight c2 S1 D1 = S2) : (if F_inside D2 S2 = (if (0 : Int32) < (((((F_delta c1 + F_delta c2) + (0 : Int32)) + (0 : Int32)) + (0 : Int32)) - (F_min 0 (F_min (F_delta c1) (F_min (F_delta c1 + F_delta c2) (F_min ((F_delta c1 + F_delta c2) + (0 : Int32)) (F_min (((F_delta c1 + F_delta c2) + (0 : Int32)) + (0 : Int32)) ((((F_delta c1 + F_delta c2) + (0 : Int32)) + (0 : Int32)) + (0 : Int32)))))))) then (1 : Int32) else if (((((F_quote c1 + F_quote c2) + (0 : Int32)) + (0 : Int32)) + (0 : Int32)) &&& 1) = 0 then 0 else 1) then (1 : Int32) else 0) = 1 := by
  have e0 : (0 : Int32).toInt = 0 := rfl
  have r1 := own_rd c1 0 0 (by decide) (by decide) (by decide) (by decide)
  rw [hD1, hS1] at r1
  clear hD1 hS1
  generalize F_delta c1 = e1 at *
  generalize F_quote c1 = q1 at *
  have r2 := own_rd c2 S1 D1 (by omega) (by omega) (by omega) (by omega)
  rw [hD2, hS2] at r2
  clear hD2 hS2
  generalize F_delta c2 = e2 at *
  generalize F_quote c2 = q2 at *
  have k1 := own_ms 0 0 0 e1.toInt D1.toInt (by omega) (by omega) ⟨fun z => by have := r1.1.1 (by omega); omega, fun z => r1.1.2 (by omega)⟩ (by omega) (by omega)
  simp only [Int.zero_add] at k1
  have a2 := own_add e1 e2 (by omega) (by omega)
  generalize e1 + e2 = s2 at *
  have k2 := own_ms D1.toInt e1.toInt (min 0 e1.toInt) e2.toInt D2.toInt k1.1 k1.2 r2.1 (by omega) (by omega)
  rw [← a2] at k2
  have a3 := own_add s2 0 (by omega) (by omega)
  generalize s2 + 0 = s3 at *
  rw [e0, Int.add_zero] at a3
  have a4 := own_add s3 0 (by omega) (by omega)
  generalize s3 + 0 = s4 at *
  rw [e0, Int.add_zero] at a4
  have a5 := own_add s4 0 (by omega) (by omega)
  generalize s4 + 0 = s5 at *
  rw [e0, Int.add_zero] at a5
  have := own_add q1 q2 (by omega) (by omega)
  generalize q1 + q2 = t2 at *
  have := own_add t2 0 (by omega) (by omega)
  generalize t2 + 0 = t3 at *
  have := own_add t3 0 (by omega) (by omega)
  generalize t3 + 0 = t4 at *
  have := own_add t4 0 (by omega) (by omega)
  generalize t4 + 0 = t5 at *
  have lo : (F_min 0 (F_min e1 (F_min s2 (F_min s3 (F_min s4 s5))))).toInt = min 0 (min e1.toInt (min s2.toInt (min s3.toInt (min s4.toInt s5.toInt)))) := by rw [own_mn, own_mn, own_mn, own_mn, own_mn]; rfl
  have hb : -10 ≤ (F_min 0 (F_min e1 (F_min s2 (F_min s3 (F_min s4 s5))))).toInt ∧ (F_min 0 (F_min e1 (F_min s2 (F_min s3 (F_min s4 s5))))).toInt ≤ 10 := by rw [lo]; omega
  have sb := own_sub s5 (F_min 0 (F_min e1 (F_min s2 (F_min s3 (F_min s4 s5))))) (by omega) (by omega)
  refine own_fin D2 S2 _ t5 ?_ (by omega)
  rw [sb, lo, k2.1]
  simp only [a5, a4, a3, Int.min_assoc, Int.min_self]
theorem own_l3 (c1 D1 S1 c2 D2 S2 c3 D3 S3 : Int32) (hD1 : F_read_a0_depth c1 0 0 = D1) (hS1 : F_read_a0_straight c1 0 0 = S1) (hD2 : F_read_a0_depth c2 S1 D1 = D2) (hS2 : F_read_a0_straight c2 S1 D1 = S2) (hD3 : F_read_a0_depth c3 S2 D2 = D3) (hS3 : F_read_a0_straight c3 S2 D2 = S3) : (if F_inside D3 S3 = (if (0 : Int32) < (((((F_delta c1 + F_delta c2) + F_delta c3) + (0 : Int32)) + (0 : Int32)) - (F_min 0 (F_min (F_delta c1) (F_min (F_delta c1 + F_delta c2) (F_min ((F_delta c1 + F_delta c2) + F_delta c3) (F_min (((F_delta c1 + F_delta c2) + F_delta c3) + (0 : Int32)) ((((F_delta c1 + F_delta c2) + F_delta c3) + (0 : Int32)) + (0 : Int32)))))))) then (1 : Int32) else if (((((F_quote c1 + F_quote c2) + F_quote c3) + (0 : Int32)) + (0 : Int32)) &&& 1) = 0 then 0 else 1) then (1 : Int32) else 0) = 1 := by
  have e0 : (0 : Int32).toInt = 0 := rfl
  have r1 := own_rd c1 0 0 (by decide) (by decide) (by decide) (by decide)
  rw [hD1, hS1] at r1
  clear hD1 hS1
  generalize F_delta c1 = e1 at *
  generalize F_quote c1 = q1 at *
  have r2 := own_rd c2 S1 D1 (by omega) (by omega) (by omega) (by omega)
  rw [hD2, hS2] at r2
  clear hD2 hS2
  generalize F_delta c2 = e2 at *
  generalize F_quote c2 = q2 at *
  have r3 := own_rd c3 S2 D2 (by omega) (by omega) (by omega) (by omega)
  rw [hD3, hS3] at r3
  clear hD3 hS3
  generalize F_delta c3 = e3 at *
  generalize F_quote c3 = q3 at *
  have k1 := own_ms 0 0 0 e1.toInt D1.toInt (by omega) (by omega) ⟨fun z => by have := r1.1.1 (by omega); omega, fun z => r1.1.2 (by omega)⟩ (by omega) (by omega)
  simp only [Int.zero_add] at k1
  have a2 := own_add e1 e2 (by omega) (by omega)
  generalize e1 + e2 = s2 at *
  have k2 := own_ms D1.toInt e1.toInt (min 0 e1.toInt) e2.toInt D2.toInt k1.1 k1.2 r2.1 (by omega) (by omega)
  rw [← a2] at k2
  have a3 := own_add s2 e3 (by omega) (by omega)
  generalize s2 + e3 = s3 at *
  have k3 := own_ms D2.toInt s2.toInt (min (min 0 e1.toInt) s2.toInt) e3.toInt D3.toInt k2.1 k2.2 r3.1 (by omega) (by omega)
  rw [← a3] at k3
  have a4 := own_add s3 0 (by omega) (by omega)
  generalize s3 + 0 = s4 at *
  rw [e0, Int.add_zero] at a4
  have a5 := own_add s4 0 (by omega) (by omega)
  generalize s4 + 0 = s5 at *
  rw [e0, Int.add_zero] at a5
  have := own_add q1 q2 (by omega) (by omega)
  generalize q1 + q2 = t2 at *
  have := own_add t2 q3 (by omega) (by omega)
  generalize t2 + q3 = t3 at *
  have := own_add t3 0 (by omega) (by omega)
  generalize t3 + 0 = t4 at *
  have := own_add t4 0 (by omega) (by omega)
  generalize t4 + 0 = t5 at *
  have lo : (F_min 0 (F_min e1 (F_min s2 (F_min s3 (F_min s4 s5))))).toInt = min 0 (min e1.toInt (min s2.toInt (min s3.toInt (min s4.toInt s5.toInt)))) := by rw [own_mn, own_mn, own_mn, own_mn, own_mn]; rfl
  have hb : -10 ≤ (F_min 0 (F_min e1 (F_min s2 (F_min s3 (F_min s4 s5))))).toInt ∧ (F_min 0 (F_min e1 (F_min s2 (F_min s3 (F_min s4 s5))))).toInt ≤ 10 := by rw [lo]; omega
  have sb := own_sub s5 (F_min 0 (F_min e1 (F_min s2 (F_min s3 (F_min s4 s5))))) (by omega) (by omega)
  refine own_fin D3 S3 _ t5 ?_ (by omega)
  rw [sb, lo, k3.1]
  simp only [a5, a4, Int.min_assoc, Int.min_self]
theorem own_l4 (c1 D1 S1 c2 D2 S2 c3 D3 S3 c4 D4 S4 : Int32) (hD1 : F_read_a0_depth c1 0 0 = D1) (hS1 : F_read_a0_straight c1 0 0 = S1) (hD2 : F_read_a0_depth c2 S1 D1 = D2) (hS2 : F_read_a0_straight c2 S1 D1 = S2) (hD3 : F_read_a0_depth c3 S2 D2 = D3) (hS3 : F_read_a0_straight c3 S2 D2 = S3) (hD4 : F_read_a0_depth c4 S3 D3 = D4) (hS4 : F_read_a0_straight c4 S3 D3 = S4) : (if F_inside D4 S4 = (if (0 : Int32) < (((((F_delta c1 + F_delta c2) + F_delta c3) + F_delta c4) + (0 : Int32)) - (F_min 0 (F_min (F_delta c1) (F_min (F_delta c1 + F_delta c2) (F_min ((F_delta c1 + F_delta c2) + F_delta c3) (F_min (((F_delta c1 + F_delta c2) + F_delta c3) + F_delta c4) ((((F_delta c1 + F_delta c2) + F_delta c3) + F_delta c4) + (0 : Int32)))))))) then (1 : Int32) else if (((((F_quote c1 + F_quote c2) + F_quote c3) + F_quote c4) + (0 : Int32)) &&& 1) = 0 then 0 else 1) then (1 : Int32) else 0) = 1 := by
  have e0 : (0 : Int32).toInt = 0 := rfl
  have r1 := own_rd c1 0 0 (by decide) (by decide) (by decide) (by decide)
  rw [hD1, hS1] at r1
  clear hD1 hS1
  generalize F_delta c1 = e1 at *
  generalize F_quote c1 = q1 at *
  have r2 := own_rd c2 S1 D1 (by omega) (by omega) (by omega) (by omega)
  rw [hD2, hS2] at r2
  clear hD2 hS2
  generalize F_delta c2 = e2 at *
  generalize F_quote c2 = q2 at *
  have r3 := own_rd c3 S2 D2 (by omega) (by omega) (by omega) (by omega)
  rw [hD3, hS3] at r3
  clear hD3 hS3
  generalize F_delta c3 = e3 at *
  generalize F_quote c3 = q3 at *
  have r4 := own_rd c4 S3 D3 (by omega) (by omega) (by omega) (by omega)
  rw [hD4, hS4] at r4
  clear hD4 hS4
  generalize F_delta c4 = e4 at *
  generalize F_quote c4 = q4 at *
  have k1 := own_ms 0 0 0 e1.toInt D1.toInt (by omega) (by omega) ⟨fun z => by have := r1.1.1 (by omega); omega, fun z => r1.1.2 (by omega)⟩ (by omega) (by omega)
  simp only [Int.zero_add] at k1
  have a2 := own_add e1 e2 (by omega) (by omega)
  generalize e1 + e2 = s2 at *
  have k2 := own_ms D1.toInt e1.toInt (min 0 e1.toInt) e2.toInt D2.toInt k1.1 k1.2 r2.1 (by omega) (by omega)
  rw [← a2] at k2
  have a3 := own_add s2 e3 (by omega) (by omega)
  generalize s2 + e3 = s3 at *
  have k3 := own_ms D2.toInt s2.toInt (min (min 0 e1.toInt) s2.toInt) e3.toInt D3.toInt k2.1 k2.2 r3.1 (by omega) (by omega)
  rw [← a3] at k3
  have a4 := own_add s3 e4 (by omega) (by omega)
  generalize s3 + e4 = s4 at *
  have k4 := own_ms D3.toInt s3.toInt (min (min (min 0 e1.toInt) s2.toInt) s3.toInt) e4.toInt D4.toInt k3.1 k3.2 r4.1 (by omega) (by omega)
  rw [← a4] at k4
  have a5 := own_add s4 0 (by omega) (by omega)
  generalize s4 + 0 = s5 at *
  rw [e0, Int.add_zero] at a5
  have := own_add q1 q2 (by omega) (by omega)
  generalize q1 + q2 = t2 at *
  have := own_add t2 q3 (by omega) (by omega)
  generalize t2 + q3 = t3 at *
  have := own_add t3 q4 (by omega) (by omega)
  generalize t3 + q4 = t4 at *
  have := own_add t4 0 (by omega) (by omega)
  generalize t4 + 0 = t5 at *
  have lo : (F_min 0 (F_min e1 (F_min s2 (F_min s3 (F_min s4 s5))))).toInt = min 0 (min e1.toInt (min s2.toInt (min s3.toInt (min s4.toInt s5.toInt)))) := by rw [own_mn, own_mn, own_mn, own_mn, own_mn]; rfl
  have hb : -10 ≤ (F_min 0 (F_min e1 (F_min s2 (F_min s3 (F_min s4 s5))))).toInt ∧ (F_min 0 (F_min e1 (F_min s2 (F_min s3 (F_min s4 s5))))).toInt ≤ 10 := by rw [lo]; omega
  have sb := own_sub s5 (F_min 0 (F_min e1 (F_min s2 (F_min s3 (F_min s4 s5))))) (by omega) (by omega)
  refine own_fin D4 S4 _ t5 ?_ (by omega)
  rw [sb, lo, k4.1]
  simp only [a5, Int.min_assoc, Int.min_self]
theorem own_l5 (c1 D1 S1 c2 D2 S2 c3 D3 S3 c4 D4 S4 c5 D5 S5 : Int32) (hD1 : F_read_a0_depth c1 0 0 = D1) (hS1 : F_read_a0_straight c1 0 0 = S1) (hD2 : F_read_a0_depth c2 S1 D1 = D2) (hS2 : F_read_a0_straight c2 S1 D1 = S2) (hD3 : F_read_a0_depth c3 S2 D2 = D3) (hS3 : F_read_a0_straight c3 S2 D2 = S3) (hD4 : F_read_a0_depth c4 S3 D3 = D4) (hS4 : F_read_a0_straight c4 S3 D3 = S4) (hD5 : F_read_a0_depth c5 S4 D4 = D5) (hS5 : F_read_a0_straight c5 S4 D4 = S5) : (if F_inside D5 S5 = (if (0 : Int32) < (((((F_delta c1 + F_delta c2) + F_delta c3) + F_delta c4) + F_delta c5) - (F_min 0 (F_min (F_delta c1) (F_min (F_delta c1 + F_delta c2) (F_min ((F_delta c1 + F_delta c2) + F_delta c3) (F_min (((F_delta c1 + F_delta c2) + F_delta c3) + F_delta c4) ((((F_delta c1 + F_delta c2) + F_delta c3) + F_delta c4) + F_delta c5))))))) then (1 : Int32) else if (((((F_quote c1 + F_quote c2) + F_quote c3) + F_quote c4) + F_quote c5) &&& 1) = 0 then 0 else 1) then (1 : Int32) else 0) = 1 := by
  have e0 : (0 : Int32).toInt = 0 := rfl
  have r1 := own_rd c1 0 0 (by decide) (by decide) (by decide) (by decide)
  rw [hD1, hS1] at r1
  clear hD1 hS1
  generalize F_delta c1 = e1 at *
  generalize F_quote c1 = q1 at *
  have r2 := own_rd c2 S1 D1 (by omega) (by omega) (by omega) (by omega)
  rw [hD2, hS2] at r2
  clear hD2 hS2
  generalize F_delta c2 = e2 at *
  generalize F_quote c2 = q2 at *
  have r3 := own_rd c3 S2 D2 (by omega) (by omega) (by omega) (by omega)
  rw [hD3, hS3] at r3
  clear hD3 hS3
  generalize F_delta c3 = e3 at *
  generalize F_quote c3 = q3 at *
  have r4 := own_rd c4 S3 D3 (by omega) (by omega) (by omega) (by omega)
  rw [hD4, hS4] at r4
  clear hD4 hS4
  generalize F_delta c4 = e4 at *
  generalize F_quote c4 = q4 at *
  have r5 := own_rd c5 S4 D4 (by omega) (by omega) (by omega) (by omega)
  rw [hD5, hS5] at r5
  clear hD5 hS5
  generalize F_delta c5 = e5 at *
  generalize F_quote c5 = q5 at *
  have k1 := own_ms 0 0 0 e1.toInt D1.toInt (by omega) (by omega) ⟨fun z => by have := r1.1.1 (by omega); omega, fun z => r1.1.2 (by omega)⟩ (by omega) (by omega)
  simp only [Int.zero_add] at k1
  have a2 := own_add e1 e2 (by omega) (by omega)
  generalize e1 + e2 = s2 at *
  have k2 := own_ms D1.toInt e1.toInt (min 0 e1.toInt) e2.toInt D2.toInt k1.1 k1.2 r2.1 (by omega) (by omega)
  rw [← a2] at k2
  have a3 := own_add s2 e3 (by omega) (by omega)
  generalize s2 + e3 = s3 at *
  have k3 := own_ms D2.toInt s2.toInt (min (min 0 e1.toInt) s2.toInt) e3.toInt D3.toInt k2.1 k2.2 r3.1 (by omega) (by omega)
  rw [← a3] at k3
  have a4 := own_add s3 e4 (by omega) (by omega)
  generalize s3 + e4 = s4 at *
  have k4 := own_ms D3.toInt s3.toInt (min (min (min 0 e1.toInt) s2.toInt) s3.toInt) e4.toInt D4.toInt k3.1 k3.2 r4.1 (by omega) (by omega)
  rw [← a4] at k4
  have a5 := own_add s4 e5 (by omega) (by omega)
  generalize s4 + e5 = s5 at *
  have k5 := own_ms D4.toInt s4.toInt (min (min (min (min 0 e1.toInt) s2.toInt) s3.toInt) s4.toInt) e5.toInt D5.toInt k4.1 k4.2 r5.1 (by omega) (by omega)
  rw [← a5] at k5
  have := own_add q1 q2 (by omega) (by omega)
  generalize q1 + q2 = t2 at *
  have := own_add t2 q3 (by omega) (by omega)
  generalize t2 + q3 = t3 at *
  have := own_add t3 q4 (by omega) (by omega)
  generalize t3 + q4 = t4 at *
  have := own_add t4 q5 (by omega) (by omega)
  generalize t4 + q5 = t5 at *
  have lo : (F_min 0 (F_min e1 (F_min s2 (F_min s3 (F_min s4 s5))))).toInt = min 0 (min e1.toInt (min s2.toInt (min s3.toInt (min s4.toInt s5.toInt)))) := by rw [own_mn, own_mn, own_mn, own_mn, own_mn]; rfl
  have hb : -10 ≤ (F_min 0 (F_min e1 (F_min s2 (F_min s3 (F_min s4 s5))))).toInt ∧ (F_min 0 (F_min e1 (F_min s2 (F_min s3 (F_min s4 s5))))).toInt ≤ 10 := by rw [lo]; omega
  have sb := own_sub s5 (F_min 0 (F_min e1 (F_min s2 (F_min s3 (F_min s4 s5))))) (by omega) (by omega)
  refine own_fin D5 S5 _ t5 ?_ (by omega)
  rw [sb, lo, k5.1]
  simp only [Int.min_assoc, Int.min_self]
set_option maxHeartbeats 4000000 in
theorem law_eq (p0 p1 p2 p3 p4 p5 : Int32) : F_law p0 p1 p2 p3 p4 p5 = 1 := by
  simp only [F_law]
  split
  · decide
  · skip
    split
    · exact own_z (own_l1 (F_pick p1) _ _ rfl rfl)
    · skip
      split
      · exact own_z (own_l2 (F_pick p1) _ _ (F_pick p2) _ _ rfl rfl rfl rfl)
      · skip
        split
        · exact own_z (own_l3 (F_pick p1) _ _ (F_pick p2) _ _ (F_pick p3) _ _ rfl rfl rfl rfl rfl rfl)
        · skip
          split
          · exact own_z (own_l4 (F_pick p1) _ _ (F_pick p2) _ _ (F_pick p3) _ _ (F_pick p4) _ _ rfl rfl rfl rfl rfl rfl rfl rfl)
          · skip
            split
            · exact own_z (own_l5 (F_pick p1) _ _ (F_pick p2) _ _ (F_pick p3) _ _ (F_pick p4) _ _ (F_pick p5) _ _ rfl rfl rfl rfl rfl rfl rfl rfl rfl rfl)
            · rfl
set_option maxRecDepth 65536 in
set_option maxHeartbeats 40000000 in
theorem comes_1 {Post : Tables → Env → Array Value → State → Outcome → State → Prop} (hpost : ∀ tb e args s v u, (limb_1_1.after args s (.returned v) u = true ∧ limb_1_2.after args s (.returned v) u = true ∧ True) → FrameEnd s (.returned v) u (Jvm.fieldLocs frame_1_writes args s ++ Jvm.arrayLocs frame_1_arrays args s ++ Jvm.staticLocs frame_1_statics s) 16 128 → Post tb e args s (.returned v) u) :
    ArmFor flags0 classFile x code maxLocals ret World_1 tables_1 room_1 Calls_1 rest_1 Pre_1 Post := by
  intro l hfl _ _ p e ha hc hk s m args below hf hA hF happ hP
  obtain ⟨hcalls, hrest, hpre⟩ := hP
  obtain ⟨-, -, -, hnamed, -, -, -, hat⟩ := (Spec.applies_iff hf).mp happ
  obtain ⟨hg, hn⟩ := and_e (Cond.before_iff.mp (show (Jvm.Cond.and given_1 narrow_1).before args s = true from hpre))
  obtain ⟨gc, g0⟩ := and_e hg
  obtain ⟨ga0, g1⟩ := and_e g0
  obtain ⟨ga1, g2⟩ := and_e g1
  obtain ⟨ga2, g3⟩ := and_e g2
  obtain ⟨ga3, g4⟩ := and_e g3
  obtain ⟨ga4, g5⟩ := and_e g4
  obtain ⟨w0, w1, w2, w3, w4, w5, rfl⟩ : ∃ w0 w1 w2 w3 w4 w5 : Value, args = #[w0, w1, w2, w3, w4, w5] := by
    have hs : args.size = 6 := by simpa [Cond.value, given_1] using gc
    obtain ⟨L⟩ := args
    match L, hs with
    | [w0, w1, w2, w3, w4, w5], _ => exact ⟨w0, w1, w2, w3, w4, w5, rfl⟩
  have hw := fun d (hd : d ∈ tables_1) => atoms_spec (ws := Jvm.Cond.code x code maxLocals ret :: tables_1) hat d (List.mem_cons_of_mem _ hd)
  obtain ⟨i0, ei0⟩ := is_v ga0
  obtain rfl : w0 = (.int i0) := Option.some.inj ei0
  obtain ⟨i1, ei1⟩ := is_v ga1
  obtain rfl : w1 = (.int i1) := Option.some.inj ei1
  obtain ⟨i2, ei2⟩ := is_v ga2
  obtain rfl : w2 = (.int i2) := Option.some.inj ei2
  obtain ⟨i3, ei3⟩ := is_v ga3
  obtain rfl : w3 = (.int i3) := Option.some.inj ei3
  obtain ⟨i4, ei4⟩ := is_v ga4
  obtain rfl : w4 = (.int i4) := Option.some.inj ei4
  obtain ⟨i5, ei5⟩ := is_v g5
  obtain rfl : w5 = (.int i5) := Option.some.inj ei5
  obtain ⟨n, o, h1, h2, h3, _, L, rfl, ⟨rfl, N⟩, hq⟩ := rm0 l s _ hw tables_1 i0 i1 i2 i3 i4 i5 s.heap s.heap.size (Nat.le_refl _) p e ha hc hk s m _ below hf ((Spec.applies_iff_loose hf).mp happ).1 ⟨rfl, State.Warmed39.refl s, rfl⟩ trivial
  rw [law_eq] at *
  refine ⟨n, _, h1, h2, h3, hpost _ _ _ _ _ _ ⟨Cond.after_iff.mpr rfl, Cond.after_iff.mpr (eq_i res_at (Term.int_eval (1)) rfl), trivial⟩ ⟨hq.1, hq.2.1, (hq.2.2.sift fun y hy => Or.inr (N y hy)).mono (by decide) (by decide)⟩⟩
theorem main_1_1 : Claimed_1_1 := comes_1 fun _ _ _ _ _ _ h hF => ⟨h.1, hF⟩
theorem main_1_2 : Claimed_1_2 := comes_1 fun _ _ _ _ _ _ h hF => ⟨h.2.1, hF⟩
end Jvm.Pilot.@@N@@
namespace Jvm.Pilot.@@N@@
open Jvm Jvm.ClassFile Sem Op Lib Jvm.Free Jvm.Stand Jvm.Pilot.@@N@@.Jvm.D
/-! MADE BY PROGRAM (witnessworld.py) out of the Statement's table words and the real class files: 10 classes; the members and pool entries that the words name. The judged class is class 1, her method 4. -/
namespace start1
open Jvm.ClassFile
def u (s : String) : CpInfo := .utf8 (stringToUtf16 s)
/-- a pool by its gaps: so many unusable entries, then the entry; so many at the end -/
def gap : Nat → List CpInfo → List CpInfo
  | 0, r => r
  | n + 1, r => .unusable :: gap n r
def poolList (es : List (Nat × CpInfo)) (last : Nat) : List CpInfo := es.foldr (fun e r => gap e.1 (e.2 :: r)) (gap last [])
def pool (es : List (Nat × CpInfo)) (last : Nat) : Array CpInfo := ⟨poolList es last⟩
def fileOf (pool : Array CpInfo) (this : Nat) (attrs : Array Attribute := #[]) (ms : Array MethodInfo := #[]) (fl : Nat := 33) (sup : Nat := 0) (ifs : Array Nat := #[]) (fds : Array FieldInfo := #[]) : ClassFile where
  minorVersion := 0
  majorVersion := 65
  constantPool := pool
  accessFlags := fl
  thisClass := this
  superClass := sup
  interfaces := ifs
  fields := fds
  methods := ms
  attributes := attrs
def plain (name : String) (sup : Option ClassId) : Class where
  name := name
  kind := .ordinary
  loader := none
  accessFlags := 33
  super := sup
  interfaces := #[]
  cf := none
  fields := #[]
  methods := #[]
  instanceTypes := #[]
  staticTypes := #[]
  resolved := #[]
  callSites := []
  init := .initialized
  statics := none
  mirror := none

def pool0 : Array CpInfo := pool [(5, u "<init>"), (0, u "()V"), (1, .class_ 10), (1, u "java/lang/Object")] 113

def k0c0 : Code := { maxStack := 0, maxLocals := 1, code := object_method_1_code, exceptionTable := #[], attributes := #[] }
def k0m0 : Method := { name := "<init>", desc := "()V", sig := { parameters := [], returnType := none }, accessFlags := 1, code := some k0c0 }
/-- java/lang/Object -/
def k0 : Class := { plain "java/lang/Object" none with
  accessFlags := 33
  interfaces := #[]
  cf := some (fileOf pool0 8 #[] #[{ accessFlags := 1, nameIndex := 5, descriptorIndex := 6, attributes := #[] }] 33 0 #[] #[])
  fields := #[]
  methods := #[k0m0]
  instanceTypes := #[]
  staticTypes := #[]
  resolved := Array.replicate 124 none
  statics := none }

def pool1 : Array CpInfo := pool [(2, .class_ 4), (0, .nameAndType 5 6), (0, u "java/lang/Object"), (0, u "<init>"), (0, u "()V"), (0, .methodref 8 9), (0, .class_ 10), (0, .nameAndType 11 12), (0, u "com/example/wherefore/wherefore/instrument/QuotationInsidePinLaw"), (0, u "pick"), (0, u "(I)C"), (0, .class_ 14), (0, u "com/example/wherefore/wherefore/instrument/Quotation"), (0, .methodref 13 3), (0, .methodref 13 17), (0, .nameAndType 18 19), (0, u "read"), (0, u "(C)V"), (0, .methodref 13 21), (0, .nameAndType 22 23), (0, u "inside"), (0, u "()Z"), (0, .methodref 8 25), (0, .nameAndType 26 27), (0, u "delta"), (0, u "(C)I"), (0, .methodref 29 30), (0, .class_ 31), (0, .nameAndType 32 33), (0, u "java/lang/Math"), (0, u "min"), (0, u "(II)I"), (0, .methodref 8 35), (0, .nameAndType 36 27), (0, u "quote"), (3, u "law"), (0, u "(IIIIII)Z")] 2

def k1m0 : Method := { name := "<init>", desc := "()V", sig := { parameters := [], returnType := none }, accessFlags := 1, code := none }
def k1c1 : Code := { maxStack := 2, maxLocals := 2, code := method_2_code, exceptionTable := #[], attributes := #[] }
def k1m1 : Method := { name := "pick", desc := "(I)C", sig := { parameters := [.int], returnType := some .char }, accessFlags := 10, code := some k1c1 }
def k1c2 : Code := { maxStack := 2, maxLocals := 1, code := method_3_code, exceptionTable := #[], attributes := #[] }
def k1m2 : Method := { name := "delta", desc := "(C)I", sig := { parameters := [.char], returnType := some .int }, accessFlags := 10, code := some k1c2 }
def k1c3 : Code := { maxStack := 2, maxLocals := 1, code := method_4_code, exceptionTable := #[], attributes := #[] }
def k1m3 : Method := { name := "quote", desc := "(C)I", sig := { parameters := [.char], returnType := some .int }, accessFlags := 10, code := some k1c3 }
def k1c4 : Code := { maxStack := 6, maxLocals := 28, code := code, exceptionTable := #[], attributes := #[] }
def k1m4 : Method := { name := "law", desc := "(IIIIII)Z", sig := { parameters := [.int, .int, .int, .int, .int, .int], returnType := some .boolean }, accessFlags := 9, code := some k1c4 }
/-- com/example/wherefore/wherefore/instrument/QuotationInsidePinLaw -/
def k1 : Class := { plain "com/example/wherefore/wherefore/instrument/QuotationInsidePinLaw" (some 0) with
  accessFlags := 49
  interfaces := #[]
  cf := some (fileOf pool1 8 #[] #[{ accessFlags := 1, nameIndex := 5, descriptorIndex := 6, attributes := #[] }, { accessFlags := 10, nameIndex := 11, descriptorIndex := 12, attributes := #[] }, { accessFlags := 10, nameIndex := 26, descriptorIndex := 27, attributes := #[] }, { accessFlags := 10, nameIndex := 36, descriptorIndex := 27, attributes := #[] }, { accessFlags := 9, nameIndex := 40, descriptorIndex := 41, attributes := #[] }] 49 2 #[] #[])
  fields := #[]
  methods := #[k1m0, k1m1, k1m2, k1m3, k1m4]
  instanceTypes := #[]
  staticTypes := #[]
  resolved := Array.replicate 44 none
  statics := none }

def pool2 : Array CpInfo := pool [(1, .methodref 2 3), (0, .class_ 4), (0, .nameAndType 5 6), (0, u "java/lang/Object"), (0, u "<init>"), (0, u "()V"), (0, .fieldref 8 9), (0, .class_ 10), (0, .nameAndType 11 12), (0, u "com/example/wherefore/wherefore/instrument/Quotation"), (0, u "depth"), (0, u "I"), (0, .fieldref 8 14), (0, .nameAndType 15 16), (0, u "straight"), (0, u "Z"), (12, u "inside"), (0, u "()Z"), (6, u "read"), (0, u "(C)V")] 19

def k2c0 : Code := { maxStack := 1, maxLocals := 1, code := prog_71_method_1_code, exceptionTable := #[], attributes := #[] }
def k2m0 : Method := { name := "<init>", desc := "()V", sig := { parameters := [], returnType := none }, accessFlags := 0, code := some k2c0 }
def k2c1 : Code := { maxStack := 1, maxLocals := 1, code := prog_71_method_2_code, exceptionTable := #[], attributes := #[] }
def k2m1 : Method := { name := "inside", desc := "()Z", sig := { parameters := [], returnType := some .boolean }, accessFlags := 0, code := some k2c1 }
def k2c2 : Code := { maxStack := 3, maxLocals := 2, code := prog_71_method_3_code, exceptionTable := #[], attributes := #[] }
def k2m2 : Method := { name := "read", desc := "(C)V", sig := { parameters := [.char], returnType := none }, accessFlags := 0, code := some k2c2 }
/-- com/example/wherefore/wherefore/instrument/Quotation -/
def k2 : Class := { plain "com/example/wherefore/wherefore/instrument/Quotation" (some 0) with
  accessFlags := 48
  interfaces := #[]
  cf := some (fileOf pool2 8 #[] #[{ accessFlags := 0, nameIndex := 5, descriptorIndex := 6, attributes := #[] }, { accessFlags := 0, nameIndex := 29, descriptorIndex := 30, attributes := #[] }, { accessFlags := 0, nameIndex := 37, descriptorIndex := 38, attributes := #[] }] 48 2 #[] #[{ accessFlags := 2, nameIndex := 11, descriptorIndex := 12, attributes := #[] }, { accessFlags := 2, nameIndex := 15, descriptorIndex := 16, attributes := #[] }])
  fields := #[{ name := "depth", type := .int, accessFlags := 2, slot := 0, constantValue := 0 }, { name := "straight", type := .boolean, accessFlags := 2, slot := 1, constantValue := 0 }]
  methods := #[k2m0, k2m1, k2m2]
  instanceTypes := #[.int, .boolean]
  staticTypes := #[]
  resolved := Array.replicate 58 none
  statics := none }

def pool3 : Array CpInfo := pool [(1, .class_ 2), (0, u "java/lang/Math"), (1, .class_ 6), (1, u "java/lang/Object"), (0, u "<init>"), (0, u "()V"), (89, .class_ 100), (1, u "java/lang/Math$RandomNumberGeneratorHolder"), (71, u "negativeZeroFloatBits"), (0, u "J"), (2, u "negativeZeroDoubleBits"), (24, u "min"), (43, u "$assertionsDisabled"), (0, u "Z"), (88, u "(II)I"), (2, u "twoToTheDoubleScaleDown"), (0, u "D"), (4, u "twoToTheDoubleScaleUp"), (9, u "E"), (3, u "PI"), (2, u "TAU"), (2, u "DEGREES_TO_RADIANS"), (0, u "RADIANS_TO_DEGREES")] 94

def k3m0 : Method := { name := "<init>", desc := "()V", sig := { parameters := [], returnType := none }, accessFlags := 2, code := none }
def k3c1 : Code := { maxStack := 2, maxLocals := 2, code := jdk_29_method_69_code, exceptionTable := #[], attributes := #[] }
def k3m1 : Method := { name := "min", desc := "(II)I", sig := { parameters := [.int, .int], returnType := some .int }, accessFlags := 9, code := some k3c1 }
/-- java/lang/Math -/
def k3 : Class := { plain "java/lang/Math" (some 0) with
  accessFlags := 49
  interfaces := #[]
  cf := some (fileOf pool3 1 #[.nestMembers #[98]] #[{ accessFlags := 2, nameIndex := 7, descriptorIndex := 8, attributes := #[] }, { accessFlags := 9, nameIndex := 201, descriptorIndex := 335, attributes := #[] }] 49 4 #[] #[{ accessFlags := 25, nameIndex := 354, descriptorIndex := 339, attributes := #[] }, { accessFlags := 25, nameIndex := 358, descriptorIndex := 339, attributes := #[] }, { accessFlags := 25, nameIndex := 361, descriptorIndex := 339, attributes := #[] }, { accessFlags := 26, nameIndex := 364, descriptorIndex := 339, attributes := #[] }, { accessFlags := 26, nameIndex := 365, descriptorIndex := 339, attributes := #[] }, { accessFlags := 26, nameIndex := 172, descriptorIndex := 173, attributes := #[] }, { accessFlags := 26, nameIndex := 176, descriptorIndex := 173, attributes := #[] }, { accessFlags := 8, nameIndex := 344, descriptorIndex := 339, attributes := #[] }, { accessFlags := 8, nameIndex := 338, descriptorIndex := 339, attributes := #[] }, { accessFlags := 4120, nameIndex := 245, descriptorIndex := 246, attributes := #[] }])
  fields := #[{ name := "E", type := .double, accessFlags := 25, slot := 0, constantValue := 0 }, { name := "PI", type := .double, accessFlags := 25, slot := 1, constantValue := 0 }, { name := "TAU", type := .double, accessFlags := 25, slot := 2, constantValue := 0 }, { name := "DEGREES_TO_RADIANS", type := .double, accessFlags := 26, slot := 3, constantValue := 0 }, { name := "RADIANS_TO_DEGREES", type := .double, accessFlags := 26, slot := 4, constantValue := 0 }, { name := "negativeZeroFloatBits", type := .long, accessFlags := 26, slot := 5, constantValue := 0 }, { name := "negativeZeroDoubleBits", type := .long, accessFlags := 26, slot := 6, constantValue := 0 }, { name := "twoToTheDoubleScaleUp", type := .double, accessFlags := 8, slot := 7, constantValue := 0 }, { name := "twoToTheDoubleScaleDown", type := .double, accessFlags := 8, slot := 8, constantValue := 0 }, { name := "$assertionsDisabled", type := .boolean, accessFlags := 4120, slot := 9, constantValue := 0 }]
  methods := #[k3m0, k3m1]
  instanceTypes := #[]
  staticTypes := #[.double, .double, .double, .double, .double, .long, .long, .double, .double, .boolean]
  resolved := Array.replicate 460 none
  statics := none }

def pool4 : Array CpInfo := pool [(1, u "java/lang/Cloneable"), (0, .class_ 1), (0, u "java/lang/Object"), (0, .class_ 3)] 3

/-- java/lang/Cloneable -/
def k4 : Class := { plain "java/lang/Cloneable" (some 0) with
  accessFlags := 1537
  interfaces := #[]
  cf := some (fileOf pool4 2 #[] #[] 1537 4 #[] #[])
  fields := #[]
  methods := #[]
  instanceTypes := #[]
  staticTypes := #[]
  resolved := Array.replicate 8 none
  statics := none }

def pool5 : Array CpInfo := pool [(1, u "java/io/Serializable"), (0, .class_ 1), (0, u "java/lang/Object"), (0, .class_ 3)] 3

/-- java/io/Serializable -/
def k5 : Class := { plain "java/io/Serializable" (some 0) with
  accessFlags := 1537
  interfaces := #[]
  cf := some (fileOf pool5 2 #[] #[] 1537 4 #[] #[])
  fields := #[]
  methods := #[]
  instanceTypes := #[]
  staticTypes := #[]
  resolved := Array.replicate 8 none
  statics := none }

/-- the primitive byte -/
def k6 : Class := { plain "byte" none with kind := .primitive 'B', accessFlags := 0x411 }
/-- [B -/
def k7 : Class := { plain "[B" (some 0) with kind := .array 6 .byte, interfaces := #[4, 5], accessFlags := 1041 }

/-- the primitive int -/
def k8 : Class := { plain "int" none with kind := .primitive 'I', accessFlags := 0x411 }
/-- [I -/
def k9 : Class := { plain "[I" (some 0) with kind := .array 8 .int, interfaces := #[4, 5], accessFlags := 1041 }

def heap : Heap := #[]
def classes : Array Class := #[k0, k1, k2, k3, k4, k5, k6, k7, k8, k9]
def interned : List (Array UInt16 × Addr) := []
def slotsUsed : Nat := 0
def theMethod : MethodId := ⟨1, 4⟩
def args0 : Array Value := #[.int 5, .int 7, .int 9, .int 11, .int 4, .int 8]
def aboutOver (below : List Frame) : State where
  vm := { classes := classes, interned := interned.toArray }
  heap := heap
  slotsUsed := slotsUsed
  threads := #[{ frames := .invoking theMethod args0 :: below }]
def below0 : List Frame := [.native { method := ⟨0, 0⟩, args := #[] }]
def about1 : State := aboutOver below0
def p0 : Program := .bare "" "" ""
def e0 : Env := launch0.env 0 0 0
theorem w_frames : about1.frames = Frame.invoking theMethod args0 :: below0 := rfl
set_option maxRecDepth 65536 in
theorem w_args : argsFit about1.vm theMethod args0 = true := by decide +kernel
set_option maxRecDepth 65536 in
theorem w_heap : heapFits about1 = true := by decide +kernel
set_option maxRecDepth 65536 in
theorem w_runnable : about1.curStatus? = some .runnable := by decide +kernel
set_option maxRecDepth 65536 in
theorem w_alone : about1.alone = true := by decide +kernel
set_option maxRecDepth 65536 in
theorem w_named : about1.methodNamed? x = some theMethod := by decide +kernel
set_option maxRecDepth 65536 in
theorem w_hears : about1.hears theMethod below0 = true := by decide +kernel
set_option maxRecDepth 65536 in
theorem w_ripe : about1.ripe theMethod args0 below0 = true := by decide +kernel
theorem w_running : about1.status = .running := rfl
set_option maxRecDepth 65536 in
theorem w_room : about1.hasRoom e0.platform room_1 = true :=
  launch0.hasRoom_least _ room_1 (by decide +kernel) (by decide +kernel) (by decide +kernel) (by decide +kernel) (by decide +kernel) (by decide +kernel)
theorem allAtoms_all (ts : List Jvm.Cond) (a : Array Jvm.Value) (st : Jvm.State) : (allAtoms ts).before a st = ts.all (fun c => c.before a st) := by
  induction ts with
  | nil => rfl
  | cons c t ih =>
    show (Jvm.Cond.and c (allAtoms t)).before a st = _
    rw [Jvm.Cond.before_and, ih, List.all_cons]
def words1 : List Jvm.Cond := Jvm.Cond.code x code maxLocals ret :: tables_1
/-- a 'code' word, met by the world's own term for the bytes: nothing is compared byte by byte -/
theorem code_word {y : MethodName} {bytes : ByteArray} {mx : Nat} {rt : Option FieldType} {a : Array Value} {s : State} {m : MethodId} {meth : Method} {c : Code} (h1 : s.methodNamed? y = some m) (h2 : s.vm.method? m = some meth) (h3 : meth.code = some c) (h4 : c.code = bytes)
    (h5 : (c.maxLocals == mx && c.exceptionTable.isEmpty && decide (c.maxStack ≤ mostOperands) && decide (meth.sig.returnType = rt) && !meth.locks && decide (parseMethodDescriptor y.desc = some meth.sig)) = true) : (Jvm.Cond.code y bytes mx rt).before a s = true := by
  simp only [Bool.and_eq_true, beq_iff_eq, Bool.not_eq_true', decide_eq_true_eq] at h5
  obtain ⟨⟨⟨⟨⟨g1, g2⟩, g3⟩, g4⟩, g5⟩, g6⟩ := h5
  simp [Cond.before, Cond.holds, Cond.value, h1, h2, h3, h4, g1, g2, g3, g4, g5, g6]
def isCode : Jvm.Cond → Bool
  | .code _ _ _ _ => true
  | _ => false
theorem all_split {L : List Jvm.Cond} {P : Jvm.Cond → Bool} (h1 : L.all (fun c => isCode c || P c) = true) (h2 : ∀ c ∈ L.filter isCode, P c = true) : L.all P = true := by
  refine List.all_eq_true.mpr fun c hc => ?_
  have h := List.all_eq_true.mp h1 c hc
  rcases Bool.eq_false_or_eq_true (isCode c) with hi | hi
  · exact h2 c (List.mem_filter.mpr ⟨hc, hi⟩)
  · simpa [hi] using h
set_option maxRecDepth 65536 in
theorem w_c0 : (Jvm.Cond.code x code maxLocals ret).before args0 about1 = true := code_word (m := ⟨1, 4⟩) (meth := k1m4) (c := k1c4) (by decide +kernel) rfl rfl rfl (by decide +kernel)
set_option maxRecDepth 65536 in
theorem w_c1 : (Jvm.Cond.code ({ cls := "com/example/wherefore/wherefore/instrument/QuotationInsidePinLaw", name := "pick", desc := "(I)C" } : Jvm.MethodName) method_2_code (2 : Nat) (Option.some Jvm.ClassFile.FieldType.char)).before args0 about1 = true := code_word (m := ⟨1, 1⟩) (meth := k1m1) (c := k1c1) (by decide +kernel) rfl rfl rfl (by decide +kernel)
set_option maxRecDepth 65536 in
theorem w_c2 : (Jvm.Cond.code ({ cls := "com/example/wherefore/wherefore/instrument/Quotation", name := "<init>", desc := "()V" } : Jvm.MethodName) prog_71_method_1_code (1 : Nat) (Option.none : Option Jvm.ClassFile.FieldType)).before args0 about1 = true := code_word (m := ⟨2, 0⟩) (meth := k2m0) (c := k2c0) (by decide +kernel) rfl rfl rfl (by decide +kernel)
set_option maxRecDepth 65536 in
theorem w_c3 : (Jvm.Cond.code ({ cls := "java/lang/Object", name := "<init>", desc := "()V" } : Jvm.MethodName) object_method_1_code (1 : Nat) (Option.none : Option Jvm.ClassFile.FieldType)).before args0 about1 = true := code_word (m := ⟨0, 0⟩) (meth := k0m0) (c := k0c0) (by decide +kernel) rfl rfl rfl (by decide +kernel)
set_option maxRecDepth 65536 in
theorem w_c4 : (Jvm.Cond.code ({ cls := "com/example/wherefore/wherefore/instrument/Quotation", name := "inside", desc := "()Z" } : Jvm.MethodName) prog_71_method_2_code (1 : Nat) (Option.some Jvm.ClassFile.FieldType.boolean)).before args0 about1 = true := code_word (m := ⟨2, 1⟩) (meth := k2m1) (c := k2c1) (by decide +kernel) rfl rfl rfl (by decide +kernel)
set_option maxRecDepth 65536 in
theorem w_c5 : (Jvm.Cond.code ({ cls := "java/lang/Math", name := "min", desc := "(II)I" } : Jvm.MethodName) jdk_29_method_69_code (2 : Nat) (Option.some Jvm.ClassFile.FieldType.int)).before args0 about1 = true := code_word (m := ⟨3, 1⟩) (meth := k3m1) (c := k3c1) (by decide +kernel) rfl rfl rfl (by decide +kernel)
set_option maxRecDepth 65536 in
theorem w_c6 : (Jvm.Cond.code ({ cls := "com/example/wherefore/wherefore/instrument/Quotation", name := "read", desc := "(C)V" } : Jvm.MethodName) prog_71_method_3_code (2 : Nat) (Option.none : Option Jvm.ClassFile.FieldType)).before args0 about1 = true := code_word (m := ⟨2, 2⟩) (meth := k2m2) (c := k2c2) (by decide +kernel) rfl rfl rfl (by decide +kernel)
set_option maxRecDepth 65536 in
theorem w_c7 : (Jvm.Cond.code ({ cls := "com/example/wherefore/wherefore/instrument/QuotationInsidePinLaw", name := "delta", desc := "(C)I" } : Jvm.MethodName) method_3_code (1 : Nat) (Option.some Jvm.ClassFile.FieldType.int)).before args0 about1 = true := code_word (m := ⟨1, 2⟩) (meth := k1m2) (c := k1c2) (by decide +kernel) rfl rfl rfl (by decide +kernel)
set_option maxRecDepth 65536 in
theorem w_c8 : (Jvm.Cond.code ({ cls := "com/example/wherefore/wherefore/instrument/QuotationInsidePinLaw", name := "quote", desc := "(C)I" } : Jvm.MethodName) method_4_code (1 : Nat) (Option.some Jvm.ClassFile.FieldType.int)).before args0 about1 = true := code_word (m := ⟨1, 3⟩) (meth := k1m3) (c := k1c3) (by decide +kernel) rfl rfl rfl (by decide +kernel)
def codes1 : List Jvm.Cond := [Jvm.Cond.code x code maxLocals ret, Jvm.Cond.code ({ cls := "com/example/wherefore/wherefore/instrument/QuotationInsidePinLaw", name := "pick", desc := "(I)C" } : Jvm.MethodName) method_2_code (2 : Nat) (Option.some Jvm.ClassFile.FieldType.char), Jvm.Cond.code ({ cls := "com/example/wherefore/wherefore/instrument/Quotation", name := "<init>", desc := "()V" } : Jvm.MethodName) prog_71_method_1_code (1 : Nat) (Option.none : Option Jvm.ClassFile.FieldType), Jvm.Cond.code ({ cls := "java/lang/Object", name := "<init>", desc := "()V" } : Jvm.MethodName) object_method_1_code (1 : Nat) (Option.none : Option Jvm.ClassFile.FieldType), Jvm.Cond.code ({ cls := "com/example/wherefore/wherefore/instrument/Quotation", name := "inside", desc := "()Z" } : Jvm.MethodName) prog_71_method_2_code (1 : Nat) (Option.some Jvm.ClassFile.FieldType.boolean), Jvm.Cond.code ({ cls := "java/lang/Math", name := "min", desc := "(II)I" } : Jvm.MethodName) jdk_29_method_69_code (2 : Nat) (Option.some Jvm.ClassFile.FieldType.int), Jvm.Cond.code ({ cls := "com/example/wherefore/wherefore/instrument/Quotation", name := "read", desc := "(C)V" } : Jvm.MethodName) prog_71_method_3_code (2 : Nat) (Option.none : Option Jvm.ClassFile.FieldType), Jvm.Cond.code ({ cls := "com/example/wherefore/wherefore/instrument/QuotationInsidePinLaw", name := "delta", desc := "(C)I" } : Jvm.MethodName) method_3_code (1 : Nat) (Option.some Jvm.ClassFile.FieldType.int), Jvm.Cond.code ({ cls := "com/example/wherefore/wherefore/instrument/QuotationInsidePinLaw", name := "quote", desc := "(C)I" } : Jvm.MethodName) method_4_code (1 : Nat) (Option.some Jvm.ClassFile.FieldType.int)]
set_option maxRecDepth 65536 in
theorem codes_eq : words1.filter isCode = codes1 := rfl
theorem w_codes : ∀ c ∈ words1.filter isCode, c.before args0 about1 = true := by
  rw [codes_eq]
  intro c hc
  simp only [codes1, List.mem_cons, List.not_mem_nil, or_false] at hc
  rcases hc with rfl | rfl | rfl | rfl | rfl | rfl | rfl | rfl | rfl
  · exact w_c0
  · exact w_c1
  · exact w_c2
  · exact w_c3
  · exact w_c4
  · exact w_c5
  · exact w_c6
  · exact w_c7
  · exact w_c8
set_option maxRecDepth 65536 in
theorem w_t1 : (words1.take 24).all (fun c => isCode c || c.before args0 about1) = true := by decide +kernel
set_option maxRecDepth 65536 in
theorem w_t2 : (words1.drop 24).all (fun c => isCode c || c.before args0 about1) = true := by decide +kernel
theorem w_tables : (allAtoms (Jvm.Cond.code x code maxLocals ret :: tables_1)).before args0 about1 = true := by
  rw [allAtoms_all]
  show words1.all (fun c => c.before args0 about1) = true
  refine all_split ?_ w_codes
  rw [← List.take_append_drop 24 words1, List.all_append, w_t1, w_t2]
  rfl
set_option maxRecDepth 65536 in
theorem w_case : (Jvm.Cond.and given_1 narrow_1).before args0 about1 = true := by decide +kernel
theorem w_applies : (headSpec (Jvm.Cond.code x code maxLocals ret :: tables_1) room_1).applies x e0.platform about1 = true :=
  (Spec.applies_iff w_frames).mpr ⟨w_running, w_runnable, w_alone, w_named, w_hears, w_ripe, w_room, w_tables⟩
theorem atStart : AtStart classFile x code maxLocals ret World_1 tables_1 room_1 Calls_1 rest_1 Pre_1 launch0 p0 e0 about1 theMethod args0 below0 :=
  ⟨lists_1, trivial, launch0.admits_env _ _ _, launch0.least_env, fairChoices_fair.cas, fairChoices_fair.clock, w_frames, w_args, w_heap, w_applies, trivial, trivial, w_case⟩
end start1
theorem witness_1 : WitnessClaimed_1 := ⟨start1.p0, start1.e0, start1.about1, start1.theMethod, start1.args0, start1.below0, start1.atStart⟩
end Jvm.Pilot.@@N@@
