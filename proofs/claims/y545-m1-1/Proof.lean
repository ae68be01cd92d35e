import JvmDerived
import JvmDerived.Pilot.@@N@@Statement
import JvmDerived.Pilot.@@N@@Code
set_option linter.unusedVariables false
set_option linter.unusedSimpArgs false
namespace Jvm.Pilot.@@N@@
open Jvm Jvm.ClassFile Sem Op Lib Jvm.Free Jvm.Stand Jvm.LawKit Jvm.RoadKit Bundle Jvm.Pilot.@@N@@.Jvm.D
section OwnKit
variable {p : Program} {l : Launch} {e : Env} {R : Room} {s : State} {m : MethodId} {args : Array Value} {below : List Frame} {meth : Method} {c : Code} {T T' : State} {locs : List Loc} {cells slots kc kn : Nat} {Q : Option Value → Heap → List Loc → Prop} {f f' : JFrame} {pc q q' : Nat} {Ls Ls' : Array Slot} {st : List Value} {Z : State} {a0 : Array Value} {h : Heap} {by' : ByteArray} {ml : Nat} {own nm : String} {ret : Option FieldType}
/-- from this state, with this frame on top, the body returns as Q says -/
def Run (p : Program) (e : Env) (below : List Frame) (s : State) (kc kn : Nat) (Q : Option Value → Heap → List Loc → Prop) (T : State) (f : JFrame) : Prop :=
  ∃ t o, Steps p.tables e below (T.setTop f) t ∧ t.status = .running ∧ Ended t below o ∧ ∃ v L, o = .returned v ∧ Q v t.heap L ∧ FrameEnd s o t L kc kn
theorem Run.by (st : ∀ t, Steps p.tables e below (T'.setTop f') t → Steps p.tables e below (T.setTop f) t) (k : Run p e below s kc kn Q T' f') : Run p e below s kc kn Q T f := by
  obtain ⟨t, o, h1, r⟩ := k
  exact ⟨t, o, st t h1, r⟩
theorem Run.on (k : Run p e below s kc kn Q T' f') (st : Steps p.tables e below (T.setTop f) (T'.setTop f')) : Run p e below s kc kn Q T f := k.by fun _ h1 => st.trans h1
/-- what a walk knows of its method throughout -/
def Fx (p : Program) (s : State) (m : MethodId) (meth : Method) (c : Code) (by' : ByteArray) (ml : Nat) (own nm : String) (ret : Option FieldType) (Z : State) : Prop :=
  p.tables.exec = Jvm.exec ∧ c.code = by' ∧ c.maxLocals = ml ∧ s.vm.findClass own = some m.cls ∧ Z.Warmed39 s.vm ∧ meth.sig.returnType = ret ∧ meth.locks = false ∧ meth.name = nm
def ushrI (x k : Int32) : Int32 := (x.toUInt32 >>> (k &&& 31).toUInt32).toInt32
def i2c (x : Int32) : Int32 := x.toUInt32.toUInt16.toUInt32.toInt32
theorem k_iloadN (K : Fx p s m meth c by' ml own nm ret Z) (X : Stand p l e R s m args below meth c T locs cells slots) {k' : Fin 4} {v : Int32} (hd : decode by' pc = .ok (.iload_n k', 1)) (hl : Ls[k'.val]? = some (.val (.int v))) (hq : pc + 1 = q) (k : Run p e below s kc kn Q T (mkF m q Ls (.int v :: st))) : Run p e below s kc kn Q T (mkF m pc Ls st) := by
  subst hq; exact k.by fun t => XS.iloadN X.here K.1 rfl (hb K.2.1 hd) hl
theorem k_iload (K : Fx p s m meth c by' ml own nm ret Z) (X : Stand p l e R s m args below meth c T locs cells slots) {k' : Nat} {v : Int32} (hd : decode by' pc = .ok (.iload k', 2)) (hl : Ls[k']? = some (.val (.int v))) (hq : pc + 2 = q) (k : Run p e below s kc kn Q T (mkF m q Ls (.int v :: st))) : Run p e below s kc kn Q T (mkF m pc Ls st) := by
  subst hq; exact k.by fun t => XS.iload X.here K.1 rfl (hb K.2.1 hd) hl
theorem k_aloadN (K : Fx p s m meth c by' ml own nm ret Z) (X : Stand p l e R s m args below meth c T locs cells slots) {k' : Fin 4} {v : Value} (hd : decode by' pc = .ok (.aload_n k', 1)) (hl : Ls[k'.val]? = some (.val v)) (hv : v.isRef = true) (hq : pc + 1 = q) (k : Run p e below s kc kn Q T (mkF m q Ls (v :: st))) : Run p e below s kc kn Q T (mkF m pc Ls st) := by
  subst hq; exact k.by fun t => XS.aloadN X.here K.1 rfl (hb K.2.1 hd) hl hv
theorem k_aload (K : Fx p s m meth c by' ml own nm ret Z) (X : Stand p l e R s m args below meth c T locs cells slots) {k' : Nat} {v : Value} (hd : decode by' pc = .ok (.aload k', 2)) (hl : Ls[k']? = some (.val v)) (hv : v.isRef = true) (hq : pc + 2 = q) (k : Run p e below s kc kn Q T (mkF m q Ls (v :: st))) : Run p e below s kc kn Q T (mkF m pc Ls st) := by
  subst hq; exact k.by fun t => XS.aload X.here K.1 rfl (hb K.2.1 hd) hl hv
theorem k_istoreN (K : Fx p s m meth c by' ml own nm ret Z) (X : Stand p l e R s m args below meth c T locs cells slots) {k' : Fin 4} {v x : Int32} (hd : decode by' pc = .ok (.istore_n k', 1)) (hv : x = v) (hl : storeLocals Ls k'.val (.int v) = some Ls') (hq : pc + 1 = q) (k : Run p e below s kc kn Q T (mkF m q Ls' st)) : Run p e below s kc kn Q T (mkF m pc Ls (.int x :: st)) := by
  subst hq hv; exact k.by fun t => XS.istoreN X.here K.1 rfl (hb K.2.1 hd) rfl hl
theorem k_istore (K : Fx p s m meth c by' ml own nm ret Z) (X : Stand p l e R s m args below meth c T locs cells slots) {k' : Nat} {v x : Int32} (hd : decode by' pc = .ok (.istore k', 2)) (hv : x = v) (hl : storeLocals Ls k' (.int v) = some Ls') (hq : pc + 2 = q) (k : Run p e below s kc kn Q T (mkF m q Ls' st)) : Run p e below s kc kn Q T (mkF m pc Ls (.int x :: st)) := by
  subst hq hv; exact k.by fun t => XS.istore X.here K.1 rfl (hb K.2.1 hd) rfl hl
theorem k_astore (K : Fx p s m meth c by' ml own nm ret Z) (X : Stand p l e R s m args below meth c T locs cells slots) {k' : Nat} {v : Value} (hd : decode by' pc = .ok (.astore k', 2)) (hv : v.isRef = true) (hl : storeLocals Ls k' v = some Ls') (hq : pc + 2 = q) (k : Run p e below s kc kn Q T (mkF m q Ls' st)) : Run p e below s kc kn Q T (mkF m pc Ls (v :: st)) := by
  subst hq; exact k.by fun t => XS.astore X.here K.1 rfl (hb K.2.1 hd) rfl hv hl
theorem k_iconst (K : Fx p s m meth c by' ml own nm ret Z) (X : Stand p l e R s m args below meth c T locs cells slots) {i : Int} {v : Int32} (hd : decode by' pc = .ok (.iconst i, 1)) (hv : Int32.ofInt i = v) (hq : pc + 1 = q) (k : Run p e below s kc kn Q T (mkF m q Ls (.int v :: st))) : Run p e below s kc kn Q T (mkF m pc Ls st) := by
  subst hq hv; exact k.by fun t => XS.iconst X.here K.1 rfl (hb K.2.1 hd)
theorem k_bipush (K : Fx p s m meth c by' ml own nm ret Z) (X : Stand p l e R s m args below meth c T locs cells slots) {i : Int} {v : Int32} (hd : decode by' pc = .ok (.bipush i, 2)) (hv : (Int8.ofInt i).toInt32 = v) (hq : pc + 2 = q) (k : Run p e below s kc kn Q T (mkF m q Ls (.int v :: st))) : Run p e below s kc kn Q T (mkF m pc Ls st) := by
  subst hq hv; exact k.by fun t => XS.bipush X.here K.1 rfl (hb K.2.1 hd)
theorem k_sipush (K : Fx p s m meth c by' ml own nm ret Z) (X : Stand p l e R s m args below meth c T locs cells slots) {i : Int} {v : Int32} (hd : decode by' pc = .ok (.sipush i, 3)) (hv : (Int16.ofInt i).toInt32 = v) (hq : pc + 3 = q) (k : Run p e below s kc kn Q T (mkF m q Ls (.int v :: st))) : Run p e below s kc kn Q T (mkF m pc Ls st) := by
  subst hq hv; exact k.by fun t => XS.sipush X.here K.1 rfl (hb K.2.1 hd)
theorem k_iadd (K : Fx p s m meth c by' ml own nm ret Z) (X : Stand p l e R s m args below meth c T locs cells slots) {x y : Int32} (hd : decode by' pc = .ok (.iadd, 1)) (hq : pc + 1 = q) (k : Run p e below s kc kn Q T (mkF m q Ls (.int (x + y) :: st))) : Run p e below s kc kn Q T (mkF m pc Ls (.int y :: .int x :: st)) := by
  subst hq; exact k.by fun t => XS.iadd X.here K.1 rfl (hb K.2.1 hd) rfl
theorem k_isub (K : Fx p s m meth c by' ml own nm ret Z) (X : Stand p l e R s m args below meth c T locs cells slots) {x y : Int32} (hd : decode by' pc = .ok (.isub, 1)) (hq : pc + 1 = q) (k : Run p e below s kc kn Q T (mkF m q Ls (.int (x - y) :: st))) : Run p e below s kc kn Q T (mkF m pc Ls (.int y :: .int x :: st)) := by
  subst hq; exact k.by fun t => XS.isub X.here K.1 rfl (hb K.2.1 hd) rfl
theorem k_iand (K : Fx p s m meth c by' ml own nm ret Z) (X : Stand p l e R s m args below meth c T locs cells slots) {x y : Int32} (hd : decode by' pc = .ok (.iand, 1)) (hq : pc + 1 = q) (k : Run p e below s kc kn Q T (mkF m q Ls (.int (x &&& y) :: st))) : Run p e below s kc kn Q T (mkF m pc Ls (.int y :: .int x :: st)) := by
  subst hq; exact k.by fun t => XS.iand X.here K.1 rfl (hb K.2.1 hd) rfl
theorem k_iushr (K : Fx p s m meth c by' ml own nm ret Z) (X : Stand p l e R s m args below meth c T locs cells slots) {x y : Int32} (hd : decode by' pc = .ok (.iushr, 1)) (hq : pc + 1 = q) (k : Run p e below s kc kn Q T (mkF m q Ls (.int (ushrI x y) :: st))) : Run p e below s kc kn Q T (mkF m pc Ls (.int y :: .int x :: st)) := by
  subst hq; exact k.by fun t => XS.iushr X.here K.1 rfl (hb K.2.1 hd) rfl
theorem k_i2c (K : Fx p s m meth c by' ml own nm ret Z) (X : Stand p l e R s m args below meth c T locs cells slots) {x : Int32} (hd : decode by' pc = .ok (.i2c, 1)) (hq : pc + 1 = q) (k : Run p e below s kc kn Q T (mkF m q Ls (.int (i2c x) :: st))) : Run p e below s kc kn Q T (mkF m pc Ls (.int x :: st)) := by
  subst hq; exact k.by fun t => XS.i2c X.here K.1 rfl (hb K.2.1 hd) rfl
theorem k_dup (K : Fx p s m meth c by' ml own nm ret Z) (X : Stand p l e R s m args below meth c T locs cells slots) {v : Value} (hd : decode by' pc = .ok (.dup, 1)) (hc : v.category = 1) (hq : pc + 1 = q) (k : Run p e below s kc kn Q T (mkF m q Ls (v :: v :: st))) : Run p e below s kc kn Q T (mkF m pc Ls (v :: st)) := by
  subst hq; exact k.by fun t => XS.dup X.here K.1 rfl (hb K.2.1 hd) rfl hc
theorem k_goto (K : Fx p s m meth c by' ml own nm ret Z) (X : Stand p l e R s m args below meth c T locs cells slots) {o : Int} (hd : decode by' pc = .ok (.goto o, 3)) (ho : 0 ≤ (pc : Int) + o) (hq : ((pc : Int) + o).toNat = q) (k : Run p e below s kc kn Q T (mkF m q Ls st)) : Run p e below s kc kn Q T (mkF m pc Ls st) := k.by fun t => XS.goto X.here K.1 rfl rfl (hb K.2.1 hd) ho hq
theorem k_nameI {x v : Int32} (hv : x = v) (k : Run p e below s kc kn Q T (mkF m pc Ls (.int v :: st))) : Run p e below s kc kn Q T (mkF m pc Ls (.int x :: st)) := by
  subst hv; exact k
theorem k_if_eq_y (K : Fx p s m meth c by' ml own nm ret Z) (X : Stand p l e R s m args below meth c T locs cells slots) {x : Int32} {o : Int} (hd : decode by' pc = .ok (.ifCond .eq o, 3)) (hc : x = 0) (ho : 0 ≤ (pc : Int) + o) (hq : ((pc : Int) + o).toNat = q) (k : Run p e below s kc kn Q T (mkF m q Ls st)) : Run p e below s kc kn Q T (mkF m pc Ls (.int x :: st)) := k.by fun t => XS.ifYes X.here K.1 rfl rfl (hb K.2.1 hd) rfl ((if0 _ _).trans (teq hc).1) ho hq
theorem k_if_eq_n (K : Fx p s m meth c by' ml own nm ret Z) (X : Stand p l e R s m args below meth c T locs cells slots) {x : Int32} {o : Int} (hd : decode by' pc = .ok (.ifCond .eq o, 3)) (hc : ¬ x = 0) (hq : pc + 3 = q) (k : Run p e below s kc kn Q T (mkF m q Ls st)) : Run p e below s kc kn Q T (mkF m pc Ls (.int x :: st)) := by
  subst hq; exact k.by fun t => XS.ifNo X.here K.1 rfl (hb K.2.1 hd) rfl ((if0 _ _).trans (feq hc).1)
theorem k_if_eq (K : Fx p s m meth c by' ml own nm ret Z) (X : Stand p l e R s m args below meth c T locs cells slots) {x : Int32} {o : Int} (hd : decode by' pc = .ok (.ifCond .eq o, 3)) (ho : 0 ≤ (pc : Int) + o) (hq : ((pc : Int) + o).toNat = q) (hq' : pc + 3 = q') (ky : x = 0 → Run p e below s kc kn Q T (mkF m q Ls st)) (kno : ¬ x = 0 → Run p e below s kc kn Q T (mkF m q' Ls st)) : Run p e below s kc kn Q T (mkF m pc Ls (.int x :: st)) := by
  by_cases hc : x = 0
  · exact k_if_eq_y K X hd hc ho hq (ky hc)
  · exact k_if_eq_n K X hd hc hq' (kno hc)
theorem k_if_ne_y (K : Fx p s m meth c by' ml own nm ret Z) (X : Stand p l e R s m args below meth c T locs cells slots) {x : Int32} {o : Int} (hd : decode by' pc = .ok (.ifCond .ne o, 3)) (hc : ¬ x = 0) (ho : 0 ≤ (pc : Int) + o) (hq : ((pc : Int) + o).toNat = q) (k : Run p e below s kc kn Q T (mkF m q Ls st)) : Run p e below s kc kn Q T (mkF m pc Ls (.int x :: st)) := k.by fun t => XS.ifYes X.here K.1 rfl rfl (hb K.2.1 hd) rfl ((if0 _ _).trans (feq hc).2) ho hq
theorem k_if_ne_n (K : Fx p s m meth c by' ml own nm ret Z) (X : Stand p l e R s m args below meth c T locs cells slots) {x : Int32} {o : Int} (hd : decode by' pc = .ok (.ifCond .ne o, 3)) (hc : x = 0) (hq : pc + 3 = q) (k : Run p e below s kc kn Q T (mkF m q Ls st)) : Run p e below s kc kn Q T (mkF m pc Ls (.int x :: st)) := by
  subst hq; exact k.by fun t => XS.ifNo X.here K.1 rfl (hb K.2.1 hd) rfl ((if0 _ _).trans (teq hc).2)
theorem k_if_ne (K : Fx p s m meth c by' ml own nm ret Z) (X : Stand p l e R s m args below meth c T locs cells slots) {x : Int32} {o : Int} (hd : decode by' pc = .ok (.ifCond .ne o, 3)) (ho : 0 ≤ (pc : Int) + o) (hq : ((pc : Int) + o).toNat = q) (hq' : pc + 3 = q') (ky : ¬ x = 0 → Run p e below s kc kn Q T (mkF m q Ls st)) (kno : x = 0 → Run p e below s kc kn Q T (mkF m q' Ls st)) : Run p e below s kc kn Q T (mkF m pc Ls (.int x :: st)) := by
  by_cases hc : x = 0
  · exact k_if_ne_n K X hd hc hq' (kno hc)
  · exact k_if_ne_y K X hd hc ho hq (ky hc)
theorem k_icmp_ne_y (K : Fx p s m meth c by' ml own nm ret Z) (X : Stand p l e R s m args below meth c T locs cells slots) {x y : Int32} {o : Int} (hd : decode by' pc = .ok (.if_icmp .ne o, 3)) (hc : ¬ x = y) (ho : 0 ≤ (pc : Int) + o) (hq : ((pc : Int) + o).toNat = q) (k : Run p e below s kc kn Q T (mkF m q Ls st)) : Run p e below s kc kn Q T (mkF m pc Ls (.int y :: .int x :: st)) := k.by fun t => XS.icmpYes X.here K.1 rfl rfl (hb K.2.1 hd) rfl (feq hc).2 ho hq
theorem k_icmp_ne_n (K : Fx p s m meth c by' ml own nm ret Z) (X : Stand p l e R s m args below meth c T locs cells slots) {x y : Int32} {o : Int} (hd : decode by' pc = .ok (.if_icmp .ne o, 3)) (hc : x = y) (hq : pc + 3 = q) (k : Run p e below s kc kn Q T (mkF m q Ls st)) : Run p e below s kc kn Q T (mkF m pc Ls (.int y :: .int x :: st)) := by
  subst hq; exact k.by fun t => XS.icmpNo X.here K.1 rfl (hb K.2.1 hd) rfl (teq hc).2
theorem k_icmp_ne (K : Fx p s m meth c by' ml own nm ret Z) (X : Stand p l e R s m args below meth c T locs cells slots) {x y : Int32} {o : Int} (hd : decode by' pc = .ok (.if_icmp .ne o, 3)) (ho : 0 ≤ (pc : Int) + o) (hq : ((pc : Int) + o).toNat = q) (hq' : pc + 3 = q') (ky : ¬ x = y → Run p e below s kc kn Q T (mkF m q Ls st)) (kno : x = y → Run p e below s kc kn Q T (mkF m q' Ls st)) : Run p e below s kc kn Q T (mkF m pc Ls (.int y :: .int x :: st)) := by
  by_cases hc : x = y
  · exact k_icmp_ne_n K X hd hc hq' (kno hc)
  · exact k_icmp_ne_y K X hd hc ho hq (ky hc)
theorem k_icmp_lt_y (K : Fx p s m meth c by' ml own nm ret Z) (X : Stand p l e R s m args below meth c T locs cells slots) {x y : Int32} {o : Int} (hd : decode by' pc = .ok (.if_icmp .lt o, 3)) (hc : x < y) (ho : 0 ≤ (pc : Int) + o) (hq : ((pc : Int) + o).toNat = q) (k : Run p e below s kc kn Q T (mkF m q Ls st)) : Run p e below s kc kn Q T (mkF m pc Ls (.int y :: .int x :: st)) := k.by fun t => XS.icmpYes X.here K.1 rfl rfl (hb K.2.1 hd) rfl (tlt hc).1 ho hq
theorem k_icmp_lt_n (K : Fx p s m meth c by' ml own nm ret Z) (X : Stand p l e R s m args below meth c T locs cells slots) {x y : Int32} {o : Int} (hd : decode by' pc = .ok (.if_icmp .lt o, 3)) (hc : ¬ x < y) (hq : pc + 3 = q) (k : Run p e below s kc kn Q T (mkF m q Ls st)) : Run p e below s kc kn Q T (mkF m pc Ls (.int y :: .int x :: st)) := by
  subst hq; exact k.by fun t => XS.icmpNo X.here K.1 rfl (hb K.2.1 hd) rfl (flt hc).1
theorem k_icmp_lt (K : Fx p s m meth c by' ml own nm ret Z) (X : Stand p l e R s m args below meth c T locs cells slots) {x y : Int32} {o : Int} (hd : decode by' pc = .ok (.if_icmp .lt o, 3)) (ho : 0 ≤ (pc : Int) + o) (hq : ((pc : Int) + o).toNat = q) (hq' : pc + 3 = q') (ky : x < y → Run p e below s kc kn Q T (mkF m q Ls st)) (kno : ¬ x < y → Run p e below s kc kn Q T (mkF m q' Ls st)) : Run p e below s kc kn Q T (mkF m pc Ls (.int y :: .int x :: st)) := by
  by_cases hc : x < y
  · exact k_icmp_lt_y K X hd hc ho hq (ky hc)
  · exact k_icmp_lt_n K X hd hc hq' (kno hc)
theorem k_if_gt_y (K : Fx p s m meth c by' ml own nm ret Z) (X : Stand p l e R s m args below meth c T locs cells slots) {x : Int32} {o : Int} (hd : decode by' pc = .ok (.ifCond .gt o, 3)) (hc : 0 < x) (ho : 0 ≤ (pc : Int) + o) (hq : ((pc : Int) + o).toNat = q) (k : Run p e below s kc kn Q T (mkF m q Ls st)) : Run p e below s kc kn Q T (mkF m pc Ls (.int x :: st)) := k.by fun t => XS.ifYes X.here K.1 rfl rfl (hb K.2.1 hd) rfl ((if0 _ _).trans (tlt hc).2.2.1) ho hq
theorem k_if_gt_n (K : Fx p s m meth c by' ml own nm ret Z) (X : Stand p l e R s m args below meth c T locs cells slots) {x : Int32} {o : Int} (hd : decode by' pc = .ok (.ifCond .gt o, 3)) (hc : ¬ 0 < x) (hq : pc + 3 = q) (k : Run p e below s kc kn Q T (mkF m q Ls st)) : Run p e below s kc kn Q T (mkF m pc Ls (.int x :: st)) := by
  subst hq; exact k.by fun t => XS.ifNo X.here K.1 rfl (hb K.2.1 hd) rfl ((if0 _ _).trans (flt hc).2.2.1)
theorem k_if_gt (K : Fx p s m meth c by' ml own nm ret Z) (X : Stand p l e R s m args below meth c T locs cells slots) {x : Int32} {o : Int} (hd : decode by' pc = .ok (.ifCond .gt o, 3)) (ho : 0 ≤ (pc : Int) + o) (hq : ((pc : Int) + o).toNat = q) (hq' : pc + 3 = q') (ky : 0 < x → Run p e below s kc kn Q T (mkF m q Ls st)) (kno : ¬ 0 < x → Run p e below s kc kn Q T (mkF m q' Ls st)) : Run p e below s kc kn Q T (mkF m pc Ls (.int x :: st)) := by
  by_cases hc : 0 < x
  · exact k_if_gt_y K X hd hc ho hq (ky hc)
  · exact k_if_gt_n K X hd hc hq' (kno hc)
theorem k_if_le_y (K : Fx p s m meth c by' ml own nm ret Z) (X : Stand p l e R s m args below meth c T locs cells slots) {x : Int32} {o : Int} (hd : decode by' pc = .ok (.ifCond .le o, 3)) (hc : ¬ 0 < x) (ho : 0 ≤ (pc : Int) + o) (hq : ((pc : Int) + o).toNat = q) (k : Run p e below s kc kn Q T (mkF m q Ls st)) : Run p e below s kc kn Q T (mkF m pc Ls (.int x :: st)) := k.by fun t => XS.ifYes X.here K.1 rfl rfl (hb K.2.1 hd) rfl ((if0 _ _).trans (flt hc).2.2.2) ho hq
theorem k_if_le_n (K : Fx p s m meth c by' ml own nm ret Z) (X : Stand p l e R s m args below meth c T locs cells slots) {x : Int32} {o : Int} (hd : decode by' pc = .ok (.ifCond .le o, 3)) (hc : 0 < x) (hq : pc + 3 = q) (k : Run p e below s kc kn Q T (mkF m q Ls st)) : Run p e below s kc kn Q T (mkF m pc Ls (.int x :: st)) := by
  subst hq; exact k.by fun t => XS.ifNo X.here K.1 rfl (hb K.2.1 hd) rfl ((if0 _ _).trans (tlt hc).2.2.2)
theorem k_if_le (K : Fx p s m meth c by' ml own nm ret Z) (X : Stand p l e R s m args below meth c T locs cells slots) {x : Int32} {o : Int} (hd : decode by' pc = .ok (.ifCond .le o, 3)) (ho : 0 ≤ (pc : Int) + o) (hq : ((pc : Int) + o).toNat = q) (hq' : pc + 3 = q') (ky : ¬ 0 < x → Run p e below s kc kn Q T (mkF m q Ls st)) (kno : 0 < x → Run p e below s kc kn Q T (mkF m q' Ls st)) : Run p e below s kc kn Q T (mkF m pc Ls (.int x :: st)) := by
  by_cases hc : 0 < x
  · exact k_if_le_n K X hd hc hq' (kno hc)
  · exact k_if_le_y K X hd hc ho hq (ky hc)
theorem k_reti (K : Fx p s m meth c by' ml own nm (some .int) Z) (X : Stand p l e R s m args below meth c T locs cells slots) {x : Int32} (eT : T.heap = h) (hd : decode by' pc = .ok (.ireturn, 1)) (hc : cells ≤ kc) (hn : slots ≤ kn) (hQ : Q (some (.int x)) h locs) : Run p e below s kc kn Q T (mkF m pc Ls [.int x]) := by
  subst eT
  have hlk := K.2.2.2.2.2.2.1
  obtain ⟨fs, hr, hrun, hended, hW, hsame⟩ := X.leave (v := (some (.int x))) (fun z => by rw [K.2.2.2.2.2.1] at z; cases z)
  exact ⟨_, _, X.ireturnOut K.1 K.2.2.2.2.2.1 rfl (Or.inl rfl) (hb K.2.1 hd) hr, hrun, hended, _, _, rfl, hQ, ⟨_, rfl⟩, hW, hsame.mono hc hn⟩
theorem k_retz (K : Fx p s m meth c by' ml own nm (some .boolean) Z) (X : Stand p l e R s m args below meth c T locs cells slots) {x : Int32} (eT : T.heap = h) (hd : decode by' pc = .ok (.ireturn, 1)) (hc : cells ≤ kc) (hn : slots ≤ kn) (hQ : Q (some (.int (nar .boolean x))) h locs) : Run p e below s kc kn Q T (mkF m pc Ls [.int x]) := by
  subst eT
  have hlk := K.2.2.2.2.2.2.1
  obtain ⟨fs, hr, hrun, hended, hW, hsame⟩ := X.leave (v := (some (.int (nar .boolean x)))) (fun z => by rw [K.2.2.2.2.2.1] at z; cases z)
  exact ⟨_, _, retN X K.1 K.2.2.2.2.2.1 (by simp) (hb K.2.1 hd) hr, hrun, hended, _, _, rfl, hQ, ⟨_, rfl⟩, hW, hsame.mono hc hn⟩
theorem k_retc (K : Fx p s m meth c by' ml own nm (some .char) Z) (X : Stand p l e R s m args below meth c T locs cells slots) {x : Int32} (eT : T.heap = h) (hd : decode by' pc = .ok (.ireturn, 1)) (hc : cells ≤ kc) (hn : slots ≤ kn) (hQ : Q (some (.int (nar .char x))) h locs) : Run p e below s kc kn Q T (mkF m pc Ls [.int x]) := by
  subst eT
  have hlk := K.2.2.2.2.2.2.1
  obtain ⟨fs, hr, hrun, hended, hW, hsame⟩ := X.leave (v := (some (.int (nar .char x)))) (fun z => by rw [K.2.2.2.2.2.1] at z; cases z)
  exact ⟨_, _, retN X K.1 K.2.2.2.2.2.1 (by simp) (hb K.2.1 hd) hr, hrun, hended, _, _, rfl, hQ, ⟨_, rfl⟩, hW, hsame.mono hc hn⟩
theorem k_retv (K : Fx p s m meth c by' ml own nm none Z) (X : Stand p l e R s m args below meth c T locs cells slots)  (eT : T.heap = h) (hd : decode by' pc = .ok (.return_, 1)) (hc : cells ≤ kc) (hn : slots ≤ kn) (hQ : Q none h locs) : Run p e below s kc kn Q T (mkF m pc Ls []) := by
  subst eT
  have hlk := K.2.2.2.2.2.2.1
  obtain ⟨fs, hr, hrun, hended, hW, hsame⟩ := X.leave (v := none) (fun _ => rfl)
  exact ⟨_, _, X.returnOut K.1 K.2.2.2.2.2.1 (hb K.2.1 hd) hr, hrun, hended, _, _, rfl, hQ, ⟨_, rfl⟩, hW, hsame.mono hc hn⟩
/-- a contract: with these arguments over this heap the body returns as Q says, within the room -/
abbrev Met (l : Launch) (y : MethodName) (bytes : ByteArray) (maxL : Nat) (ret : Option FieldType) (ws : List Jvm.Cond) (rm : Room) (Z : State) (as' : Array Value) (h0 : Heap) (Q : Option Value → Heap → List Loc → Prop) : Prop :=
  MetFree l y (head1 (Jvm.Cond.code y bytes maxL ret :: ws) rm) (fun a U => a = as' ∧ Z.Warmed39 U.vm ∧ U.heap = h0) (fun _ _ _ _ _ => True) (fun _ U o U' => ∃ v L, o = .returned v ∧ Q v U'.heap L ∧ FrameEnd U o U' L rm.cells rm.slots)
theorem enter {y : MethodName} {bytes : ByteArray} {maxL : Nat} {ws : List Jvm.Cond} {rm : Room} {as' : Array Value} {h0 : Heap} (hpl : plainFor y = true) (hef : ∀ m, entryFrame m as' maxL = mkF m 0 Ls [])
    (body : ∀ p e s m below meth c T kc kn Q', rm.cells ≤ kc → rm.slots ≤ kn → (∀ v h L, Q v h L → Q' v h L) → Fx p s m meth c bytes maxL y.cls y.name ret Z → Stand p l e rm s m as' below meth c T [] 0 0 → T.heap = h0 → Run p e below s kc kn Q' T (mkF m 0 Ls [])) : Met l y bytes maxL ret ws rm Z as' h0 Q := by
  refine MetFree.of_bodySF hpl hisR ?_
  intro p e s m args below meth c s₁ Bd hml0 hP hK
  obtain ⟨rfl, hZ, hh⟩ := hP
  obtain ⟨t, o, h1, h2, h3, v, L, h4, h5, h6⟩ := body p e s m below meth c s₁ _ _ Q (Nat.le_refl _) (Nat.le_refl _) (fun _ _ _ z => z) ⟨Bd.exec, Bd.bytes, hml0, findClass_of_methodNamed Bd.named, hZ, Bd.returns, BodyLoose.notSynchronized Bd, (name_of_methodNamed Bd.named Bd.method).1⟩ (Stand.of_body Bd) (by rw [← hh, Bd.state]; rfl)
  exact ⟨t, o, castTop (hef m) h1, h2, h3, v, L, h4, h5, h6⟩
theorem k_static (K : Fx p s m meth c by' ml own nm ret Z) (X : Stand p l e R s m args below meth c T locs cells slots) (eT : T.heap = h) {y : MethodName} {bytes : ByteArray} {maxL i W : Nat} {rt : Option FieldType} {rm : Room} {as' : Array Value} {Q' : Option Value → Heap → List Loc → Prop}
    (hd : decode by' pc = .ok (.invokestatic i, 3)) (w1 : (Cond.methodLink own i y).before a0 Z = true) (w2 : (Cond.static y).before a0 Z = true) (w3 : (Cond.initialized y.cls).before a0 Z = true) (w4 : (Cond.code y bytes maxL rt).before a0 Z = true) (hy : y.cls ≠ "java/lang/invoke/MethodHandle" ∧ y.cls ≠ "java/lang/invoke/VarHandle")
    (hM : Met l y bytes maxL rt [] rm Z as' h Q') (hf : rm.frames + 1 ≤ R.frames) (hl : W + (maxL + 11) + rm.locals ≤ R.locals) (hc : cells + rm.cells ≤ R.cells) (hn : slots + rm.slots ≤ R.slots) (hsz : Ls.size = ml)
    {sig : MethodDescriptor} (hdesc : parseMethodDescriptor y.desc = some sig) {argsL rest : List Value} (ha : as' = argsL.toArray) (hlen : argsL.length = sig.parameters.length) (hst : st = argsL.reverse ++ rest) (hW : (rest.map fun v => v.category).sum ≤ W) (hq : pc + 3 = q)
    (k : ∀ v T' L, Stand p l e R s m args below meth c T' (locs ++ L) (cells + rm.cells) (slots + rm.slots) → Q' v T'.heap L → Run p e below s kc kn Q T' (mkF m q Ls (v.toList ++ rest))) : Run p e below s kc kn Q T (mkF m pc Ls st) := by
  have hZ := K.2.2.2.2.1
  subst hq
  obtain ⟨v, _, ⟨T2, L2, k2, n2⟩, -, X2, ⟨Lc, hQ2, l2, y2, z2⟩, st2⟩ := Jvm.LawKit.callS X K.1 (y := y) K.2.2.2.1 (mvT hZ w1) (mvT hZ w2) (mvT hZ w3) (mvT hZ w4) hy (backOf (W := W) hM hZ w4 w3 hf hl) (g := mkF m pc Ls st) rfl (by rw [K.2.2.1]; exact hsz) (argsL := argsL) (rest := rest) (fun sg hs => by cases hdesc.symm.trans hs; exact hlen) hst (by show 2 * 0 + _ ≤ _; omega) (hb K.2.1 hd) (fun _ _ => ⟨ha.symm, eT, hc, hn⟩)
  dsimp only [Pt.U, Pt.locs, Pt.cells, Pt.slots] at X2 l2 y2 z2 st2 hQ2
  subst l2 y2 z2
  exact (k v T2 Lc X2 hQ2).by st2
/-- a static callee that leaves the heap as it was -/
theorem k_staticP (K : Fx p s m meth c by' ml own nm ret Z) (X : Stand p l e R s m args below meth c T locs cells slots) (eT : T.heap = h) {y : MethodName} {bytes : ByteArray} {maxL i W fr lo : Nat} {rt : Option FieldType} {as' : Array Value} {w : Value}
    (hd : decode by' pc = .ok (.invokestatic i, 3)) (w1 : (Cond.methodLink own i y).before a0 Z = true) (w2 : (Cond.static y).before a0 Z = true) (w3 : (Cond.initialized y.cls).before a0 Z = true) (w4 : (Cond.code y bytes maxL rt).before a0 Z = true) (hy : y.cls ≠ "java/lang/invoke/MethodHandle" ∧ y.cls ≠ "java/lang/invoke/VarHandle")
    (hM : Met l y bytes maxL rt [] { frames := fr, cells := 0, slots := 0, locals := lo } Z as' h (fun v h' L => v = some w ∧ h' = h ∧ L = [])) (hf : fr + 1 ≤ R.frames) (hl : W + (maxL + 11) + lo ≤ R.locals) (hc : cells ≤ R.cells) (hn : slots ≤ R.slots) (hsz : Ls.size = ml)
    {sig : MethodDescriptor} (hdesc : parseMethodDescriptor y.desc = some sig) {argsL rest : List Value} (ha : as' = argsL.toArray) (hlen : argsL.length = sig.parameters.length) (hst : st = argsL.reverse ++ rest) (hW : (rest.map fun v => v.category).sum ≤ W) (hq : pc + 3 = q)
    (k : ∀ T', Stand p l e R s m args below meth c T' locs cells slots → T'.heap = h → Run p e below s kc kn Q T' (mkF m q Ls (w :: rest))) : Run p e below s kc kn Q T (mkF m pc Ls st) := by
  refine k_static K X eT hd w1 w2 w3 w4 hy hM hf hl hc hn hsz hdesc ha hlen hst hW hq ?_
  rintro v T' L X' ⟨rfl, h2, rfl⟩
  rw [List.append_nil] at X'
  exact k T' X' h2
theorem k_special (K : Fx p s m meth c by' ml own nm ret Z) (X : Stand p l e R s m args below meth c T locs cells slots) (eT : T.heap = h) {y : MethodName} {bytes : ByteArray} {maxL i W : Nat} {rm : Room} {as' : Array Value} {Q' : Option Value → Heap → List Loc → Prop} {a : Addr}
    (hd : decode by' pc = .ok (.invokespecial i, 3)) (hy1 : y.name = "<init>") (w1 : (Cond.methodLink own i y).before a0 Z = true) (w2 : (Cond.instanceMethod y).before a0 Z = true) (w3 : (Cond.initialized y.cls).before a0 Z = true) (w4 : (Cond.code y bytes maxL none).before a0 Z = true) (hy : y.cls ≠ "java/lang/invoke/MethodHandle" ∧ y.cls ≠ "java/lang/invoke/VarHandle")
    (hM : Met l y bytes maxL none [] rm Z as' h Q') (hf : rm.frames + 1 ≤ R.frames) (hl : W + (maxL + 11) + rm.locals ≤ R.locals) (hc : cells + rm.cells ≤ R.cells) (hn : slots + rm.slots ≤ R.slots) (hsz : Ls.size = ml)
    {sig : MethodDescriptor} (hdesc : parseMethodDescriptor y.desc = some sig) {argsL rest : List Value} (ha : as' = (.ref a :: argsL).toArray) (hlen : argsL.length = sig.parameters.length) (hst : st = argsL.reverse ++ .ref a :: rest) (hW : (rest.map fun v => v.category).sum ≤ W) (hq : pc + 3 = q)
    (k : ∀ v T' L, Stand p l e R s m args below meth c T' (locs ++ L) (cells + rm.cells) (slots + rm.slots) → Q' v T'.heap L → Run p e below s kc kn Q T' (mkF m q Ls (v.toList ++ rest))) : Run p e below s kc kn Q T (mkF m pc Ls st) := by
  have hZ := K.2.2.2.2.1
  subst hq
  obtain ⟨v, _, ⟨T2, L2, k2, n2⟩, -, X2, ⟨Lc, hQ2, l2, y2, z2⟩, st2⟩ := X.specialBack K.1 (y := y) hy1 K.2.2.2.1 (mvT hZ w1) (mvT hZ w2) (mvT hZ w4) hy (backOf (W := W) hM hZ w4 w3 hf hl) (g := mkF m pc Ls st) rfl (by rw [K.2.2.1]; exact hsz) (Steps.refl _) (a := a) (argsL := argsL) (rest := rest) (fun sg hs => by cases hdesc.symm.trans hs; exact hlen) hst (by show 2 * 0 + _ ≤ _; omega) (hb K.2.1 hd) (fun _ _ => ⟨ha.symm, eT, hc, hn⟩)
  dsimp only [Pt.U, Pt.locs, Pt.cells, Pt.slots] at X2 l2 y2 z2 st2 hQ2
  subst l2 y2 z2
  exact (k v T2 Lc X2 hQ2).on st2
theorem k_virtual (K : Fx p s m meth c by' ml own nm ret Z) (X : Stand p l e R s m args below meth c T locs cells slots) (eT : T.heap = h) {y : MethodName} {bytes : ByteArray} {maxL i W : Nat} {rt : Option FieldType} {rm : Room} {as' : Array Value} {Q' : Option Value → Heap → List Loc → Prop} {a : Addr}
    (hd : decode by' pc = .ok (.invokevirtual i, 3)) (w1 : (Cond.methodLink own i y).before a0 Z = true) (w2 : (Cond.declares y).before a0 Z = true) (w5 : (Cond.selects y.cls y y).before a0 Z = true) (w6 : (Cond.instanceMethod y).before a0 Z = true) (w3 : (Cond.initialized y.cls).before a0 Z = true) (w4 : (Cond.code y bytes maxL rt).before a0 Z = true) (hy : y.cls ≠ "java/lang/invoke/MethodHandle" ∧ y.cls ≠ "java/lang/invoke/VarHandle")
    (hE : Exa Z h a y.cls) (hM : Met l y bytes maxL rt [] rm Z as' h Q') (hf : rm.frames + 1 ≤ R.frames) (hl : W + (maxL + 11) + rm.locals ≤ R.locals) (hc : cells + rm.cells ≤ R.cells) (hn : slots + rm.slots ≤ R.slots) (hsz : Ls.size = ml)
    {sig : MethodDescriptor} (hdesc : parseMethodDescriptor y.desc = some sig) {argsL rest : List Value} (ha : as' = (.ref a :: argsL).toArray) (hlen : argsL.length = sig.parameters.length) (hst : st = argsL.reverse ++ .ref a :: rest) (hW : (rest.map fun v => v.category).sum ≤ W) (hq : pc + 3 = q)
    (k : ∀ v T' L, Stand p l e R s m args below meth c T' (locs ++ L) (cells + rm.cells) (slots + rm.slots) → Q' v T'.heap L → Run p e below s kc kn Q T' (mkF m q Ls (v.toList ++ rest))) : Run p e below s kc kn Q T (mkF m pc Ls st) := by
  have hZ := K.2.2.2.2.1
  subst hq
  obtain ⟨cq, kq, qa, qb, qc⟩ := isOf hZ eT hE
  obtain ⟨v, _, ⟨T2, L2, k2, n2⟩, -, X2, ⟨Lc, hQ2, l2, y2, z2⟩, st2⟩ := X.virtualBack K.1 (y := y) (z := y) K.2.2.2.1 (mvT hZ w1) (mvT hZ w2) (notFace_of_selects (args := #[]) (mvT hZ w5)) (mvT hZ w5) (mvT hZ w6) hy (backOf (W := W) hM hZ w4 w3 hf hl) qa qc (g := mkF m pc Ls st) rfl (by rw [K.2.2.1]; exact hsz) (Steps.refl _) (argsL := argsL) (rest := rest) (fun sg hs => by cases hdesc.symm.trans hs; exact hlen) hst (by show 2 * 0 + _ ≤ _; omega) (hb K.2.1 hd) (fun _ _ => ⟨ha.symm, eT, hc, hn⟩)
  dsimp only [Pt.U, Pt.locs, Pt.cells, Pt.slots] at X2 l2 y2 z2 st2 hQ2
  subst l2 y2 z2
  exact (k v T2 Lc X2 hQ2).on st2
theorem k_initO (K : Fx p s m meth c by' ml own nm ret Z) (X : Stand p l e R s m args below meth c T locs cells slots) (eT : T.heap = h) {i W : Nat} {a : Addr} (hd : decode by' pc = .ok (.invokespecial i, 3)) (w1 : (Cond.methodLink own i Lib.objectInit).before a0 Z = true) (w2 : (Cond.instanceMethod Lib.objectInit).before a0 Z = true) (w3 : (Cond.code Lib.objectInit ⟨#[0xb1]⟩ 1 none).before a0 Z = true)
    (hsz : Ls.size = ml) (hf : 1 ≤ R.frames) (hW : (st.map fun v => v.category).sum ≤ W) (hl : W + 12 ≤ R.locals) (hq : pc + 3 = q)
    (k : ∀ T', Stand p l e R s m args below meth c T' locs cells slots → T'.heap = h → Run p e below s kc kn Q T' (mkF m q Ls st)) : Run p e below s kc kn Q T (mkF m pc Ls (.ref a :: st)) := by
  subst hq
  obtain ⟨T2, X2, e2, st2⟩ := initO X K.1 K.2.2.2.2.1 K.2.2.2.1 w1 w2 w3 eT (g := mkF m pc Ls (.ref a :: st)) rfl (by rw [K.2.2.1]; exact hsz) rfl (hb K.2.1 hd) hf (W := W) (by show 2 * 0 + _ ≤ _; omega) hl
  exact (k T2 X2 e2).by st2
theorem k_new (K : Fx p s m meth c by' ml own nm ret Z) (X : Stand p l e R s m args below meth c T locs cells slots) (eT : T.heap = h) {i n : Nat} {C : String} (hd : decode by' pc = .ok (.new i, 3)) (w1 : (Cond.classLink own i C).before a0 Z = true) (w2 : (Cond.instantiable C n).before a0 Z = true) (w3 : (Cond.initialized C).before a0 Z = true) (hc : cells + 1 ≤ R.cells) (hn : slots + n ≤ R.slots) (hq : pc + 3 = q)
    (k : ∀ T' h' a, Stand p l e R s m args below meth c T' locs (cells + 1) (slots + n) → T'.heap = h' → a = h.size → Ext h h' → Exa Z h' a C → (∀ {O fn d : String} {ty : FieldType}, Laid Z a0 C O fn d → parseFieldDescriptor d = some ty → Fld Z h' a O fn d (defaultValue ty)) → Run p e below s kc kn Q T' (mkF m q Ls (.ref a :: st))) : Run p e below s kc kn Q T (mkF m pc Ls st) := by
  subst hq
  obtain ⟨T2, h2, X2, e2, E2, A2, D2, -, st2⟩ := newO X K.1 K.2.2.2.2.1 K.2.2.2.1 w1 w2 w3 eT (g := mkF m pc Ls st) rfl (hb K.2.1 hd) hc hn
  exact (k T2 h2 h.size X2 e2 rfl E2 A2 D2).by st2
theorem k_getfield (K : Fx p s m meth c by' ml own nm ret Z) (X : Stand p l e R s m args below meth c T locs cells slots) (eT : T.heap = h) {i : Nat} {O fn d : String} {a : Addr} {v : Value} (hd : decode by' pc = .ok (.getfield i, 3)) (w : (Cond.fieldLink own i O fn d).before a0 Z = true) (F : Fld Z h a O fn d v) (hq : pc + 3 = q)
    (k : ∀ T', Stand p l e R s m args below meth c T' locs cells slots → T'.heap = h → Run p e below s kc kn Q T' (mkF m q Ls (v :: st))) : Run p e below s kc kn Q T (mkF m pc Ls (.ref a :: st)) := by
  subst hq
  obtain ⟨T2, X2, e2, st2⟩ := getF X K.1 K.2.2.2.2.1 K.2.2.2.1 (host := "") (Or.inl w) Via.refl eT F (g := mkF m pc Ls (.ref a :: st)) rfl rfl (hb K.2.1 hd)
  exact (k T2 X2 e2).by st2
theorem k_putfield (K : Fx p s m meth c by' ml own nm ret Z) (X : Stand p l e R s m args below meth c T locs cells slots) (eT : T.heap = h) {i n : Nat} {O C fn d : String} {ty : FieldType} {a : Addr} {v old : Value} (hd : decode by' pc = .ok (.putfield i, 3)) (w : (Cond.fieldLink own i O fn d).before a0 Z = true) (F : Fld Z h a O fn d old) (E : Exa Z h a C) (L : (Cond.lays C O fn d).before a0 Z = true ∨ ((Cond.laysFinal C O fn d).before a0 Z = true ∧ own = O ∧ nm = "<init>")) (wi : (Cond.instantiable C n).before a0 Z = true)
    (hty : parseFieldDescriptor d = some ty) (hnar : narrow ty v = v) (hfit : fits ty v = true) (hq : pc + 3 = q)
    (k : ∀ T' h', Stand p l e R s m args below meth c T' (locs ++ [⟨a, Jvm.RoadKit.slotOf Z O fn d⟩]) cells slots → T'.heap = h' → Wr h h' a (Jvm.RoadKit.slotOf Z O fn d) v → Run p e below s kc kn Q T' (mkF m q Ls st)) : Run p e below s kc kn Q T (mkF m pc Ls (v :: .ref a :: st)) := by
  subst hq
  obtain ⟨T2, h2, X2, e2, W2, st2⟩ := putF X K.1 K.2.2.2.2.1 K.2.2.2.1 (host := "") (Or.inl w) Via.refl eT F E (L.imp id fun z => ⟨z.1, z.2.1, K.2.2.2.2.2.2.2.trans z.2.2⟩) wi hty hnar hfit (g := mkF m pc Ls (v :: .ref a :: st)) rfl rfl (hb K.2.1 hd)
  exact (k T2 h2 X2 e2 W2).by st2
theorem k_putfieldN (K : Fx p s m meth c by' ml own nm ret Z) (X : Stand p l e R s m args below meth c T locs cells slots) (eT : T.heap = h) {i n : Nat} {O C fn d : String} {ty : FieldType} {a : Addr} {v v' old : Value} (hd : decode by' pc = .ok (.putfield i, 3)) (w : (Cond.fieldLink own i O fn d).before a0 Z = true) (F : Fld Z h a O fn d old) (E : Exa Z h a C) (L : (Cond.lays C O fn d).before a0 Z = true ∨ ((Cond.laysFinal C O fn d).before a0 Z = true ∧ own = O ∧ nm = "<init>")) (wi : (Cond.instantiable C n).before a0 Z = true)
    (hty : parseFieldDescriptor d = some ty) (hnar : narrow ty v = v') (hfit : fits ty v' = true) (hq : pc + 3 = q)
    (k : ∀ T' h', Stand p l e R s m args below meth c T' (locs ++ [⟨a, Jvm.RoadKit.slotOf Z O fn d⟩]) cells slots → T'.heap = h' → Wr h h' a (Jvm.RoadKit.slotOf Z O fn d) v' → Run p e below s kc kn Q T' (mkF m q Ls st)) : Run p e below s kc kn Q T (mkF m pc Ls (v :: .ref a :: st)) := by
  subst hq
  obtain ⟨T2, h2, X2, e2, W2, st2⟩ := putFN X K.1 K.2.2.2.2.1 K.2.2.2.1 w Via.refl eT F E (L.imp id fun z => ⟨z.1, z.2.1, K.2.2.2.2.2.2.2.trans z.2.2⟩) wi hty hnar hfit (g := mkF m pc Ls (v :: .ref a :: st)) rfl rfl (hb K.2.1 hd)
  exact (k T2 h2 X2 e2 W2).by st2
/-- an instance method that leaves the heap as it was -/
theorem k_virtualP (K : Fx p s m meth c by' ml own nm ret Z) (X : Stand p l e R s m args below meth c T locs cells slots) (eT : T.heap = h) {y : MethodName} {bytes : ByteArray} {maxL i W fr lo : Nat} {rt : Option FieldType} {as' : Array Value} {w : Value} {a : Addr}
    (hd : decode by' pc = .ok (.invokevirtual i, 3)) (w1 : (Cond.methodLink own i y).before a0 Z = true) (w2 : (Cond.declares y).before a0 Z = true) (w5 : (Cond.selects y.cls y y).before a0 Z = true) (w6 : (Cond.instanceMethod y).before a0 Z = true) (w3 : (Cond.initialized y.cls).before a0 Z = true) (w4 : (Cond.code y bytes maxL rt).before a0 Z = true) (hy : y.cls ≠ "java/lang/invoke/MethodHandle" ∧ y.cls ≠ "java/lang/invoke/VarHandle")
    (hE : Exa Z h a y.cls) (hM : Met l y bytes maxL rt [] { frames := fr, cells := 0, slots := 0, locals := lo } Z as' h (fun v h' L => v = some w ∧ h' = h ∧ L = [])) (hf : fr + 1 ≤ R.frames) (hl : W + (maxL + 11) + lo ≤ R.locals) (hc : cells ≤ R.cells) (hn : slots ≤ R.slots) (hsz : Ls.size = ml)
    {sig : MethodDescriptor} (hdesc : parseMethodDescriptor y.desc = some sig) {argsL rest : List Value} (ha : as' = (.ref a :: argsL).toArray) (hlen : argsL.length = sig.parameters.length) (hst : st = argsL.reverse ++ .ref a :: rest) (hW : (rest.map fun v => v.category).sum ≤ W) (hq : pc + 3 = q)
    (k : ∀ T', Stand p l e R s m args below meth c T' locs cells slots → T'.heap = h → Run p e below s kc kn Q T' (mkF m q Ls (w :: rest))) : Run p e below s kc kn Q T (mkF m pc Ls st) := by
  refine k_virtual K X eT hd w1 w2 w5 w6 w3 w4 hy hE hM hf hl hc hn hsz hdesc ha hlen hst hW hq ?_
  rintro v T' L X' ⟨rfl, h2, rfl⟩
  rw [List.append_nil] at X'
  exact k T' X' h2
/-- a constructor that does nothing to the heap -/
theorem k_specialP (K : Fx p s m meth c by' ml own nm ret Z) (X : Stand p l e R s m args below meth c T locs cells slots) (eT : T.heap = h) {y : MethodName} {bytes : ByteArray} {maxL i W fr lo : Nat} {as' : Array Value} {a : Addr}
    (hd : decode by' pc = .ok (.invokespecial i, 3)) (hy1 : y.name = "<init>") (w1 : (Cond.methodLink own i y).before a0 Z = true) (w2 : (Cond.instanceMethod y).before a0 Z = true) (w3 : (Cond.initialized y.cls).before a0 Z = true) (w4 : (Cond.code y bytes maxL none).before a0 Z = true) (hy : y.cls ≠ "java/lang/invoke/MethodHandle" ∧ y.cls ≠ "java/lang/invoke/VarHandle")
    (hM : Met l y bytes maxL none [] { frames := fr, cells := 0, slots := 0, locals := lo } Z as' h (fun v h' L => v = none ∧ h' = h ∧ L = [])) (hf : fr + 1 ≤ R.frames) (hl : W + (maxL + 11) + lo ≤ R.locals) (hc : cells ≤ R.cells) (hn : slots ≤ R.slots) (hsz : Ls.size = ml)
    {sig : MethodDescriptor} (hdesc : parseMethodDescriptor y.desc = some sig) {argsL rest : List Value} (ha : as' = (.ref a :: argsL).toArray) (hlen : argsL.length = sig.parameters.length) (hst : st = argsL.reverse ++ .ref a :: rest) (hW : (rest.map fun v => v.category).sum ≤ W) (hq : pc + 3 = q)
    (k : ∀ T', Stand p l e R s m args below meth c T' locs cells slots → T'.heap = h → Run p e below s kc kn Q T' (mkF m q Ls rest)) : Run p e below s kc kn Q T (mkF m pc Ls st) := by
  refine k_special K X eT hd hy1 w1 w2 w3 w4 hy hM hf hl hc hn hsz hdesc ha hlen hst hW hq ?_
  rintro v T' L X' ⟨rfl, h2, rfl⟩
  rw [List.append_nil] at X'
  exact k T' X' h2
/-- an array of n places; place i holds g i -/
def Ary (Z : State) (h : Heap) (a : Addr) (ty : FieldType) (n : Nat) (g : Nat → Value) : Prop := ∃ c : Cell, Arr Z h a c ty ∧ c.slots.size = n ∧ n < 2147483648 ∧ (∀ i, i < n → c.slots[i]? = some (g i)) ∧ ∀ i, i < n → fits ty (g i) = true
theorem Ary.lt {a : Addr} {ty : FieldType} {n : Nat} {g : Nat → Value} (F : Ary Z h a ty n g) : a < h.size := by obtain ⟨c, A, -⟩ := F; exact A.lt
theorem Ary.ext {h' : Heap} {a : Addr} {ty : FieldType} {n : Nat} {g : Nat → Value} (F : Ary Z h a ty n g) (E : Ext h h') : Ary Z h' a ty n g := by obtain ⟨c, A, r⟩ := F; exact ⟨c, A.ext E, r⟩
theorem Ary.other {h' : Heap} {a b : Addr} {ty : FieldType} {n sl : Nat} {v : Value} {g : Nat → Value} (F : Ary Z h b ty n g) (W : Wr h h' a sl v) (q : b ≠ a) : Ary Z h' b ty n g := by obtain ⟨c, A, r⟩ := F; exact ⟨c, A.other W q, r⟩
theorem Ary.keep {h' : Heap} {a : Addr} {ty : FieldType} {n : Nat} {g : Nat → Value} {ws : List Addr} (F : Ary Z h a ty n g) (K : Keep h h' ws) (q : a ∉ ws) : Ary Z h' a ty n g := by obtain ⟨c, A, r⟩ := F; exact ⟨c, ⟨K.2.1 a c A.1 q, A.2⟩, r⟩
theorem Ary.eqv {a : Addr} {ty : FieldType} {n : Nat} {g g' : Nat → Value} (F : Ary Z h a ty n g) (q : ∀ i, i < n → g i = g' i) : Ary Z h a ty n g' := by
  obtain ⟨c, A, r1, r2, r3, r4⟩ := F; exact ⟨c, A, r1, r2, fun i hi => by rw [← q i hi]; exact r3 i hi, fun i hi => by rw [← q i hi]; exact r4 i hi⟩
theorem Ary.set {h' : Heap} {a : Addr} {ty : FieldType} {n i : Nat} {v : Value} {g : Nat → Value} (F : Ary Z h a ty n g) (W : Wr h h' a i v) (hv : fits ty v = true) : Ary Z h' a ty n (fun k => if k = i then v else g k) := by
  obtain ⟨c, A, r1, r2, r3, r4⟩ := F
  obtain ⟨c', w1, w2, w3, w4⟩ := W
  cases A.1.symm.trans w1
  refine ⟨_, A.same ⟨c, w1, w2, w3, w4⟩, by rw [sz_set]; exact r1, r2, fun k hk => ?_, fun k hk => ?_⟩
  · show (c.setSlot i v).slots[k]? = some (if k = i then v else g k)
    by_cases q : k = i
    · subst q; simp [Cell.setSlot, w3]
    · rw [if_neg q]
      show (c.slots.setIfInBounds i v)[k]? = _
      rw [Array.getElem?_setIfInBounds_ne (Ne.symm q)]; exact r3 k hk
  · show fits ty (if k = i then v else g k) = true
    by_cases q : k = i
    · rw [if_pos q]; exact hv
    · rw [if_neg q]; exact r4 k hk
/-- the int j is the place i -/
abbrev Ix (j : Int32) (i : Nat) : Prop := ¬ j < 0 ∧ j.toNatClampNeg = i
theorem Ix.of {j : Int32} {i : Nat} (h : j.toInt = i) : Ix j i := by
  refine ⟨?_, ?_⟩
  · rw [Int32.lt_iff_toInt_lt, h]; have : (0 : Int32).toInt = 0 := rfl
    omega
  · simp only [Int32.toNatClampNeg, h]; omega
theorem Ix.inb {j : Int32} {i n : Nat} (hi : Ix j i) (hn : i < n) {cl : Cell} (hs : cl.slots.size = n) : ¬ (j < 0 ∨ cl.slots.size ≤ j.toNatClampNeg) := fun z => z.elim hi.1 fun z => by rw [hs, hi.2] at z; omega
theorem k_iaload (K : Fx p s m meth c by' ml own nm ret Z) (X : Stand p l e R s m args below meth c T locs cells slots) (eT : T.heap = h) {a : Addr} {n i : Nat} {g : Nat → Value} {j : Int32} {v : Value} (hd : decode by' pc = .ok (.iaload, 1)) (A : Ary Z h a .int n g) (hi : Ix j i) (hn : i < n) (hg : g i = v) (hq : pc + 1 = q) (k : Run p e below s kc kn Q T (mkF m q Ls (v :: st))) : Run p e below s kc kn Q T (mkF m pc Ls (.int j :: .ref a :: st)) := by
  subst hq hg
  obtain ⟨c', A, r1, r2, r3, -⟩ := A
  exact k.by fun t => X.iaload K.1 (j := j) (v := g i) (by rw [eT]; exact A.1) (State.isArrayOf_alike K.2.2.2.2.1.alike A.2.1) A.2.2 (hi.inb hn r1) (by rw [hi.2]; exact r3 i hn) (g := mkF m pc Ls (.int j :: .ref a :: st)) rfl rfl (hb K.2.1 hd) t
theorem k_iastore (K : Fx p s m meth c by' ml own nm ret Z) (X : Stand p l e R s m args below meth c T locs cells slots) (eT : T.heap = h) {a : Addr} {n i : Nat} {g : Nat → Value} {j : Int32} {x : Int32} (hd : decode by' pc = .ok (.iastore, 1)) (A : Ary Z h a .int n g) (hi : Ix j i) (hn : i < n) (hq : pc + 1 = q)
    (k : ∀ T' h', Stand p l e R s m args below meth c T' (locs ++ [⟨a, i⟩]) cells slots → T'.heap = h' → Wr h h' a i (.int x) → Ary Z h' a .int n (fun k => if k = i then .int x else g k) → Run p e below s kc kn Q T' (mkF m q Ls st)) : Run p e below s kc kn Q T (mkF m pc Ls (.int x :: .int j :: .ref a :: st)) := by
  subst hq
  have A0 := A
  obtain ⟨c', A, r1, r2, r3, -⟩ := A
  obtain ⟨T2, h2, X2, e2, W2, st2⟩ := stI X K.1 K.2.2.2.2.1 eT A (j := j) (hi.inb hn r1) (g := mkF m pc Ls (.int x :: .int j :: .ref a :: st)) rfl rfl (hb K.2.1 hd)
  rw [hi.2] at X2 W2
  exact (k T2 h2 X2 e2 W2 (A0.set W2 (rfl))).by st2
theorem k_newarray (K : Fx p s m meth c by' ml own nm ret Z) (X : Stand p l e R s m args below meth c T locs cells slots) (eT : T.heap = h) {aty : ArrayType} {ty : FieldType} {z : Int32} {n cap : Nat} (hd : decode by' pc = .ok (.newarray aty, 2)) (hty : newarray.typeOf aty = ty) (w : (Cond.arrayClass ty).before a0 Z = true) (hz : Ix z n) (hcap : n ≤ cap) (h8 : cap * 8 ≤ 536870912) (hc : cells + 1 ≤ R.cells) (hn : slots + cap ≤ R.slots) (hq : pc + 2 = q)
    (k : ∀ T' h' a, Stand p l e R s m args below meth c T' locs (cells + 1) (slots + cap) → T'.heap = h' → a = h.size → Ext h h' → Ary Z h' a ty n (fun _ => defaultValue ty) → Run p e below s kc kn Q T' (mkF m q Ls (.ref a :: st))) : Run p e below s kc kn Q T (mkF m pc Ls (.int z :: st)) := by
  subst hq hty
  obtain ⟨T2, h2, cA, X2, e2, E2, A2, st2⟩ := newP X K.1 K.2.2.2.2.1 w eT (g := mkF m pc Ls (.int z :: st)) rfl (hb K.2.1 hd) rfl hz.1 (cap := cap) (by rw [hz.2]; exact hcap) h8 hc hn
  refine (k T2 h2 h.size X2 e2 rfl E2 ⟨_, A2, (sz_new _ _ _).trans hz.2, by omega, fun i hi => ?_, fun i _ => ?_⟩).by st2
  · rw [← hz.2] at hi; simp [newA, hi]
  · cases aty <;> rfl
end OwnKit

theorem wd {Z : State} {az : Array Value} (hw : ∀ d ∈ tables_1, d.before az Z = true) (k : Nat) {d : Jvm.Cond} (h : tables_1[k]? = some d) : d.before az Z = true := hw _ (List.mem_of_getElem? h)
theorem d1_0 : decode method_2_code 0 = .ok (.iload_n 0, 1) := by decide +kernel
theorem d1_1 : decode method_2_code 1 = .ok (.iconst 3, 1) := by decide +kernel
theorem d1_2 : decode method_2_code 2 = .ok (.iand, 1) := by decide +kernel
theorem d1_3 : decode method_2_code 3 = .ok (.istore_n 1, 1) := by decide +kernel
theorem d1_4 : decode method_2_code 4 = .ok (.iload_n 1, 1) := by decide +kernel
theorem d1_5 : decode method_2_code 5 = .ok (.ifCond .ne 7, 3) := by decide +kernel
theorem d1_12 : decode method_2_code 12 = .ok (.iload_n 1, 1) := by decide +kernel
theorem d1_13 : decode method_2_code 13 = .ok (.iconst 1, 1) := by decide +kernel
theorem d1_14 : decode method_2_code 14 = .ok (.if_icmp .ne 7, 3) := by decide +kernel
theorem d1_21 : decode method_2_code 21 = .ok (.iload_n 1, 1) := by decide +kernel
theorem d1_22 : decode method_2_code 22 = .ok (.iconst 2, 1) := by decide +kernel
theorem d1_23 : decode method_2_code 23 = .ok (.if_icmp .ne 6, 3) := by decide +kernel
theorem d1_29 : decode method_2_code 29 = .ok (.iload_n 0, 1) := by decide +kernel
theorem d1_30 : decode method_2_code 30 = .ok (.bipush 16, 2) := by decide +kernel
theorem d1_32 : decode method_2_code 32 = .ok (.iushr, 1) := by decide +kernel
theorem d1_33 : decode method_2_code 33 = .ok (.i2c, 1) := by decide +kernel
theorem d1_34 : decode method_2_code 34 = .ok (.ireturn, 1) := by decide +kernel
theorem d1_26 : decode method_2_code 26 = .ok (.bipush 34, 2) := by decide +kernel
theorem d1_28 : decode method_2_code 28 = .ok (.ireturn, 1) := by decide +kernel
theorem d1_17 : decode method_2_code 17 = .ok (.sipush 8221, 3) := by decide +kernel
theorem d1_20 : decode method_2_code 20 = .ok (.ireturn, 1) := by decide +kernel
theorem d1_8 : decode method_2_code 8 = .ok (.sipush 8220, 3) := by decide +kernel
theorem d1_11 : decode method_2_code 11 = .ok (.ireturn, 1) := by decide +kernel
theorem ef_1 (p0 : Int32) : ∀ m : MethodId, entryFrame m #[(.int p0)] 2 = mkF m 0 #[.val (.int p0), .unset] [] := by intro m; first | (simp [entryFrame, mkF, argsToLocals, Value.category]; done) | rfl
theorem pn_0 : plainName "com/example/wherefore/wherefore/instrument/QuotationReadPinLaw" = true := by first | (simp [plainName, overriddenIn]; done) | decide +kernel
def F_pick (p0 : Int32) : Int32 :=
  let v1 : Int32 := (p0 &&& (3 : Int32))
  if v1 = (0 : Int32) then
    (8220 : Int32)
  else
    if v1 = (1 : Int32) then
      (8221 : Int32)
    else
      if v1 = (2 : Int32) then
        (34 : Int32)
      else
        (nar .char (i2c (ushrI p0 (16 : Int32))))
set_option maxRecDepth 65536 in
set_option maxHeartbeats 40000000 in
theorem rm1 (l : Launch) (Z : State) (az : Array Value) (hw : ∀ d ∈ tables_1, d.before az Z = true) (ws : List Jvm.Cond) (p0 : Int32) (h0 : Heap) :
    Met l (⟨"com/example/wherefore/wherefore/instrument/QuotationReadPinLaw", "pick", "(I)C"⟩ : MethodName) method_2_code 2 (some .char) ws ({ frames := 0, cells := 0, slots := 0, locals := 0 } : Room) Z #[(.int p0)] h0 (fun v h' L => v = some (Value.int (F_pick p0)) ∧ h' = h0 ∧ L = []) := by
  refine enter (plainFor_of_name pn_0) (ef_1 p0) ?_
  intro p e s m below meth c T0 kc kn Q hkc hkn hQ K' X0 e0
  have K : Fx p s m meth c method_2_code 2 "com/example/wherefore/wherefore/instrument/QuotationReadPinLaw" "pick" (some .char) Z := K'
  refine k_iloadN K X0 d1_0 rfl (q := 1) rfl ?_
  refine k_iconst K X0 d1_1 (v := (3 : Int32)) rfl (q := 2) rfl ?_
  refine k_iand K X0 d1_2 (q := 3) rfl ?_
  obtain ⟨v1, hv_v1⟩ : ∃ z : Int32, (p0 &&& (3 : Int32)) = z := ⟨_, rfl⟩
  refine k_istoreN K X0 d1_3 hv_v1 (Ls' := #[.val (.int p0), .val (.int v1)]) rfl (q := 4) rfl ?_
  refine k_iloadN K X0 d1_4 rfl (q := 5) rfl ?_
  refine k_if_ne K X0 d1_5 (by decide) (q := 12) rfl (q' := 8) rfl ?_ ?_
  · intro hc2
    refine k_iloadN K X0 d1_12 rfl (q := 13) rfl ?_
    refine k_iconst K X0 d1_13 (v := (1 : Int32)) rfl (q := 14) rfl ?_
    refine k_icmp_ne K X0 d1_14 (by decide) (q := 21) rfl (q' := 17) rfl ?_ ?_
    · intro hc3
      refine k_iloadN K X0 d1_21 rfl (q := 22) rfl ?_
      refine k_iconst K X0 d1_22 (v := (2 : Int32)) rfl (q := 23) rfl ?_
      refine k_icmp_ne K X0 d1_23 (by decide) (q := 29) rfl (q' := 26) rfl ?_ ?_
      · intro hc4
        refine k_iloadN K X0 d1_29 rfl (q := 30) rfl ?_
        refine k_bipush K X0 d1_30 (v := (16 : Int32)) rfl (q := 32) rfl ?_
        refine k_iushr K X0 d1_32 (q := 33) rfl ?_
        refine k_i2c K X0 d1_33 (q := 34) rfl ?_
        exact k_retc K X0 e0 d1_34 (Nat.le_trans (by decide) hkc) (Nat.le_trans (by decide) hkn) (hQ _ _ _ ⟨(by show some (Value.int (nar .char (i2c (ushrI p0 (16 : Int32))))) = some (Value.int (F_pick p0)); simp only [F_pick, hv_v1, if_neg hc2, if_neg hc3, if_neg hc4]), rfl, rfl⟩)
      · intro hc4
        refine k_bipush K X0 d1_26 (v := (34 : Int32)) rfl (q := 28) rfl ?_
        exact k_retc K X0 e0 d1_28 (Nat.le_trans (by decide) hkc) (Nat.le_trans (by decide) hkn) (hQ _ _ _ ⟨(by show some (Value.int (34 : Int32)) = some (Value.int (F_pick p0)); simp only [F_pick, hv_v1, if_neg hc2, if_neg hc3, if_pos hc4]), rfl, rfl⟩)
    · intro hc3
      refine k_sipush K X0 d1_17 (v := (8221 : Int32)) rfl (q := 20) rfl ?_
      exact k_retc K X0 e0 d1_20 (Nat.le_trans (by decide) hkc) (Nat.le_trans (by decide) hkn) (hQ _ _ _ ⟨(by show some (Value.int (8221 : Int32)) = some (Value.int (F_pick p0)); simp only [F_pick, hv_v1, if_neg hc2, if_pos hc3]), rfl, rfl⟩)
  · intro hc2
    refine k_sipush K X0 d1_8 (v := (8220 : Int32)) rfl (q := 11) rfl ?_
    exact k_retc K X0 e0 d1_11 (Nat.le_trans (by decide) hkc) (Nat.le_trans (by decide) hkn) (hQ _ _ _ ⟨(by show some (Value.int (8220 : Int32)) = some (Value.int (F_pick p0)); simp only [F_pick, hv_v1, if_pos hc2]), rfl, rfl⟩)
theorem d7_0 : decode jdk_29_method_65_code 0 = .ok (.iload_n 0, 1) := by decide +kernel
theorem d7_1 : decode jdk_29_method_65_code 1 = .ok (.iload_n 1, 1) := by decide +kernel
theorem d7_2 : decode jdk_29_method_65_code 2 = .ok (.if_icmp .lt 7, 3) := by decide +kernel
theorem d7_10 : decode jdk_29_method_65_code 10 = .ok (.ireturn, 1) := by decide +kernel
theorem d7_9 : decode jdk_29_method_65_code 9 = .ok (.iload_n 1, 1) := by decide +kernel
theorem d7_5 : decode jdk_29_method_65_code 5 = .ok (.iload_n 0, 1) := by decide +kernel
theorem d7_6 : decode jdk_29_method_65_code 6 = .ok (.goto 4, 3) := by decide +kernel
theorem ef_7 (p0 : Int32) (p1 : Int32) : ∀ m : MethodId, entryFrame m #[(.int p0), (.int p1)] 2 = mkF m 0 #[.val (.int p0), .val (.int p1)] [] := by intro m; first | (simp [entryFrame, mkF, argsToLocals, Value.category]; done) | rfl
def F_max (p0 : Int32) (p1 : Int32) : Int32 :=
  let d6 : Int32 := (if p0 < p1 then p1 else p0)
  d6
set_option maxRecDepth 65536 in
set_option maxHeartbeats 40000000 in
theorem rm7 (l : Launch) (Z : State) (az : Array Value) (hw : ∀ d ∈ tables_1, d.before az Z = true) (ws : List Jvm.Cond) (p0 : Int32) (p1 : Int32) (h0 : Heap) :
    Met l (⟨"java/lang/Math", "max", "(II)I"⟩ : MethodName) jdk_29_method_65_code 2 (some .int) ws ({ frames := 0, cells := 0, slots := 0, locals := 0 } : Room) Z #[(.int p0), (.int p1)] h0 (fun v h' L => v = some (Value.int (F_max p0 p1)) ∧ h' = h0 ∧ L = []) := by
  refine enter (Jvm.Free.JP.mathPlain rfl (by decide +kernel)) (ef_7 p0 p1) ?_
  intro p e s m below meth c T0 kc kn Q hkc hkn hQ K' X0 e0
  have K : Fx p s m meth c jdk_29_method_65_code 2 "java/lang/Math" "max" (some .int) Z := K'
  refine k_iloadN K X0 d7_0 rfl (q := 1) rfl ?_
  refine k_iloadN K X0 d7_1 rfl (q := 2) rfl ?_
  have J7 : ∀ (d6 : Int32), (if p0 < p1 then p1 else p0) = d6 → Run p e below s kc kn Q T0 (mkF m 10 #[.val (.int p0), .val (.int p1)] [(.int d6)]) := by
    intro d6 hv_d6
    exact k_reti K X0 e0 d7_10 (Nat.le_trans (by decide) hkc) (Nat.le_trans (by decide) hkn) (hQ _ _ _ ⟨(by show some (Value.int d6) = some (Value.int (F_max p0 p1)); simp only [F_max, hv_d6]), rfl, rfl⟩)
  refine k_icmp_lt K X0 d7_2 (by decide) (q := 9) rfl (q' := 5) rfl ?_ ?_
  · intro hc8
    refine k_iloadN K X0 d7_9 rfl (q := 10) rfl ?_
    exact J7 _ (by first | rfl | (simp only [if_pos hc8]))
  · intro hc8
    refine k_iloadN K X0 d7_5 rfl (q := 6) rfl ?_
    refine k_goto K X0 d7_6 (by decide) (q := 10) rfl ?_
    exact J7 _ (by first | rfl | (simp only [if_neg hc8]))
theorem d2_0 : decode prog_71_method_1_code 0 = .ok (.aload_n 0, 1) := by decide +kernel
theorem d2_1 : decode prog_71_method_1_code 1 = .ok (.invokespecial 1, 3) := by decide +kernel
theorem d2_4 : decode prog_71_method_1_code 4 = .ok (.return_, 1) := by decide +kernel
theorem ef_2 (a0 : Addr) : ∀ m : MethodId, entryFrame m #[(.ref a0)] 1 = mkF m 0 #[.val (.ref a0)] [] := by intro m; first | (simp [entryFrame, mkF, argsToLocals, Value.category]; done) | rfl
theorem pn_1 : plainName "com/example/wherefore/wherefore/instrument/Quotation" = true := by first | (simp [plainName, overriddenIn]; done) | decide +kernel
set_option maxRecDepth 65536 in
set_option maxHeartbeats 40000000 in
theorem rm2 (l : Launch) (Z : State) (az : Array Value) (hw : ∀ d ∈ tables_1, d.before az Z = true) (ws : List Jvm.Cond) (a0 : Addr) (h0 : Heap) :
    Met l (⟨"com/example/wherefore/wherefore/instrument/Quotation", "<init>", "()V"⟩ : MethodName) prog_71_method_1_code 1 none ws ({ frames := 1, cells := 0, slots := 0, locals := 12 } : Room) Z #[(.ref a0)] h0 (fun v h' L => v = none ∧ h' = h0 ∧ L = []) := by
  refine enter (plainFor_of_name pn_1) (ef_2 a0) ?_
  intro p e s m below meth c T0 kc kn Q hkc hkn hQ K' X0 e0
  have K : Fx p s m meth c prog_71_method_1_code 1 "com/example/wherefore/wherefore/instrument/Quotation" "<init>" none Z := K'
  refine k_aloadN K X0 d2_0 rfl rfl (q := 1) rfl ?_
  refine k_initO K X0 e0 d2_1 (wd hw 11 rfl) (wd hw 12 rfl) (wd hw 13 rfl) rfl (by decide) (W := 0) (Nat.le_of_eq rfl) (by decide) (q := 4) rfl ?_
  intro T9 X10 e11
  exact k_retv K X10 e11 d2_4 (Nat.le_trans (by decide) hkc) (Nat.le_trans (by decide) hkn) (hQ _ _ _ ⟨rfl, rfl, rfl⟩)
theorem d5_0 : decode prog_71_method_3_code 0 = .ok (.iload_n 1, 1) := by decide +kernel
theorem d5_1 : decode prog_71_method_3_code 1 = .ok (.sipush 8220, 3) := by decide +kernel
theorem d5_4 : decode prog_71_method_3_code 4 = .ok (.if_icmp .ne 16, 3) := by decide +kernel
theorem d5_20 : decode prog_71_method_3_code 20 = .ok (.iload_n 1, 1) := by decide +kernel
theorem d5_21 : decode prog_71_method_3_code 21 = .ok (.sipush 8221, 3) := by decide +kernel
theorem d5_24 : decode prog_71_method_3_code 24 = .ok (.if_icmp .ne 23, 3) := by decide +kernel
theorem d5_47 : decode prog_71_method_3_code 47 = .ok (.iload_n 1, 1) := by decide +kernel
theorem d5_48 : decode prog_71_method_3_code 48 = .ok (.bipush 34, 2) := by decide +kernel
theorem d5_50 : decode prog_71_method_3_code 50 = .ok (.if_icmp .ne 19, 3) := by decide +kernel
theorem d5_69 : decode prog_71_method_3_code 69 = .ok (.return_, 1) := by decide +kernel
theorem d5_53 : decode prog_71_method_3_code 53 = .ok (.aload_n 0, 1) := by decide +kernel
theorem d5_54 : decode prog_71_method_3_code 54 = .ok (.aload_n 0, 1) := by decide +kernel
theorem d5_55 : decode prog_71_method_3_code 55 = .ok (.getfield 13, 3) := by decide +kernel
theorem d5_58 : decode prog_71_method_3_code 58 = .ok (.ifCond .ne 7, 3) := by decide +kernel
theorem d5_66 : decode prog_71_method_3_code 66 = .ok (.putfield 13, 3) := by decide +kernel
theorem d5_65 : decode prog_71_method_3_code 65 = .ok (.iconst 0, 1) := by decide +kernel
theorem d5_61 : decode prog_71_method_3_code 61 = .ok (.iconst 1, 1) := by decide +kernel
theorem d5_62 : decode prog_71_method_3_code 62 = .ok (.goto 4, 3) := by decide +kernel
theorem d5_27 : decode prog_71_method_3_code 27 = .ok (.aload_n 0, 1) := by decide +kernel
theorem d5_28 : decode prog_71_method_3_code 28 = .ok (.getfield 7, 3) := by decide +kernel
theorem d5_31 : decode prog_71_method_3_code 31 = .ok (.ifCond .le 16, 3) := by decide +kernel
theorem d5_34 : decode prog_71_method_3_code 34 = .ok (.aload_n 0, 1) := by decide +kernel
theorem d5_35 : decode prog_71_method_3_code 35 = .ok (.dup, 1) := by decide +kernel
theorem d5_36 : decode prog_71_method_3_code 36 = .ok (.getfield 7, 3) := by decide +kernel
theorem d5_39 : decode prog_71_method_3_code 39 = .ok (.iconst 1, 1) := by decide +kernel
theorem d5_40 : decode prog_71_method_3_code 40 = .ok (.isub, 1) := by decide +kernel
theorem d5_41 : decode prog_71_method_3_code 41 = .ok (.putfield 7, 3) := by decide +kernel
theorem d5_44 : decode prog_71_method_3_code 44 = .ok (.goto 25, 3) := by decide +kernel
theorem d5_7 : decode prog_71_method_3_code 7 = .ok (.aload_n 0, 1) := by decide +kernel
theorem d5_8 : decode prog_71_method_3_code 8 = .ok (.dup, 1) := by decide +kernel
theorem d5_9 : decode prog_71_method_3_code 9 = .ok (.getfield 7, 3) := by decide +kernel
theorem d5_12 : decode prog_71_method_3_code 12 = .ok (.iconst 1, 1) := by decide +kernel
theorem d5_13 : decode prog_71_method_3_code 13 = .ok (.iadd, 1) := by decide +kernel
theorem d5_14 : decode prog_71_method_3_code 14 = .ok (.putfield 7, 3) := by decide +kernel
theorem d5_17 : decode prog_71_method_3_code 17 = .ok (.goto 52, 3) := by decide +kernel
theorem ef_5 (a0 : Addr) (p1 : Int32) : ∀ m : MethodId, entryFrame m #[(.ref a0), (.int p1)] 2 = mkF m 0 #[.val (.ref a0), .val (.int p1)] [] := by intro m; first | (simp [entryFrame, mkF, argsToLocals, Value.category]; done) | rfl
def F_read_a0_depth (p1 : Int32) (w_a0_straight : Int32) (w_a0_depth : Int32) : Int32 :=
  if p1 = (8220 : Int32) then
    (w_a0_depth + (1 : Int32))
  else
    if p1 = (8221 : Int32) then
      if (0 : Int32) < w_a0_depth then
        (w_a0_depth - (1 : Int32))
      else
        if p1 = (34 : Int32) then
          let d266 : Int32 := (if w_a0_straight = (0 : Int32) then (1 : Int32) else (0 : Int32))
          w_a0_depth
        else
          w_a0_depth
    else
      if p1 = (34 : Int32) then
        let d194 : Int32 := (if w_a0_straight = (0 : Int32) then (1 : Int32) else (0 : Int32))
        w_a0_depth
      else
        w_a0_depth
def F_read_a0_straight (p1 : Int32) (w_a0_straight : Int32) (w_a0_depth : Int32) : Int32 :=
  if p1 = (8220 : Int32) then
    w_a0_straight
  else
    if p1 = (8221 : Int32) then
      if (0 : Int32) < w_a0_depth then
        w_a0_straight
      else
        if p1 = (34 : Int32) then
          let d266 : Int32 := (if w_a0_straight = (0 : Int32) then (1 : Int32) else (0 : Int32))
          (nar .boolean d266)
        else
          w_a0_straight
    else
      if p1 = (34 : Int32) then
        let d194 : Int32 := (if w_a0_straight = (0 : Int32) then (1 : Int32) else (0 : Int32))
        (nar .boolean d194)
      else
        w_a0_straight
set_option maxRecDepth 65536 in
set_option maxHeartbeats 40000000 in
theorem rm5 (l : Launch) (Z : State) (az : Array Value) (hw : ∀ d ∈ tables_1, d.before az Z = true) (ws : List Jvm.Cond) (a0 : Addr) (p1 : Int32) (w_a0_straight : Int32) (w_a0_depth : Int32) (h0 : Heap) (n0 : Nat) (Z0 : n0 ≤ h0.size) (F_a0_straight : Fld Z h0 a0 "com/example/wherefore/wherefore/instrument/Quotation" "straight" "Z" (.int w_a0_straight)) (E_a0 : Exa Z h0 a0 "com/example/wherefore/wherefore/instrument/Quotation") (g_a0 : n0 ≤ a0) (F_a0_depth : Fld Z h0 a0 "com/example/wherefore/wherefore/instrument/Quotation" "depth" "I" (.int w_a0_depth)) :
    Met l (⟨"com/example/wherefore/wherefore/instrument/Quotation", "read", "(C)V"⟩ : MethodName) prog_71_method_3_code 2 none ws ({ frames := 0, cells := 0, slots := 0, locals := 0 } : Room) Z #[(.ref a0), (.int p1)] h0 (fun v h' L => v = none ∧ Fr n0 L ∧ Keep h0 h' [a0] ∧ Fld Z h' a0 "com/example/wherefore/wherefore/instrument/Quotation" "depth" "I" (.int (F_read_a0_depth p1 w_a0_straight w_a0_depth)) ∧ Fld Z h' a0 "com/example/wherefore/wherefore/instrument/Quotation" "straight" "Z" (.int (F_read_a0_straight p1 w_a0_straight w_a0_depth))) := by
  refine enter (plainFor_of_name pn_1) (ef_5 a0 p1) ?_
  intro p e s m below meth c T0 kc kn Q hkc hkn hQ K' X0 e0
  have K : Fx p s m meth c prog_71_method_3_code 2 "com/example/wherefore/wherefore/instrument/Quotation" "read" none Z := K'
  have N0 := Fr.nil n0
  have K0 : Keep h0 h0 [a0] := Keep.refl _ _
  refine k_iloadN K X0 d5_0 rfl (q := 1) rfl ?_
  refine k_sipush K X0 d5_1 (v := (8220 : Int32)) rfl (q := 4) rfl ?_
  refine k_icmp_ne K X0 d5_4 (by decide) (q := 20) rfl (q' := 7) rfl ?_ ?_
  · intro hc117
    refine k_iloadN K X0 d5_20 rfl (q := 21) rfl ?_
    refine k_sipush K X0 d5_21 (v := (8221 : Int32)) rfl (q := 24) rfl ?_
    refine k_icmp_ne K X0 d5_24 (by decide) (q := 47) rfl (q' := 27) rfl ?_ ?_
    · intro hc171
      refine k_iloadN K X0 d5_47 rfl (q := 48) rfl ?_
      refine k_bipush K X0 d5_48 (v := (34 : Int32)) rfl (q := 50) rfl ?_
      refine k_icmp_ne K X0 d5_50 (by decide) (q := 69) rfl (q' := 53) rfl ?_ ?_
      · intro hc189
        exact k_retv K X0 e0 d5_69 (Nat.le_trans (by decide) hkc) (Nat.le_trans (by decide) hkn) (hQ _ _ _ ⟨rfl, N0, K0, (by rw [(show F_read_a0_depth p1 w_a0_straight w_a0_depth = w_a0_depth from by simp only [F_read_a0_depth, if_neg hc117, if_neg hc171, if_neg hc189])]; exact F_a0_depth), (by rw [(show F_read_a0_straight p1 w_a0_straight w_a0_depth = w_a0_straight from by simp only [F_read_a0_straight, if_neg hc117, if_neg hc171, if_neg hc189])]; exact F_a0_straight)⟩)
      · intro hc189
        refine k_aloadN K X0 d5_53 rfl rfl (q := 54) rfl ?_
        refine k_aloadN K X0 d5_54 rfl rfl (q := 55) rfl ?_
        refine k_getfield K X0 e0 d5_55 (wd hw 29 rfl) F_a0_straight (q := 58) rfl ?_
        intro T190 X191 e192
        have J195 : ∀ (d194 : Int32), (if w_a0_straight = (0 : Int32) then (1 : Int32) else (0 : Int32)) = d194 → Run p e below s kc kn Q T190 (mkF m 66 #[.val (.ref a0), .val (.int p1)] [(.int d194), (.ref a0)]) := by
          intro d194 hv_d194
          refine k_putfieldN K X191 e192 d5_66 (wd hw 29 rfl) F_a0_straight E_a0 (Or.inl (wd hw 30 rfl)) (wd hw 6 rfl) (ty := .boolean) (v' := (.int (nar .boolean d194))) (by decide) rfl (fits_nar_bool _) (q := 69) rfl ?_
          intro T196 h197 X198 e199 W200
          have f201 := Fld.same W200 F_a0_straight
          have f202 := Exa.wr W200 E_a0
          have f203 := Fld.other W200 F_a0_depth (Or.inr (slot_ne (Or.inl (wd hw 23 rfl)) (Or.inl (wd hw 30 rfl)) (by decide) (t := .int) (t' := .boolean) (by decide) (by decide)))
          have N204 := Fr.snoc X198 N0 g_a0
          have K205 := Keep.wr K0 W200 (Or.inl (List.mem_of_getElem? (i := 0) rfl))
          have Z206 := Nat.le_trans Z0 (Nat.le_of_eq (Wr.size W200).symm)
          exact k_retv K X198 e199 d5_69 (Nat.le_trans (by decide) hkc) (Nat.le_trans (by decide) hkn) (hQ _ _ _ ⟨rfl, N204, K205, (by rw [(show F_read_a0_depth p1 w_a0_straight w_a0_depth = w_a0_depth from by simp only [F_read_a0_depth, hv_d194, if_neg hc117, if_neg hc171, if_pos hc189])]; exact f203), (by rw [(show F_read_a0_straight p1 w_a0_straight w_a0_depth = (nar .boolean d194) from by simp only [F_read_a0_straight, hv_d194, if_neg hc117, if_neg hc171, if_pos hc189])]; exact f201)⟩)
        refine k_if_ne K X191 d5_58 (by decide) (q := 65) rfl (q' := 61) rfl ?_ ?_
        · intro hc207
          refine k_iconst K X191 d5_65 (v := (0 : Int32)) rfl (q := 66) rfl ?_
          exact J195 _ (by first | rfl | (simp only [if_neg hc207]))
        · intro hc207
          refine k_iconst K X191 d5_61 (v := (1 : Int32)) rfl (q := 62) rfl ?_
          refine k_goto K X191 d5_62 (by decide) (q := 66) rfl ?_
          exact J195 _ (by first | rfl | (simp only [if_pos hc207]))
    · intro hc171
      refine k_aloadN K X0 d5_27 rfl rfl (q := 28) rfl ?_
      refine k_getfield K X0 e0 d5_28 (wd hw 22 rfl) F_a0_depth (q := 31) rfl ?_
      intro T208 X209 e210
      refine k_if_le K X209 d5_31 (by decide) (q := 47) rfl (q' := 34) rfl ?_ ?_
      · intro hc243
        refine k_iloadN K X209 d5_47 rfl (q := 48) rfl ?_
        refine k_bipush K X209 d5_48 (v := (34 : Int32)) rfl (q := 50) rfl ?_
        refine k_icmp_ne K X209 d5_50 (by decide) (q := 69) rfl (q' := 53) rfl ?_ ?_
        · intro hc261
          exact k_retv K X209 e210 d5_69 (Nat.le_trans (by decide) hkc) (Nat.le_trans (by decide) hkn) (hQ _ _ _ ⟨rfl, N0, K0, (by rw [(show F_read_a0_depth p1 w_a0_straight w_a0_depth = w_a0_depth from by simp only [F_read_a0_depth, if_neg hc117, if_pos hc171, if_neg hc243, if_neg hc261])]; exact F_a0_depth), (by rw [(show F_read_a0_straight p1 w_a0_straight w_a0_depth = w_a0_straight from by simp only [F_read_a0_straight, if_neg hc117, if_pos hc171, if_neg hc243, if_neg hc261])]; exact F_a0_straight)⟩)
        · intro hc261
          refine k_aloadN K X209 d5_53 rfl rfl (q := 54) rfl ?_
          refine k_aloadN K X209 d5_54 rfl rfl (q := 55) rfl ?_
          refine k_getfield K X209 e210 d5_55 (wd hw 29 rfl) F_a0_straight (q := 58) rfl ?_
          intro T262 X263 e264
          have J267 : ∀ (d266 : Int32), (if w_a0_straight = (0 : Int32) then (1 : Int32) else (0 : Int32)) = d266 → Run p e below s kc kn Q T262 (mkF m 66 #[.val (.ref a0), .val (.int p1)] [(.int d266), (.ref a0)]) := by
            intro d266 hv_d266
            refine k_putfieldN K X263 e264 d5_66 (wd hw 29 rfl) F_a0_straight E_a0 (Or.inl (wd hw 30 rfl)) (wd hw 6 rfl) (ty := .boolean) (v' := (.int (nar .boolean d266))) (by decide) rfl (fits_nar_bool _) (q := 69) rfl ?_
            intro T268 h269 X270 e271 W272
            have f273 := Fld.same W272 F_a0_straight
            have f274 := Exa.wr W272 E_a0
            have f275 := Fld.other W272 F_a0_depth (Or.inr (slot_ne (Or.inl (wd hw 23 rfl)) (Or.inl (wd hw 30 rfl)) (by decide) (t := .int) (t' := .boolean) (by decide) (by decide)))
            have N276 := Fr.snoc X270 N0 g_a0
            have K277 := Keep.wr K0 W272 (Or.inl (List.mem_of_getElem? (i := 0) rfl))
            have Z278 := Nat.le_trans Z0 (Nat.le_of_eq (Wr.size W272).symm)
            exact k_retv K X270 e271 d5_69 (Nat.le_trans (by decide) hkc) (Nat.le_trans (by decide) hkn) (hQ _ _ _ ⟨rfl, N276, K277, (by rw [(show F_read_a0_depth p1 w_a0_straight w_a0_depth = w_a0_depth from by simp only [F_read_a0_depth, hv_d266, if_neg hc117, if_pos hc171, if_neg hc243, if_pos hc261])]; exact f275), (by rw [(show F_read_a0_straight p1 w_a0_straight w_a0_depth = (nar .boolean d266) from by simp only [F_read_a0_straight, hv_d266, if_neg hc117, if_pos hc171, if_neg hc243, if_pos hc261])]; exact f273)⟩)
          refine k_if_ne K X263 d5_58 (by decide) (q := 65) rfl (q' := 61) rfl ?_ ?_
          · intro hc279
            refine k_iconst K X263 d5_65 (v := (0 : Int32)) rfl (q := 66) rfl ?_
            exact J267 _ (by first | rfl | (simp only [if_neg hc279]))
          · intro hc279
            refine k_iconst K X263 d5_61 (v := (1 : Int32)) rfl (q := 62) rfl ?_
            refine k_goto K X263 d5_62 (by decide) (q := 66) rfl ?_
            exact J267 _ (by first | rfl | (simp only [if_pos hc279]))
      · intro hc243
        refine k_aloadN K X209 d5_34 rfl rfl (q := 35) rfl ?_
        refine k_dup K X209 d5_35 rfl (q := 36) rfl ?_
        refine k_getfield K X209 e210 d5_36 (wd hw 22 rfl) F_a0_depth (q := 39) rfl ?_
        intro T280 X281 e282
        refine k_iconst K X281 d5_39 (v := (1 : Int32)) rfl (q := 40) rfl ?_
        refine k_isub K X281 d5_40 (q := 41) rfl ?_
        refine k_putfield K X281 e282 d5_41 (wd hw 22 rfl) F_a0_depth E_a0 (Or.inl (wd hw 23 rfl)) (wd hw 6 rfl) (ty := .int) (by decide) rfl rfl (q := 44) rfl ?_
        intro T283 h284 X285 e286 W287
        have f288 := Fld.same W287 F_a0_depth
        have f289 := Fld.other W287 F_a0_straight (Or.inr (slot_ne (Or.inl (wd hw 30 rfl)) (Or.inl (wd hw 23 rfl)) (by decide) (t := .boolean) (t' := .int) (by decide) (by decide)))
        have f290 := Exa.wr W287 E_a0
        have N291 := Fr.snoc X285 N0 g_a0
        have K292 := Keep.wr K0 W287 (Or.inl (List.mem_of_getElem? (i := 0) rfl))
        have Z293 := Nat.le_trans Z0 (Nat.le_of_eq (Wr.size W287).symm)
        refine k_goto K X285 d5_44 (by decide) (q := 69) rfl ?_
        exact k_retv K X285 e286 d5_69 (Nat.le_trans (by decide) hkc) (Nat.le_trans (by decide) hkn) (hQ _ _ _ ⟨rfl, N291, K292, (by rw [(show F_read_a0_depth p1 w_a0_straight w_a0_depth = (w_a0_depth - (1 : Int32)) from by simp only [F_read_a0_depth, if_neg hc117, if_pos hc171, if_pos hc243])]; exact f288), (by rw [(show F_read_a0_straight p1 w_a0_straight w_a0_depth = w_a0_straight from by simp only [F_read_a0_straight, if_neg hc117, if_pos hc171, if_pos hc243])]; exact f289)⟩)
  · intro hc117
    refine k_aloadN K X0 d5_7 rfl rfl (q := 8) rfl ?_
    refine k_dup K X0 d5_8 rfl (q := 9) rfl ?_
    refine k_getfield K X0 e0 d5_9 (wd hw 22 rfl) F_a0_depth (q := 12) rfl ?_
    intro T294 X295 e296
    refine k_iconst K X295 d5_12 (v := (1 : Int32)) rfl (q := 13) rfl ?_
    refine k_iadd K X295 d5_13 (q := 14) rfl ?_
    refine k_putfield K X295 e296 d5_14 (wd hw 22 rfl) F_a0_depth E_a0 (Or.inl (wd hw 23 rfl)) (wd hw 6 rfl) (ty := .int) (by decide) rfl rfl (q := 17) rfl ?_
    intro T297 h298 X299 e300 W301
    have f302 := Fld.same W301 F_a0_depth
    have f303 := Fld.other W301 F_a0_straight (Or.inr (slot_ne (Or.inl (wd hw 30 rfl)) (Or.inl (wd hw 23 rfl)) (by decide) (t := .boolean) (t' := .int) (by decide) (by decide)))
    have f304 := Exa.wr W301 E_a0
    have N305 := Fr.snoc X299 N0 g_a0
    have K306 := Keep.wr K0 W301 (Or.inl (List.mem_of_getElem? (i := 0) rfl))
    have Z307 := Nat.le_trans Z0 (Nat.le_of_eq (Wr.size W301).symm)
    refine k_goto K X299 d5_17 (by decide) (q := 69) rfl ?_
    exact k_retv K X299 e300 d5_69 (Nat.le_trans (by decide) hkc) (Nat.le_trans (by decide) hkn) (hQ _ _ _ ⟨rfl, N305, K306, (by rw [(show F_read_a0_depth p1 w_a0_straight w_a0_depth = (w_a0_depth + (1 : Int32)) from by simp only [F_read_a0_depth, if_pos hc117])]; exact f302), (by rw [(show F_read_a0_straight p1 w_a0_straight w_a0_depth = w_a0_straight from by simp only [F_read_a0_straight, if_pos hc117])]; exact f303)⟩)
theorem d6_0 : decode prog_71_method_2_code 0 = .ok (.aload_n 0, 1) := by decide +kernel
theorem d6_1 : decode prog_71_method_2_code 1 = .ok (.getfield 7, 3) := by decide +kernel
theorem d6_4 : decode prog_71_method_2_code 4 = .ok (.ifCond .gt 10, 3) := by decide +kernel
theorem d6_19 : decode prog_71_method_2_code 19 = .ok (.ireturn, 1) := by decide +kernel
theorem d6_14 : decode prog_71_method_2_code 14 = .ok (.iconst 1, 1) := by decide +kernel
theorem d6_15 : decode prog_71_method_2_code 15 = .ok (.goto 4, 3) := by decide +kernel
theorem d6_7 : decode prog_71_method_2_code 7 = .ok (.aload_n 0, 1) := by decide +kernel
theorem d6_8 : decode prog_71_method_2_code 8 = .ok (.getfield 13, 3) := by decide +kernel
theorem d6_11 : decode prog_71_method_2_code 11 = .ok (.ifCond .eq 7, 3) := by decide +kernel
theorem d6_18 : decode prog_71_method_2_code 18 = .ok (.iconst 0, 1) := by decide +kernel
theorem ef_6 (a0 : Addr) : ∀ m : MethodId, entryFrame m #[(.ref a0)] 1 = mkF m 0 #[.val (.ref a0)] [] := by intro m; first | (simp [entryFrame, mkF, argsToLocals, Value.category]; done) | rfl
def F_inside (w_a0_depth : Int32) (w_a0_straight : Int32) : Int32 :=
  let d320 : Int32 := (if (0 : Int32) < w_a0_depth then (1 : Int32) else (if w_a0_straight = (0 : Int32) then (0 : Int32) else (1 : Int32)))
  (nar .boolean d320)
set_option maxRecDepth 65536 in
set_option maxHeartbeats 40000000 in
theorem rm6 (l : Launch) (Z : State) (az : Array Value) (hw : ∀ d ∈ tables_1, d.before az Z = true) (ws : List Jvm.Cond) (a0 : Addr) (w_a0_depth : Int32) (w_a0_straight : Int32) (h0 : Heap) (F_a0_depth : Fld Z h0 a0 "com/example/wherefore/wherefore/instrument/Quotation" "depth" "I" (.int w_a0_depth)) (F_a0_straight : Fld Z h0 a0 "com/example/wherefore/wherefore/instrument/Quotation" "straight" "Z" (.int w_a0_straight)) :
    Met l (⟨"com/example/wherefore/wherefore/instrument/Quotation", "inside", "()Z"⟩ : MethodName) prog_71_method_2_code 1 (some .boolean) ws ({ frames := 0, cells := 0, slots := 0, locals := 0 } : Room) Z #[(.ref a0)] h0 (fun v h' L => v = some (Value.int (F_inside w_a0_depth w_a0_straight)) ∧ h' = h0 ∧ L = []) := by
  refine enter (plainFor_of_name pn_1) (ef_6 a0) ?_
  intro p e s m below meth c T0 kc kn Q hkc hkn hQ K' X0 e0
  have K : Fx p s m meth c prog_71_method_2_code 1 "com/example/wherefore/wherefore/instrument/Quotation" "inside" (some .boolean) Z := K'
  refine k_aloadN K X0 d6_0 rfl rfl (q := 1) rfl ?_
  refine k_getfield K X0 e0 d6_1 (wd hw 22 rfl) F_a0_depth (q := 4) rfl ?_
  intro T312 X313 e314
  have J321 : ∀ (T322 : State), Stand p l e ({ frames := 0, cells := 0, slots := 0, locals := 0 } : Room) s m #[(.ref a0)] below meth c T322 [] 0 0 → T322.heap = h0 → ∀ (d320 : Int32), (if (0 : Int32) < w_a0_depth then (1 : Int32) else (if w_a0_straight = (0 : Int32) then (0 : Int32) else (1 : Int32))) = d320 → Run p e below s kc kn Q T322 (mkF m 19 #[.val (.ref a0)] [(.int d320)]) := by
    intro T322 X323 e324 d320 hv_d320
    exact k_retz K X323 e324 d6_19 (Nat.le_trans (by decide) hkc) (Nat.le_trans (by decide) hkn) (hQ _ _ _ ⟨(by show some (Value.int (nar .boolean d320)) = some (Value.int (F_inside w_a0_depth w_a0_straight)); simp only [F_inside, hv_d320]), rfl, rfl⟩)
  refine k_if_gt K X313 d6_4 (by decide) (q := 14) rfl (q' := 7) rfl ?_ ?_
  · intro hc325
    refine k_iconst K X313 d6_14 (v := (1 : Int32)) rfl (q := 15) rfl ?_
    refine k_goto K X313 d6_15 (by decide) (q := 19) rfl ?_
    exact J321 T312 X313 e314 _ (by first | rfl | (simp only [if_pos hc325]))
  · intro hc325
    refine k_aloadN K X313 d6_7 rfl rfl (q := 8) rfl ?_
    refine k_getfield K X313 e314 d6_8 (wd hw 29 rfl) F_a0_straight (q := 11) rfl ?_
    intro T326 X327 e328
    refine k_if_eq K X327 d6_11 (by decide) (q := 18) rfl (q' := 14) rfl ?_ ?_
    · intro hc329
      refine k_iconst K X327 d6_18 (v := (0 : Int32)) rfl (q := 19) rfl ?_
      exact J321 T326 X327 e328 _ (by first | rfl | (simp only [if_neg hc325, if_pos hc329]))
    · intro hc329
      refine k_iconst K X327 d6_14 (v := (1 : Int32)) rfl (q := 15) rfl ?_
      refine k_goto K X327 d6_15 (by decide) (q := 19) rfl ?_
      exact J321 T326 X327 e328 _ (by first | rfl | (simp only [if_neg hc325, if_neg hc329]))
theorem d4_0 : decode method_3_code 0 = .ok (.aload_n 0, 1) := by decide +kernel
theorem d4_1 : decode method_3_code 1 = .ok (.iload_n 2, 1) := by decide +kernel
theorem d4_2 : decode method_3_code 2 = .ok (.invokevirtual 7, 3) := by decide +kernel
theorem pd_0 : parseMethodDescriptor "(C)V" = some ⟨[.char], none⟩ := by decide +kernel
theorem d4_5 : decode method_3_code 5 = .ok (.iload_n 2, 1) := by decide +kernel
theorem d4_6 : decode method_3_code 6 = .ok (.sipush 8220, 3) := by decide +kernel
theorem d4_9 : decode method_3_code 9 = .ok (.if_icmp .ne 14, 3) := by decide +kernel
theorem pd_1 : parseMethodDescriptor "(II)I" = some ⟨[.int, .int], some .int⟩ := by decide +kernel
theorem d4_23 : decode method_3_code 23 = .ok (.iload_n 2, 1) := by decide +kernel
theorem d4_24 : decode method_3_code 24 = .ok (.sipush 8221, 3) := by decide +kernel
theorem d4_27 : decode method_3_code 27 = .ok (.if_icmp .ne 15, 3) := by decide +kernel
theorem d4_42 : decode method_3_code 42 = .ok (.iload_n 2, 1) := by decide +kernel
theorem d4_43 : decode method_3_code 43 = .ok (.bipush 34, 2) := by decide +kernel
theorem d4_45 : decode method_3_code 45 = .ok (.if_icmp .ne 11, 3) := by decide +kernel
theorem d4_56 : decode method_3_code 56 = .ok (.aload_n 1, 1) := by decide +kernel
theorem d4_57 : decode method_3_code 57 = .ok (.iconst 0, 1) := by decide +kernel
theorem d4_58 : decode method_3_code 58 = .ok (.iaload, 1) := by decide +kernel
theorem d4_59 : decode method_3_code 59 = .ok (.ifCond .gt 12, 3) := by decide +kernel
theorem d4_76 : decode method_3_code 76 = .ok (.istore_n 3, 1) := by decide +kernel
theorem d4_77 : decode method_3_code 77 = .ok (.aload_n 0, 1) := by decide +kernel
theorem d4_78 : decode method_3_code 78 = .ok (.invokevirtual 19, 3) := by decide +kernel
theorem pd_2 : parseMethodDescriptor "()Z" = some ⟨[], some .boolean⟩ := by decide +kernel
theorem d4_81 : decode method_3_code 81 = .ok (.iload_n 3, 1) := by decide +kernel
theorem d4_82 : decode method_3_code 82 = .ok (.if_icmp .ne 7, 3) := by decide +kernel
theorem d4_90 : decode method_3_code 90 = .ok (.ireturn, 1) := by decide +kernel
theorem d4_89 : decode method_3_code 89 = .ok (.iconst 0, 1) := by decide +kernel
theorem d4_85 : decode method_3_code 85 = .ok (.iconst 1, 1) := by decide +kernel
theorem d4_86 : decode method_3_code 86 = .ok (.goto 4, 3) := by decide +kernel
theorem d4_71 : decode method_3_code 71 = .ok (.iconst 1, 1) := by decide +kernel
theorem d4_72 : decode method_3_code 72 = .ok (.goto 4, 3) := by decide +kernel
theorem d4_62 : decode method_3_code 62 = .ok (.aload_n 1, 1) := by decide +kernel
theorem d4_63 : decode method_3_code 63 = .ok (.iconst 1, 1) := by decide +kernel
theorem d4_64 : decode method_3_code 64 = .ok (.iaload, 1) := by decide +kernel
theorem d4_65 : decode method_3_code 65 = .ok (.iconst 1, 1) := by decide +kernel
theorem d4_66 : decode method_3_code 66 = .ok (.iand, 1) := by decide +kernel
theorem d4_67 : decode method_3_code 67 = .ok (.iconst 1, 1) := by decide +kernel
theorem d4_68 : decode method_3_code 68 = .ok (.if_icmp .ne 7, 3) := by decide +kernel
theorem d4_75 : decode method_3_code 75 = .ok (.iconst 0, 1) := by decide +kernel
theorem d4_48 : decode method_3_code 48 = .ok (.aload_n 1, 1) := by decide +kernel
theorem d4_49 : decode method_3_code 49 = .ok (.iconst 1, 1) := by decide +kernel
theorem d4_50 : decode method_3_code 50 = .ok (.aload_n 1, 1) := by decide +kernel
theorem d4_51 : decode method_3_code 51 = .ok (.iconst 1, 1) := by decide +kernel
theorem d4_52 : decode method_3_code 52 = .ok (.iaload, 1) := by decide +kernel
theorem d4_53 : decode method_3_code 53 = .ok (.iconst 1, 1) := by decide +kernel
theorem d4_54 : decode method_3_code 54 = .ok (.iadd, 1) := by decide +kernel
theorem d4_55 : decode method_3_code 55 = .ok (.iastore, 1) := by decide +kernel
theorem d4_30 : decode method_3_code 30 = .ok (.aload_n 1, 1) := by decide +kernel
theorem d4_31 : decode method_3_code 31 = .ok (.iconst 0, 1) := by decide +kernel
theorem d4_32 : decode method_3_code 32 = .ok (.aload_n 1, 1) := by decide +kernel
theorem d4_33 : decode method_3_code 33 = .ok (.iconst 0, 1) := by decide +kernel
theorem d4_34 : decode method_3_code 34 = .ok (.iaload, 1) := by decide +kernel
theorem d4_35 : decode method_3_code 35 = .ok (.iconst 1, 1) := by decide +kernel
theorem d4_36 : decode method_3_code 36 = .ok (.isub, 1) := by decide +kernel
theorem d4_37 : decode method_3_code 37 = .ok (.iconst 0, 1) := by decide +kernel
theorem d4_38 : decode method_3_code 38 = .ok (.invokestatic 13, 3) := by decide +kernel
theorem d4_41 : decode method_3_code 41 = .ok (.iastore, 1) := by decide +kernel
theorem d4_12 : decode method_3_code 12 = .ok (.aload_n 1, 1) := by decide +kernel
theorem d4_13 : decode method_3_code 13 = .ok (.iconst 0, 1) := by decide +kernel
theorem d4_14 : decode method_3_code 14 = .ok (.aload_n 1, 1) := by decide +kernel
theorem d4_15 : decode method_3_code 15 = .ok (.iconst 0, 1) := by decide +kernel
theorem d4_16 : decode method_3_code 16 = .ok (.iaload, 1) := by decide +kernel
theorem d4_17 : decode method_3_code 17 = .ok (.iconst 1, 1) := by decide +kernel
theorem d4_18 : decode method_3_code 18 = .ok (.iadd, 1) := by decide +kernel
theorem d4_19 : decode method_3_code 19 = .ok (.iastore, 1) := by decide +kernel
theorem d4_20 : decode method_3_code 20 = .ok (.goto 22, 3) := by decide +kernel
theorem ef_4 (a0 : Addr) (a1 : Addr) (p2 : Int32) : ∀ m : MethodId, entryFrame m #[(.ref a0), (.ref a1), (.int p2)] 4 = mkF m 0 #[.val (.ref a0), .val (.ref a1), .val (.int p2), .unset] [] := by intro m; first | (simp [entryFrame, mkF, argsToLocals, Value.category]; done) | rfl
def F_step (p2 : Int32) (w_a0_straight : Int32) (w_a0_depth : Int32) (s_a1_0 : Int32) (s_a1_1 : Int32) : Int32 :=
  let v388 : Int32 := (F_read_a0_depth p2 w_a0_straight w_a0_depth)
  let v389 : Int32 := (F_read_a0_straight p2 w_a0_straight w_a0_depth)
  if p2 = (8220 : Int32) then
    if p2 = (34 : Int32) then
      let v621 : Int32 := (s_a1_0 + (1 : Int32))
      let d624 : Int32 := (if (0 : Int32) < v621 then (1 : Int32) else (if ((s_a1_1 + (1 : Int32)) &&& (1 : Int32)) = (1 : Int32) then (1 : Int32) else (0 : Int32)))
      let d630 : Int32 := (if (F_inside v388 v389) = d624 then (1 : Int32) else (0 : Int32))
      (nar .boolean d630)
    else
      let v594 : Int32 := (s_a1_0 + (1 : Int32))
      let d597 : Int32 := (if (0 : Int32) < v594 then (1 : Int32) else (if (s_a1_1 &&& (1 : Int32)) = (1 : Int32) then (1 : Int32) else (0 : Int32)))
      let d603 : Int32 := (if (F_inside v388 v389) = d597 then (1 : Int32) else (0 : Int32))
      (nar .boolean d603)
  else
    if p2 = (8221 : Int32) then
      if p2 = (34 : Int32) then
        let v552 : Int32 := (F_max (s_a1_0 - (1 : Int32)) (0 : Int32))
        let d555 : Int32 := (if (0 : Int32) < v552 then (1 : Int32) else (if ((s_a1_1 + (1 : Int32)) &&& (1 : Int32)) = (1 : Int32) then (1 : Int32) else (0 : Int32)))
        let d561 : Int32 := (if (F_inside v388 v389) = d555 then (1 : Int32) else (0 : Int32))
        (nar .boolean d561)
      else
        let v525 : Int32 := (F_max (s_a1_0 - (1 : Int32)) (0 : Int32))
        let d528 : Int32 := (if (0 : Int32) < v525 then (1 : Int32) else (if (s_a1_1 &&& (1 : Int32)) = (1 : Int32) then (1 : Int32) else (0 : Int32)))
        let d534 : Int32 := (if (F_inside v388 v389) = d528 then (1 : Int32) else (0 : Int32))
        (nar .boolean d534)
    else
      if p2 = (34 : Int32) then
        let d483 : Int32 := (if (0 : Int32) < s_a1_0 then (1 : Int32) else (if ((s_a1_1 + (1 : Int32)) &&& (1 : Int32)) = (1 : Int32) then (1 : Int32) else (0 : Int32)))
        let d489 : Int32 := (if (F_inside v388 v389) = d483 then (1 : Int32) else (0 : Int32))
        (nar .boolean d489)
      else
        let d457 : Int32 := (if (0 : Int32) < s_a1_0 then (1 : Int32) else (if (s_a1_1 &&& (1 : Int32)) = (1 : Int32) then (1 : Int32) else (0 : Int32)))
        let d463 : Int32 := (if (F_inside v388 v389) = d457 then (1 : Int32) else (0 : Int32))
        (nar .boolean d463)
def F_step_a0_depth (p2 : Int32) (w_a0_straight : Int32) (w_a0_depth : Int32) (s_a1_0 : Int32) (s_a1_1 : Int32) : Int32 :=
  let v388 : Int32 := (F_read_a0_depth p2 w_a0_straight w_a0_depth)
  let v389 : Int32 := (F_read_a0_straight p2 w_a0_straight w_a0_depth)
  if p2 = (8220 : Int32) then
    if p2 = (34 : Int32) then
      let v621 : Int32 := (s_a1_0 + (1 : Int32))
      let d624 : Int32 := (if (0 : Int32) < v621 then (1 : Int32) else (if ((s_a1_1 + (1 : Int32)) &&& (1 : Int32)) = (1 : Int32) then (1 : Int32) else (0 : Int32)))
      let d630 : Int32 := (if (F_inside v388 v389) = d624 then (1 : Int32) else (0 : Int32))
      v388
    else
      let v594 : Int32 := (s_a1_0 + (1 : Int32))
      let d597 : Int32 := (if (0 : Int32) < v594 then (1 : Int32) else (if (s_a1_1 &&& (1 : Int32)) = (1 : Int32) then (1 : Int32) else (0 : Int32)))
      let d603 : Int32 := (if (F_inside v388 v389) = d597 then (1 : Int32) else (0 : Int32))
      v388
  else
    if p2 = (8221 : Int32) then
      if p2 = (34 : Int32) then
        let v552 : Int32 := (F_max (s_a1_0 - (1 : Int32)) (0 : Int32))
        let d555 : Int32 := (if (0 : Int32) < v552 then (1 : Int32) else (if ((s_a1_1 + (1 : Int32)) &&& (1 : Int32)) = (1 : Int32) then (1 : Int32) else (0 : Int32)))
        let d561 : Int32 := (if (F_inside v388 v389) = d555 then (1 : Int32) else (0 : Int32))
        v388
      else
        let v525 : Int32 := (F_max (s_a1_0 - (1 : Int32)) (0 : Int32))
        let d528 : Int32 := (if (0 : Int32) < v525 then (1 : Int32) else (if (s_a1_1 &&& (1 : Int32)) = (1 : Int32) then (1 : Int32) else (0 : Int32)))
        let d534 : Int32 := (if (F_inside v388 v389) = d528 then (1 : Int32) else (0 : Int32))
        v388
    else
      if p2 = (34 : Int32) then
        let d483 : Int32 := (if (0 : Int32) < s_a1_0 then (1 : Int32) else (if ((s_a1_1 + (1 : Int32)) &&& (1 : Int32)) = (1 : Int32) then (1 : Int32) else (0 : Int32)))
        let d489 : Int32 := (if (F_inside v388 v389) = d483 then (1 : Int32) else (0 : Int32))
        v388
      else
        let d457 : Int32 := (if (0 : Int32) < s_a1_0 then (1 : Int32) else (if (s_a1_1 &&& (1 : Int32)) = (1 : Int32) then (1 : Int32) else (0 : Int32)))
        let d463 : Int32 := (if (F_inside v388 v389) = d457 then (1 : Int32) else (0 : Int32))
        v388
def F_step_a0_straight (p2 : Int32) (w_a0_straight : Int32) (w_a0_depth : Int32) (s_a1_0 : Int32) (s_a1_1 : Int32) : Int32 :=
  let v388 : Int32 := (F_read_a0_depth p2 w_a0_straight w_a0_depth)
  let v389 : Int32 := (F_read_a0_straight p2 w_a0_straight w_a0_depth)
  if p2 = (8220 : Int32) then
    if p2 = (34 : Int32) then
      let v621 : Int32 := (s_a1_0 + (1 : Int32))
      let d624 : Int32 := (if (0 : Int32) < v621 then (1 : Int32) else (if ((s_a1_1 + (1 : Int32)) &&& (1 : Int32)) = (1 : Int32) then (1 : Int32) else (0 : Int32)))
      let d630 : Int32 := (if (F_inside v388 v389) = d624 then (1 : Int32) else (0 : Int32))
      v389
    else
      let v594 : Int32 := (s_a1_0 + (1 : Int32))
      let d597 : Int32 := (if (0 : Int32) < v594 then (1 : Int32) else (if (s_a1_1 &&& (1 : Int32)) = (1 : Int32) then (1 : Int32) else (0 : Int32)))
      let d603 : Int32 := (if (F_inside v388 v389) = d597 then (1 : Int32) else (0 : Int32))
      v389
  else
    if p2 = (8221 : Int32) then
      if p2 = (34 : Int32) then
        let v552 : Int32 := (F_max (s_a1_0 - (1 : Int32)) (0 : Int32))
        let d555 : Int32 := (if (0 : Int32) < v552 then (1 : Int32) else (if ((s_a1_1 + (1 : Int32)) &&& (1 : Int32)) = (1 : Int32) then (1 : Int32) else (0 : Int32)))
        let d561 : Int32 := (if (F_inside v388 v389) = d555 then (1 : Int32) else (0 : Int32))
        v389
      else
        let v525 : Int32 := (F_max (s_a1_0 - (1 : Int32)) (0 : Int32))
        let d528 : Int32 := (if (0 : Int32) < v525 then (1 : Int32) else (if (s_a1_1 &&& (1 : Int32)) = (1 : Int32) then (1 : Int32) else (0 : Int32)))
        let d534 : Int32 := (if (F_inside v388 v389) = d528 then (1 : Int32) else (0 : Int32))
        v389
    else
      if p2 = (34 : Int32) then
        let d483 : Int32 := (if (0 : Int32) < s_a1_0 then (1 : Int32) else (if ((s_a1_1 + (1 : Int32)) &&& (1 : Int32)) = (1 : Int32) then (1 : Int32) else (0 : Int32)))
        let d489 : Int32 := (if (F_inside v388 v389) = d483 then (1 : Int32) else (0 : Int32))
        v389
      else
        let d457 : Int32 := (if (0 : Int32) < s_a1_0 then (1 : Int32) else (if (s_a1_1 &&& (1 : Int32)) = (1 : Int32) then (1 : Int32) else (0 : Int32)))
        let d463 : Int32 := (if (F_inside v388 v389) = d457 then (1 : Int32) else (0 : Int32))
        v389
def F_step_a1_0 (p2 : Int32) (w_a0_straight : Int32) (w_a0_depth : Int32) (s_a1_0 : Int32) (s_a1_1 : Int32) : Int32 :=
  let v388 : Int32 := (F_read_a0_depth p2 w_a0_straight w_a0_depth)
  let v389 : Int32 := (F_read_a0_straight p2 w_a0_straight w_a0_depth)
  if p2 = (8220 : Int32) then
    if p2 = (34 : Int32) then
      let v621 : Int32 := (s_a1_0 + (1 : Int32))
      let d624 : Int32 := (if (0 : Int32) < v621 then (1 : Int32) else (if ((s_a1_1 + (1 : Int32)) &&& (1 : Int32)) = (1 : Int32) then (1 : Int32) else (0 : Int32)))
      let d630 : Int32 := (if (F_inside v388 v389) = d624 then (1 : Int32) else (0 : Int32))
      (s_a1_0 + (1 : Int32))
    else
      let v594 : Int32 := (s_a1_0 + (1 : Int32))
      let d597 : Int32 := (if (0 : Int32) < v594 then (1 : Int32) else (if (s_a1_1 &&& (1 : Int32)) = (1 : Int32) then (1 : Int32) else (0 : Int32)))
      let d603 : Int32 := (if (F_inside v388 v389) = d597 then (1 : Int32) else (0 : Int32))
      (s_a1_0 + (1 : Int32))
  else
    if p2 = (8221 : Int32) then
      if p2 = (34 : Int32) then
        let v552 : Int32 := (F_max (s_a1_0 - (1 : Int32)) (0 : Int32))
        let d555 : Int32 := (if (0 : Int32) < v552 then (1 : Int32) else (if ((s_a1_1 + (1 : Int32)) &&& (1 : Int32)) = (1 : Int32) then (1 : Int32) else (0 : Int32)))
        let d561 : Int32 := (if (F_inside v388 v389) = d555 then (1 : Int32) else (0 : Int32))
        (F_max (s_a1_0 - (1 : Int32)) (0 : Int32))
      else
        let v525 : Int32 := (F_max (s_a1_0 - (1 : Int32)) (0 : Int32))
        let d528 : Int32 := (if (0 : Int32) < v525 then (1 : Int32) else (if (s_a1_1 &&& (1 : Int32)) = (1 : Int32) then (1 : Int32) else (0 : Int32)))
        let d534 : Int32 := (if (F_inside v388 v389) = d528 then (1 : Int32) else (0 : Int32))
        (F_max (s_a1_0 - (1 : Int32)) (0 : Int32))
    else
      if p2 = (34 : Int32) then
        let d483 : Int32 := (if (0 : Int32) < s_a1_0 then (1 : Int32) else (if ((s_a1_1 + (1 : Int32)) &&& (1 : Int32)) = (1 : Int32) then (1 : Int32) else (0 : Int32)))
        let d489 : Int32 := (if (F_inside v388 v389) = d483 then (1 : Int32) else (0 : Int32))
        s_a1_0
      else
        let d457 : Int32 := (if (0 : Int32) < s_a1_0 then (1 : Int32) else (if (s_a1_1 &&& (1 : Int32)) = (1 : Int32) then (1 : Int32) else (0 : Int32)))
        let d463 : Int32 := (if (F_inside v388 v389) = d457 then (1 : Int32) else (0 : Int32))
        s_a1_0
def F_step_a1_1 (p2 : Int32) (w_a0_straight : Int32) (w_a0_depth : Int32) (s_a1_0 : Int32) (s_a1_1 : Int32) : Int32 :=
  let v388 : Int32 := (F_read_a0_depth p2 w_a0_straight w_a0_depth)
  let v389 : Int32 := (F_read_a0_straight p2 w_a0_straight w_a0_depth)
  if p2 = (8220 : Int32) then
    if p2 = (34 : Int32) then
      let v621 : Int32 := (s_a1_0 + (1 : Int32))
      let d624 : Int32 := (if (0 : Int32) < v621 then (1 : Int32) else (if ((s_a1_1 + (1 : Int32)) &&& (1 : Int32)) = (1 : Int32) then (1 : Int32) else (0 : Int32)))
      let d630 : Int32 := (if (F_inside v388 v389) = d624 then (1 : Int32) else (0 : Int32))
      (s_a1_1 + (1 : Int32))
    else
      let v594 : Int32 := (s_a1_0 + (1 : Int32))
      let d597 : Int32 := (if (0 : Int32) < v594 then (1 : Int32) else (if (s_a1_1 &&& (1 : Int32)) = (1 : Int32) then (1 : Int32) else (0 : Int32)))
      let d603 : Int32 := (if (F_inside v388 v389) = d597 then (1 : Int32) else (0 : Int32))
      s_a1_1
  else
    if p2 = (8221 : Int32) then
      if p2 = (34 : Int32) then
        let v552 : Int32 := (F_max (s_a1_0 - (1 : Int32)) (0 : Int32))
        let d555 : Int32 := (if (0 : Int32) < v552 then (1 : Int32) else (if ((s_a1_1 + (1 : Int32)) &&& (1 : Int32)) = (1 : Int32) then (1 : Int32) else (0 : Int32)))
        let d561 : Int32 := (if (F_inside v388 v389) = d555 then (1 : Int32) else (0 : Int32))
        (s_a1_1 + (1 : Int32))
      else
        let v525 : Int32 := (F_max (s_a1_0 - (1 : Int32)) (0 : Int32))
        let d528 : Int32 := (if (0 : Int32) < v525 then (1 : Int32) else (if (s_a1_1 &&& (1 : Int32)) = (1 : Int32) then (1 : Int32) else (0 : Int32)))
        let d534 : Int32 := (if (F_inside v388 v389) = d528 then (1 : Int32) else (0 : Int32))
        s_a1_1
    else
      if p2 = (34 : Int32) then
        let d483 : Int32 := (if (0 : Int32) < s_a1_0 then (1 : Int32) else (if ((s_a1_1 + (1 : Int32)) &&& (1 : Int32)) = (1 : Int32) then (1 : Int32) else (0 : Int32)))
        let d489 : Int32 := (if (F_inside v388 v389) = d483 then (1 : Int32) else (0 : Int32))
        (s_a1_1 + (1 : Int32))
      else
        let d457 : Int32 := (if (0 : Int32) < s_a1_0 then (1 : Int32) else (if (s_a1_1 &&& (1 : Int32)) = (1 : Int32) then (1 : Int32) else (0 : Int32)))
        let d463 : Int32 := (if (F_inside v388 v389) = d457 then (1 : Int32) else (0 : Int32))
        s_a1_1
set_option maxRecDepth 65536 in
set_option maxHeartbeats 40000000 in
theorem rm4 (l : Launch) (Z : State) (az : Array Value) (hw : ∀ d ∈ tables_1, d.before az Z = true) (ws : List Jvm.Cond) (a0 : Addr) (a1 : Addr) (p2 : Int32) (w_a0_straight : Int32) (w_a0_depth : Int32) (s_a1_0 : Int32) (s_a1_1 : Int32) (h0 : Heap) (n0 : Nat) (Z0 : n0 ≤ h0.size) (F_a0_straight : Fld Z h0 a0 "com/example/wherefore/wherefore/instrument/Quotation" "straight" "Z" (.int w_a0_straight)) (E_a0 : Exa Z h0 a0 "com/example/wherefore/wherefore/instrument/Quotation") (g_a0 : n0 ≤ a0) (F_a0_depth : Fld Z h0 a0 "com/example/wherefore/wherefore/instrument/Quotation" "depth" "I" (.int w_a0_depth)) (A_a1 : Ary Z h0 a1 .int 2 (fun i => Value.int (List.getD [s_a1_0, s_a1_1] i 0))) (ne_a1_a0 : a1 ≠ a0) (g_a1 : n0 ≤ a1) :
    Met l (⟨"com/example/wherefore/wherefore/instrument/QuotationReadPinLaw", "step", "(Lcom/example/wherefore/wherefore/instrument/Quotation;[IC)Z"⟩ : MethodName) method_3_code 4 (some .boolean) ws ({ frames := 1, cells := 0, slots := 0, locals := 15 } : Room) Z #[(.ref a0), (.ref a1), (.int p2)] h0 (fun v h' L => v = some (Value.int (F_step p2 w_a0_straight w_a0_depth s_a1_0 s_a1_1)) ∧ Fr n0 L ∧ Keep h0 h' [a0, a1] ∧ Fld Z h' a0 "com/example/wherefore/wherefore/instrument/Quotation" "depth" "I" (.int (F_step_a0_depth p2 w_a0_straight w_a0_depth s_a1_0 s_a1_1)) ∧ Fld Z h' a0 "com/example/wherefore/wherefore/instrument/Quotation" "straight" "Z" (.int (F_step_a0_straight p2 w_a0_straight w_a0_depth s_a1_0 s_a1_1)) ∧ Ary Z h' a1 .int 2 (fun i => Value.int (List.getD [(F_step_a1_0 p2 w_a0_straight w_a0_depth s_a1_0 s_a1_1), (F_step_a1_1 p2 w_a0_straight w_a0_depth s_a1_0 s_a1_1)] i 0))) := by
  refine enter (plainFor_of_name pn_0) (ef_4 a0 a1 p2) ?_
  intro p e s m below meth c T0 kc kn Q hkc hkn hQ K' X0 e0
  have K : Fx p s m meth c method_3_code 4 "com/example/wherefore/wherefore/instrument/QuotationReadPinLaw" "step" (some .boolean) Z := K'
  have N0 := Fr.nil n0
  have K0 : Keep h0 h0 [a0, a1] := Keep.refl _ _
  refine k_aloadN K X0 d4_0 rfl rfl (q := 1) rfl ?_
  refine k_iloadN K X0 d4_1 rfl (q := 2) rfl ?_
  refine k_virtual K X0 e0 d4_2 (wd hw 17 rfl) (wd hw 18 rfl) (wd hw 20 rfl) (wd hw 19 rfl) (wd hw 7 rfl) (wd hw 21 rfl) (by decide) E_a0 (rm5 l Z az hw [] a0 p2 w_a0_straight w_a0_depth h0 n0 Z0 F_a0_straight E_a0 g_a0 F_a0_depth) (W := 0) (by decide) (by decide) (by decide) (by decide) rfl pd_0 (argsL := [(.int p2)]) (rest := []) rfl rfl rfl (Nat.le_of_eq rfl) (q := 5) rfl ?_
  rintro _ T375 L376 X377 ⟨rfl, N378, K379, f381, f382⟩
  have f383 := Exa.keep E_a0 K379
  have f384 := Ary.keep A_a1 K379 (ninS ne_a1_a0 nin0)
  have N385 := Fr.app N0 N378
  have K386 := Keep.trans K0 K379 (allS (Or.inl (List.mem_of_getElem? (i := 0) rfl)) all0)
  have Z387 := Nat.le_trans Z0 K379.1
  obtain ⟨v388, hv_v388⟩ : ∃ z : Int32, (F_read_a0_depth p2 w_a0_straight w_a0_depth) = z := ⟨_, rfl⟩
  rw [hv_v388] at f381
  obtain ⟨v389, hv_v389⟩ : ∃ z : Int32, (F_read_a0_straight p2 w_a0_straight w_a0_depth) = z := ⟨_, rfl⟩
  rw [hv_v389] at f382
  refine k_iloadN K X377 d4_5 rfl (q := 6) rfl ?_
  refine k_sipush K X377 d4_6 (v := (8220 : Int32)) rfl (q := 9) rfl ?_
  refine k_icmp_ne K X377 d4_9 (by decide) (q := 23) rfl (q' := 12) rfl ?_ ?_
  · intro hc421
    refine k_iloadN K X377 d4_23 rfl (q := 24) rfl ?_
    refine k_sipush K X377 d4_24 (v := (8221 : Int32)) rfl (q := 27) rfl ?_
    refine k_icmp_ne K X377 d4_27 (by decide) (q := 42) rfl (q' := 30) rfl ?_ ?_
    · intro hc439
      refine k_iloadN K X377 d4_42 rfl (q := 43) rfl ?_
      refine k_bipush K X377 d4_43 (v := (34 : Int32)) rfl (q := 45) rfl ?_
      refine k_icmp_ne K X377 d4_45 (by decide) (q := 56) rfl (q' := 48) rfl ?_ ?_
      · intro hc454
        refine k_aloadN K X377 d4_56 rfl rfl (q := 57) rfl ?_
        refine k_iconst K X377 d4_57 (v := (0 : Int32)) rfl (q := 58) rfl ?_
        refine k_iaload K X377 rfl d4_58 f384 (i := 0) (v := (.int s_a1_0)) (by decide) (by decide) rfl (q := 59) rfl ?_
        have J458 : ∀ (d457 : Int32), (if (0 : Int32) < s_a1_0 then (1 : Int32) else (if (s_a1_1 &&& (1 : Int32)) = (1 : Int32) then (1 : Int32) else (0 : Int32))) = d457 → Run p e below s kc kn Q T375 (mkF m 76 #[.val (.ref a0), .val (.ref a1), .val (.int p2), .unset] [(.int d457)]) := by
          intro d457 hv_d457
          refine k_istoreN K X377 d4_76 rfl (Ls' := #[.val (.ref a0), .val (.ref a1), .val (.int p2), .val (.int d457)]) rfl (q := 77) rfl ?_
          refine k_aloadN K X377 d4_77 rfl rfl (q := 78) rfl ?_
          refine k_virtualP K X377 rfl d4_78 (wd hw 24 rfl) (wd hw 25 rfl) (wd hw 27 rfl) (wd hw 26 rfl) (wd hw 7 rfl) (wd hw 28 rfl) (by decide) f383 (rm6 l Z az hw [] a0 v388 v389 T375.heap f381 f382) (W := 0) (by decide) (by decide) (by decide) (by decide) rfl pd_2 (argsL := []) (rest := []) rfl rfl rfl (Nat.le_of_eq rfl) (q := 81) rfl ?_
          intro T459 X460 e461
          refine k_iloadN K X460 d4_81 rfl (q := 82) rfl ?_
          have J464 : ∀ (d463 : Int32), (if (F_inside v388 v389) = d457 then (1 : Int32) else (0 : Int32)) = d463 → Run p e below s kc kn Q T459 (mkF m 90 #[.val (.ref a0), .val (.ref a1), .val (.int p2), .val (.int d457)] [(.int d463)]) := by
            intro d463 hv_d463
            exact k_retz K X460 e461 d4_90 (Nat.le_trans (by decide) hkc) (Nat.le_trans (by decide) hkn) (hQ _ _ _ ⟨(by show some (Value.int (nar .boolean d463)) = some (Value.int (F_step p2 w_a0_straight w_a0_depth s_a1_0 s_a1_1)); simp only [F_step, hv_v388, hv_v389, hv_d457, hv_d463, if_neg hc421, if_neg hc439, if_neg hc454]), N385, K386, (by rw [(show F_step_a0_depth p2 w_a0_straight w_a0_depth s_a1_0 s_a1_1 = v388 from by simp only [F_step_a0_depth, hv_v388, hv_v389, hv_d457, hv_d463, if_neg hc421, if_neg hc439, if_neg hc454])]; exact f381), (by rw [(show F_step_a0_straight p2 w_a0_straight w_a0_depth s_a1_0 s_a1_1 = v389 from by simp only [F_step_a0_straight, hv_v388, hv_v389, hv_d457, hv_d463, if_neg hc421, if_neg hc439, if_neg hc454])]; exact f382), (by rw [(show F_step_a1_0 p2 w_a0_straight w_a0_depth s_a1_0 s_a1_1 = s_a1_0 from by simp only [F_step_a1_0, hv_v388, hv_v389, hv_d457, hv_d463, if_neg hc421, if_neg hc439, if_neg hc454]), (show F_step_a1_1 p2 w_a0_straight w_a0_depth s_a1_0 s_a1_1 = s_a1_1 from by simp only [F_step_a1_1, hv_v388, hv_v389, hv_d457, hv_d463, if_neg hc421, if_neg hc439, if_neg hc454])]; exact f384)⟩)
          refine k_icmp_ne K X460 d4_82 (by decide) (q := 89) rfl (q' := 85) rfl ?_ ?_
          · intro hc465
            refine k_iconst K X460 d4_89 (v := (0 : Int32)) rfl (q := 90) rfl ?_
            exact J464 _ (by first | rfl | (simp only [if_neg hc465]))
          · intro hc465
            refine k_iconst K X460 d4_85 (v := (1 : Int32)) rfl (q := 86) rfl ?_
            refine k_goto K X460 d4_86 (by decide) (q := 90) rfl ?_
            exact J464 _ (by first | rfl | (simp only [if_pos hc465]))
        refine k_if_gt K X377 d4_59 (by decide) (q := 71) rfl (q' := 62) rfl ?_ ?_
        · intro hc466
          refine k_iconst K X377 d4_71 (v := (1 : Int32)) rfl (q := 72) rfl ?_
          refine k_goto K X377 d4_72 (by decide) (q := 76) rfl ?_
          exact J458 _ (by first | rfl | (simp only [if_pos hc466]))
        · intro hc466
          refine k_aloadN K X377 d4_62 rfl rfl (q := 63) rfl ?_
          refine k_iconst K X377 d4_63 (v := (1 : Int32)) rfl (q := 64) rfl ?_
          refine k_iaload K X377 rfl d4_64 f384 (i := 1) (v := (.int s_a1_1)) (by decide) (by decide) rfl (q := 65) rfl ?_
          refine k_iconst K X377 d4_65 (v := (1 : Int32)) rfl (q := 66) rfl ?_
          refine k_iand K X377 d4_66 (q := 67) rfl ?_
          refine k_iconst K X377 d4_67 (v := (1 : Int32)) rfl (q := 68) rfl ?_
          refine k_icmp_ne K X377 d4_68 (by decide) (q := 75) rfl (q' := 71) rfl ?_ ?_
          · intro hc467
            refine k_iconst K X377 d4_75 (v := (0 : Int32)) rfl (q := 76) rfl ?_
            exact J458 _ (by first | rfl | (simp only [if_neg hc466, if_neg hc467]))
          · intro hc467
            refine k_iconst K X377 d4_71 (v := (1 : Int32)) rfl (q := 72) rfl ?_
            refine k_goto K X377 d4_72 (by decide) (q := 76) rfl ?_
            exact J458 _ (by first | rfl | (simp only [if_neg hc466, if_pos hc467]))
      · intro hc454
        refine k_aloadN K X377 d4_48 rfl rfl (q := 49) rfl ?_
        refine k_iconst K X377 d4_49 (v := (1 : Int32)) rfl (q := 50) rfl ?_
        refine k_aloadN K X377 d4_50 rfl rfl (q := 51) rfl ?_
        refine k_iconst K X377 d4_51 (v := (1 : Int32)) rfl (q := 52) rfl ?_
        refine k_iaload K X377 rfl d4_52 f384 (i := 1) (v := (.int s_a1_1)) (by decide) (by decide) rfl (q := 53) rfl ?_
        refine k_iconst K X377 d4_53 (v := (1 : Int32)) rfl (q := 54) rfl ?_
        refine k_iadd K X377 d4_54 (q := 55) rfl ?_
        refine k_iastore K X377 rfl d4_55 f384 (i := 1) (by decide) (by decide) (q := 56) rfl ?_
        intro T468 h469 X470 e471 W472 A473
        have f474 : Ary Z h469 a1 .int 2 (fun i => Value.int (List.getD [s_a1_0, (s_a1_1 + (1 : Int32))] i 0)) := Ary.eqv A473 (by intro i hi; match i, hi with | 0, _ => rfl | 1, _ => rfl | (k + 2), hi => exact absurd hi (by omega))
        have f475 := Exa.wr W472 f383
        have f476 := Fld.other W472 f381 (Or.inl (Ne.symm ne_a1_a0))
        have f477 := Fld.other W472 f382 (Or.inl (Ne.symm ne_a1_a0))
        have N478 := Fr.snoc X470 N385 g_a1
        have K479 := Keep.wr K386 W472 (Or.inl (List.mem_of_getElem? (i := 1) rfl))
        have Z480 := Nat.le_trans Z387 (Nat.le_of_eq (Wr.size W472).symm)
        refine k_aloadN K X470 d4_56 rfl rfl (q := 57) rfl ?_
        refine k_iconst K X470 d4_57 (v := (0 : Int32)) rfl (q := 58) rfl ?_
        refine k_iaload K X470 e471 d4_58 f474 (i := 0) (v := (.int s_a1_0)) (by decide) (by decide) rfl (q := 59) rfl ?_
        have J484 : ∀ (d483 : Int32), (if (0 : Int32) < s_a1_0 then (1 : Int32) else (if ((s_a1_1 + (1 : Int32)) &&& (1 : Int32)) = (1 : Int32) then (1 : Int32) else (0 : Int32))) = d483 → Run p e below s kc kn Q T468 (mkF m 76 #[.val (.ref a0), .val (.ref a1), .val (.int p2), .unset] [(.int d483)]) := by
          intro d483 hv_d483
          refine k_istoreN K X470 d4_76 rfl (Ls' := #[.val (.ref a0), .val (.ref a1), .val (.int p2), .val (.int d483)]) rfl (q := 77) rfl ?_
          refine k_aloadN K X470 d4_77 rfl rfl (q := 78) rfl ?_
          refine k_virtualP K X470 e471 d4_78 (wd hw 24 rfl) (wd hw 25 rfl) (wd hw 27 rfl) (wd hw 26 rfl) (wd hw 7 rfl) (wd hw 28 rfl) (by decide) f475 (rm6 l Z az hw [] a0 v388 v389 h469 f476 f477) (W := 0) (by decide) (by decide) (by decide) (by decide) rfl pd_2 (argsL := []) (rest := []) rfl rfl rfl (Nat.le_of_eq rfl) (q := 81) rfl ?_
          intro T485 X486 e487
          refine k_iloadN K X486 d4_81 rfl (q := 82) rfl ?_
          have J490 : ∀ (d489 : Int32), (if (F_inside v388 v389) = d483 then (1 : Int32) else (0 : Int32)) = d489 → Run p e below s kc kn Q T485 (mkF m 90 #[.val (.ref a0), .val (.ref a1), .val (.int p2), .val (.int d483)] [(.int d489)]) := by
            intro d489 hv_d489
            exact k_retz K X486 e487 d4_90 (Nat.le_trans (by decide) hkc) (Nat.le_trans (by decide) hkn) (hQ _ _ _ ⟨(by show some (Value.int (nar .boolean d489)) = some (Value.int (F_step p2 w_a0_straight w_a0_depth s_a1_0 s_a1_1)); simp only [F_step, hv_v388, hv_v389, hv_d483, hv_d489, if_neg hc421, if_neg hc439, if_pos hc454]), N478, K479, (by rw [(show F_step_a0_depth p2 w_a0_straight w_a0_depth s_a1_0 s_a1_1 = v388 from by simp only [F_step_a0_depth, hv_v388, hv_v389, hv_d483, hv_d489, if_neg hc421, if_neg hc439, if_pos hc454])]; exact f476), (by rw [(show F_step_a0_straight p2 w_a0_straight w_a0_depth s_a1_0 s_a1_1 = v389 from by simp only [F_step_a0_straight, hv_v388, hv_v389, hv_d483, hv_d489, if_neg hc421, if_neg hc439, if_pos hc454])]; exact f477), (by rw [(show F_step_a1_0 p2 w_a0_straight w_a0_depth s_a1_0 s_a1_1 = s_a1_0 from by simp only [F_step_a1_0, hv_v388, hv_v389, hv_d483, hv_d489, if_neg hc421, if_neg hc439, if_pos hc454]), (show F_step_a1_1 p2 w_a0_straight w_a0_depth s_a1_0 s_a1_1 = (s_a1_1 + (1 : Int32)) from by simp only [F_step_a1_1, hv_v388, hv_v389, hv_d483, hv_d489, if_neg hc421, if_neg hc439, if_pos hc454])]; exact f474)⟩)
          refine k_icmp_ne K X486 d4_82 (by decide) (q := 89) rfl (q' := 85) rfl ?_ ?_
          · intro hc491
            refine k_iconst K X486 d4_89 (v := (0 : Int32)) rfl (q := 90) rfl ?_
            exact J490 _ (by first | rfl | (simp only [if_neg hc491]))
          · intro hc491
            refine k_iconst K X486 d4_85 (v := (1 : Int32)) rfl (q := 86) rfl ?_
            refine k_goto K X486 d4_86 (by decide) (q := 90) rfl ?_
            exact J490 _ (by first | rfl | (simp only [if_pos hc491]))
        refine k_if_gt K X470 d4_59 (by decide) (q := 71) rfl (q' := 62) rfl ?_ ?_
        · intro hc492
          refine k_iconst K X470 d4_71 (v := (1 : Int32)) rfl (q := 72) rfl ?_
          refine k_goto K X470 d4_72 (by decide) (q := 76) rfl ?_
          exact J484 _ (by first | rfl | (simp only [if_pos hc492]))
        · intro hc492
          refine k_aloadN K X470 d4_62 rfl rfl (q := 63) rfl ?_
          refine k_iconst K X470 d4_63 (v := (1 : Int32)) rfl (q := 64) rfl ?_
          refine k_iaload K X470 e471 d4_64 f474 (i := 1) (v := (.int (s_a1_1 + (1 : Int32)))) (by decide) (by decide) rfl (q := 65) rfl ?_
          refine k_iconst K X470 d4_65 (v := (1 : Int32)) rfl (q := 66) rfl ?_
          refine k_iand K X470 d4_66 (q := 67) rfl ?_
          refine k_iconst K X470 d4_67 (v := (1 : Int32)) rfl (q := 68) rfl ?_
          refine k_icmp_ne K X470 d4_68 (by decide) (q := 75) rfl (q' := 71) rfl ?_ ?_
          · intro hc493
            refine k_iconst K X470 d4_75 (v := (0 : Int32)) rfl (q := 76) rfl ?_
            exact J484 _ (by first | rfl | (simp only [if_neg hc492, if_neg hc493]))
          · intro hc493
            refine k_iconst K X470 d4_71 (v := (1 : Int32)) rfl (q := 72) rfl ?_
            refine k_goto K X470 d4_72 (by decide) (q := 76) rfl ?_
            exact J484 _ (by first | rfl | (simp only [if_neg hc492, if_pos hc493]))
    · intro hc439
      refine k_aloadN K X377 d4_30 rfl rfl (q := 31) rfl ?_
      refine k_iconst K X377 d4_31 (v := (0 : Int32)) rfl (q := 32) rfl ?_
      refine k_aloadN K X377 d4_32 rfl rfl (q := 33) rfl ?_
      refine k_iconst K X377 d4_33 (v := (0 : Int32)) rfl (q := 34) rfl ?_
      refine k_iaload K X377 rfl d4_34 f384 (i := 0) (v := (.int s_a1_0)) (by decide) (by decide) rfl (q := 35) rfl ?_
      refine k_iconst K X377 d4_35 (v := (1 : Int32)) rfl (q := 36) rfl ?_
      refine k_isub K X377 d4_36 (q := 37) rfl ?_
      refine k_iconst K X377 d4_37 (v := (0 : Int32)) rfl (q := 38) rfl ?_
      refine k_staticP K X377 rfl d4_38 (wd hw 31 rfl) (wd hw 32 rfl) (wd hw 33 rfl) (wd hw 34 rfl) (by decide) (rm7 l Z az hw [] (s_a1_0 - (1 : Int32)) (0 : Int32) T375.heap) (W := 2) (by decide) (by decide) (by decide) (by decide) rfl pd_1 (argsL := [(.int (s_a1_0 - (1 : Int32))), (.int (0 : Int32))]) (rest := [(.int (0 : Int32)), (.ref a1)]) rfl rfl rfl (Nat.le_of_eq rfl) (q := 41) rfl ?_
      intro T494 X495 e496
      refine k_iastore K X495 e496 d4_41 f384 (i := 0) (by decide) (by decide) (q := 42) rfl ?_
      intro T497 h498 X499 e500 W501 A502
      have f503 : Ary Z h498 a1 .int 2 (fun i => Value.int (List.getD [(F_max (s_a1_0 - (1 : Int32)) (0 : Int32)), s_a1_1] i 0)) := Ary.eqv A502 (by intro i hi; match i, hi with | 0, _ => rfl | 1, _ => rfl | (k + 2), hi => exact absurd hi (by omega))
      have f504 := Exa.wr W501 f383
      have f505 := Fld.other W501 f381 (Or.inl (Ne.symm ne_a1_a0))
      have f506 := Fld.other W501 f382 (Or.inl (Ne.symm ne_a1_a0))
      have N507 := Fr.snoc X499 N385 g_a1
      have K508 := Keep.wr K386 W501 (Or.inl (List.mem_of_getElem? (i := 1) rfl))
      have Z509 := Nat.le_trans Z387 (Nat.le_of_eq (Wr.size W501).symm)
      refine k_iloadN K X499 d4_42 rfl (q := 43) rfl ?_
      refine k_bipush K X499 d4_43 (v := (34 : Int32)) rfl (q := 45) rfl ?_
      refine k_icmp_ne K X499 d4_45 (by decide) (q := 56) rfl (q' := 48) rfl ?_ ?_
      · intro hc524
        refine k_aloadN K X499 d4_56 rfl rfl (q := 57) rfl ?_
        refine k_iconst K X499 d4_57 (v := (0 : Int32)) rfl (q := 58) rfl ?_
        refine k_iaload K X499 e500 d4_58 f503 (i := 0) (v := (.int (F_max (s_a1_0 - (1 : Int32)) (0 : Int32)))) (by decide) (by decide) rfl (q := 59) rfl ?_
        obtain ⟨v525, hv_v525⟩ : ∃ z : Int32, (F_max (s_a1_0 - (1 : Int32)) (0 : Int32)) = z := ⟨_, rfl⟩
        refine k_nameI hv_v525 ?_
        have J529 : ∀ (d528 : Int32), (if (0 : Int32) < v525 then (1 : Int32) else (if (s_a1_1 &&& (1 : Int32)) = (1 : Int32) then (1 : Int32) else (0 : Int32))) = d528 → Run p e below s kc kn Q T497 (mkF m 76 #[.val (.ref a0), .val (.ref a1), .val (.int p2), .unset] [(.int d528)]) := by
          intro d528 hv_d528
          refine k_istoreN K X499 d4_76 rfl (Ls' := #[.val (.ref a0), .val (.ref a1), .val (.int p2), .val (.int d528)]) rfl (q := 77) rfl ?_
          refine k_aloadN K X499 d4_77 rfl rfl (q := 78) rfl ?_
          refine k_virtualP K X499 e500 d4_78 (wd hw 24 rfl) (wd hw 25 rfl) (wd hw 27 rfl) (wd hw 26 rfl) (wd hw 7 rfl) (wd hw 28 rfl) (by decide) f504 (rm6 l Z az hw [] a0 v388 v389 h498 f505 f506) (W := 0) (by decide) (by decide) (by decide) (by decide) rfl pd_2 (argsL := []) (rest := []) rfl rfl rfl (Nat.le_of_eq rfl) (q := 81) rfl ?_
          intro T530 X531 e532
          refine k_iloadN K X531 d4_81 rfl (q := 82) rfl ?_
          have J535 : ∀ (d534 : Int32), (if (F_inside v388 v389) = d528 then (1 : Int32) else (0 : Int32)) = d534 → Run p e below s kc kn Q T530 (mkF m 90 #[.val (.ref a0), .val (.ref a1), .val (.int p2), .val (.int d528)] [(.int d534)]) := by
            intro d534 hv_d534
            exact k_retz K X531 e532 d4_90 (Nat.le_trans (by decide) hkc) (Nat.le_trans (by decide) hkn) (hQ _ _ _ ⟨(by show some (Value.int (nar .boolean d534)) = some (Value.int (F_step p2 w_a0_straight w_a0_depth s_a1_0 s_a1_1)); simp only [F_step, hv_v388, hv_v389, hv_v525, hv_d528, hv_d534, if_neg hc421, if_pos hc439, if_neg hc524]), N507, K508, (by rw [(show F_step_a0_depth p2 w_a0_straight w_a0_depth s_a1_0 s_a1_1 = v388 from by simp only [F_step_a0_depth, hv_v388, hv_v389, hv_v525, hv_d528, hv_d534, if_neg hc421, if_pos hc439, if_neg hc524])]; exact f505), (by rw [(show F_step_a0_straight p2 w_a0_straight w_a0_depth s_a1_0 s_a1_1 = v389 from by simp only [F_step_a0_straight, hv_v388, hv_v389, hv_v525, hv_d528, hv_d534, if_neg hc421, if_pos hc439, if_neg hc524])]; exact f506), (by rw [(show F_step_a1_0 p2 w_a0_straight w_a0_depth s_a1_0 s_a1_1 = (F_max (s_a1_0 - (1 : Int32)) (0 : Int32)) from by simp only [F_step_a1_0, hv_v388, hv_v389, hv_v525, hv_d528, hv_d534, if_neg hc421, if_pos hc439, if_neg hc524]), (show F_step_a1_1 p2 w_a0_straight w_a0_depth s_a1_0 s_a1_1 = s_a1_1 from by simp only [F_step_a1_1, hv_v388, hv_v389, hv_v525, hv_d528, hv_d534, if_neg hc421, if_pos hc439, if_neg hc524])]; exact f503)⟩)
          refine k_icmp_ne K X531 d4_82 (by decide) (q := 89) rfl (q' := 85) rfl ?_ ?_
          · intro hc536
            refine k_iconst K X531 d4_89 (v := (0 : Int32)) rfl (q := 90) rfl ?_
            exact J535 _ (by first | rfl | (simp only [if_neg hc536]))
          · intro hc536
            refine k_iconst K X531 d4_85 (v := (1 : Int32)) rfl (q := 86) rfl ?_
            refine k_goto K X531 d4_86 (by decide) (q := 90) rfl ?_
            exact J535 _ (by first | rfl | (simp only [if_pos hc536]))
        refine k_if_gt K X499 d4_59 (by decide) (q := 71) rfl (q' := 62) rfl ?_ ?_
        · intro hc537
          refine k_iconst K X499 d4_71 (v := (1 : Int32)) rfl (q := 72) rfl ?_
          refine k_goto K X499 d4_72 (by decide) (q := 76) rfl ?_
          exact J529 _ (by first | rfl | (simp only [if_pos hc537]))
        · intro hc537
          refine k_aloadN K X499 d4_62 rfl rfl (q := 63) rfl ?_
          refine k_iconst K X499 d4_63 (v := (1 : Int32)) rfl (q := 64) rfl ?_
          refine k_iaload K X499 e500 d4_64 f503 (i := 1) (v := (.int s_a1_1)) (by decide) (by decide) rfl (q := 65) rfl ?_
          refine k_iconst K X499 d4_65 (v := (1 : Int32)) rfl (q := 66) rfl ?_
          refine k_iand K X499 d4_66 (q := 67) rfl ?_
          refine k_iconst K X499 d4_67 (v := (1 : Int32)) rfl (q := 68) rfl ?_
          refine k_icmp_ne K X499 d4_68 (by decide) (q := 75) rfl (q' := 71) rfl ?_ ?_
          · intro hc538
            refine k_iconst K X499 d4_75 (v := (0 : Int32)) rfl (q := 76) rfl ?_
            exact J529 _ (by first | rfl | (simp only [if_neg hc537, if_neg hc538]))
          · intro hc538
            refine k_iconst K X499 d4_71 (v := (1 : Int32)) rfl (q := 72) rfl ?_
            refine k_goto K X499 d4_72 (by decide) (q := 76) rfl ?_
            exact J529 _ (by first | rfl | (simp only [if_neg hc537, if_pos hc538]))
      · intro hc524
        refine k_aloadN K X499 d4_48 rfl rfl (q := 49) rfl ?_
        refine k_iconst K X499 d4_49 (v := (1 : Int32)) rfl (q := 50) rfl ?_
        refine k_aloadN K X499 d4_50 rfl rfl (q := 51) rfl ?_
        refine k_iconst K X499 d4_51 (v := (1 : Int32)) rfl (q := 52) rfl ?_
        refine k_iaload K X499 e500 d4_52 f503 (i := 1) (v := (.int s_a1_1)) (by decide) (by decide) rfl (q := 53) rfl ?_
        refine k_iconst K X499 d4_53 (v := (1 : Int32)) rfl (q := 54) rfl ?_
        refine k_iadd K X499 d4_54 (q := 55) rfl ?_
        refine k_iastore K X499 e500 d4_55 f503 (i := 1) (by decide) (by decide) (q := 56) rfl ?_
        intro T539 h540 X541 e542 W543 A544
        have f545 : Ary Z h540 a1 .int 2 (fun i => Value.int (List.getD [(F_max (s_a1_0 - (1 : Int32)) (0 : Int32)), (s_a1_1 + (1 : Int32))] i 0)) := Ary.eqv A544 (by intro i hi; match i, hi with | 0, _ => rfl | 1, _ => rfl | (k + 2), hi => exact absurd hi (by omega))
        have f546 := Exa.wr W543 f504
        have f547 := Fld.other W543 f505 (Or.inl (Ne.symm ne_a1_a0))
        have f548 := Fld.other W543 f506 (Or.inl (Ne.symm ne_a1_a0))
        have N549 := Fr.snoc X541 N507 g_a1
        have K550 := Keep.wr K508 W543 (Or.inl (List.mem_of_getElem? (i := 1) rfl))
        have Z551 := Nat.le_trans Z509 (Nat.le_of_eq (Wr.size W543).symm)
        refine k_aloadN K X541 d4_56 rfl rfl (q := 57) rfl ?_
        refine k_iconst K X541 d4_57 (v := (0 : Int32)) rfl (q := 58) rfl ?_
        refine k_iaload K X541 e542 d4_58 f545 (i := 0) (v := (.int (F_max (s_a1_0 - (1 : Int32)) (0 : Int32)))) (by decide) (by decide) rfl (q := 59) rfl ?_
        obtain ⟨v552, hv_v552⟩ : ∃ z : Int32, (F_max (s_a1_0 - (1 : Int32)) (0 : Int32)) = z := ⟨_, rfl⟩
        refine k_nameI hv_v552 ?_
        have J556 : ∀ (d555 : Int32), (if (0 : Int32) < v552 then (1 : Int32) else (if ((s_a1_1 + (1 : Int32)) &&& (1 : Int32)) = (1 : Int32) then (1 : Int32) else (0 : Int32))) = d555 → Run p e below s kc kn Q T539 (mkF m 76 #[.val (.ref a0), .val (.ref a1), .val (.int p2), .unset] [(.int d555)]) := by
          intro d555 hv_d555
          refine k_istoreN K X541 d4_76 rfl (Ls' := #[.val (.ref a0), .val (.ref a1), .val (.int p2), .val (.int d555)]) rfl (q := 77) rfl ?_
          refine k_aloadN K X541 d4_77 rfl rfl (q := 78) rfl ?_
          refine k_virtualP K X541 e542 d4_78 (wd hw 24 rfl) (wd hw 25 rfl) (wd hw 27 rfl) (wd hw 26 rfl) (wd hw 7 rfl) (wd hw 28 rfl) (by decide) f546 (rm6 l Z az hw [] a0 v388 v389 h540 f547 f548) (W := 0) (by decide) (by decide) (by decide) (by decide) rfl pd_2 (argsL := []) (rest := []) rfl rfl rfl (Nat.le_of_eq rfl) (q := 81) rfl ?_
          intro T557 X558 e559
          refine k_iloadN K X558 d4_81 rfl (q := 82) rfl ?_
          have J562 : ∀ (d561 : Int32), (if (F_inside v388 v389) = d555 then (1 : Int32) else (0 : Int32)) = d561 → Run p e below s kc kn Q T557 (mkF m 90 #[.val (.ref a0), .val (.ref a1), .val (.int p2), .val (.int d555)] [(.int d561)]) := by
            intro d561 hv_d561
            exact k_retz K X558 e559 d4_90 (Nat.le_trans (by decide) hkc) (Nat.le_trans (by decide) hkn) (hQ _ _ _ ⟨(by show some (Value.int (nar .boolean d561)) = some (Value.int (F_step p2 w_a0_straight w_a0_depth s_a1_0 s_a1_1)); simp only [F_step, hv_v388, hv_v389, hv_v552, hv_d555, hv_d561, if_neg hc421, if_pos hc439, if_pos hc524]), N549, K550, (by rw [(show F_step_a0_depth p2 w_a0_straight w_a0_depth s_a1_0 s_a1_1 = v388 from by simp only [F_step_a0_depth, hv_v388, hv_v389, hv_v552, hv_d555, hv_d561, if_neg hc421, if_pos hc439, if_pos hc524])]; exact f547), (by rw [(show F_step_a0_straight p2 w_a0_straight w_a0_depth s_a1_0 s_a1_1 = v389 from by simp only [F_step_a0_straight, hv_v388, hv_v389, hv_v552, hv_d555, hv_d561, if_neg hc421, if_pos hc439, if_pos hc524])]; exact f548), (by rw [(show F_step_a1_0 p2 w_a0_straight w_a0_depth s_a1_0 s_a1_1 = (F_max (s_a1_0 - (1 : Int32)) (0 : Int32)) from by simp only [F_step_a1_0, hv_v388, hv_v389, hv_v552, hv_d555, hv_d561, if_neg hc421, if_pos hc439, if_pos hc524]), (show F_step_a1_1 p2 w_a0_straight w_a0_depth s_a1_0 s_a1_1 = (s_a1_1 + (1 : Int32)) from by simp only [F_step_a1_1, hv_v388, hv_v389, hv_v552, hv_d555, hv_d561, if_neg hc421, if_pos hc439, if_pos hc524])]; exact f545)⟩)
          refine k_icmp_ne K X558 d4_82 (by decide) (q := 89) rfl (q' := 85) rfl ?_ ?_
          · intro hc563
            refine k_iconst K X558 d4_89 (v := (0 : Int32)) rfl (q := 90) rfl ?_
            exact J562 _ (by first | rfl | (simp only [if_neg hc563]))
          · intro hc563
            refine k_iconst K X558 d4_85 (v := (1 : Int32)) rfl (q := 86) rfl ?_
            refine k_goto K X558 d4_86 (by decide) (q := 90) rfl ?_
            exact J562 _ (by first | rfl | (simp only [if_pos hc563]))
        refine k_if_gt K X541 d4_59 (by decide) (q := 71) rfl (q' := 62) rfl ?_ ?_
        · intro hc564
          refine k_iconst K X541 d4_71 (v := (1 : Int32)) rfl (q := 72) rfl ?_
          refine k_goto K X541 d4_72 (by decide) (q := 76) rfl ?_
          exact J556 _ (by first | rfl | (simp only [if_pos hc564]))
        · intro hc564
          refine k_aloadN K X541 d4_62 rfl rfl (q := 63) rfl ?_
          refine k_iconst K X541 d4_63 (v := (1 : Int32)) rfl (q := 64) rfl ?_
          refine k_iaload K X541 e542 d4_64 f545 (i := 1) (v := (.int (s_a1_1 + (1 : Int32)))) (by decide) (by decide) rfl (q := 65) rfl ?_
          refine k_iconst K X541 d4_65 (v := (1 : Int32)) rfl (q := 66) rfl ?_
          refine k_iand K X541 d4_66 (q := 67) rfl ?_
          refine k_iconst K X541 d4_67 (v := (1 : Int32)) rfl (q := 68) rfl ?_
          refine k_icmp_ne K X541 d4_68 (by decide) (q := 75) rfl (q' := 71) rfl ?_ ?_
          · intro hc565
            refine k_iconst K X541 d4_75 (v := (0 : Int32)) rfl (q := 76) rfl ?_
            exact J556 _ (by first | rfl | (simp only [if_neg hc564, if_neg hc565]))
          · intro hc565
            refine k_iconst K X541 d4_71 (v := (1 : Int32)) rfl (q := 72) rfl ?_
            refine k_goto K X541 d4_72 (by decide) (q := 76) rfl ?_
            exact J556 _ (by first | rfl | (simp only [if_neg hc564, if_pos hc565]))
  · intro hc421
    refine k_aloadN K X377 d4_12 rfl rfl (q := 13) rfl ?_
    refine k_iconst K X377 d4_13 (v := (0 : Int32)) rfl (q := 14) rfl ?_
    refine k_aloadN K X377 d4_14 rfl rfl (q := 15) rfl ?_
    refine k_iconst K X377 d4_15 (v := (0 : Int32)) rfl (q := 16) rfl ?_
    refine k_iaload K X377 rfl d4_16 f384 (i := 0) (v := (.int s_a1_0)) (by decide) (by decide) rfl (q := 17) rfl ?_
    refine k_iconst K X377 d4_17 (v := (1 : Int32)) rfl (q := 18) rfl ?_
    refine k_iadd K X377 d4_18 (q := 19) rfl ?_
    refine k_iastore K X377 rfl d4_19 f384 (i := 0) (by decide) (by decide) (q := 20) rfl ?_
    intro T566 h567 X568 e569 W570 A571
    have f572 : Ary Z h567 a1 .int 2 (fun i => Value.int (List.getD [(s_a1_0 + (1 : Int32)), s_a1_1] i 0)) := Ary.eqv A571 (by intro i hi; match i, hi with | 0, _ => rfl | 1, _ => rfl | (k + 2), hi => exact absurd hi (by omega))
    have f573 := Exa.wr W570 f383
    have f574 := Fld.other W570 f381 (Or.inl (Ne.symm ne_a1_a0))
    have f575 := Fld.other W570 f382 (Or.inl (Ne.symm ne_a1_a0))
    have N576 := Fr.snoc X568 N385 g_a1
    have K577 := Keep.wr K386 W570 (Or.inl (List.mem_of_getElem? (i := 1) rfl))
    have Z578 := Nat.le_trans Z387 (Nat.le_of_eq (Wr.size W570).symm)
    refine k_goto K X568 d4_20 (by decide) (q := 42) rfl ?_
    refine k_iloadN K X568 d4_42 rfl (q := 43) rfl ?_
    refine k_bipush K X568 d4_43 (v := (34 : Int32)) rfl (q := 45) rfl ?_
    refine k_icmp_ne K X568 d4_45 (by decide) (q := 56) rfl (q' := 48) rfl ?_ ?_
    · intro hc593
      refine k_aloadN K X568 d4_56 rfl rfl (q := 57) rfl ?_
      refine k_iconst K X568 d4_57 (v := (0 : Int32)) rfl (q := 58) rfl ?_
      refine k_iaload K X568 e569 d4_58 f572 (i := 0) (v := (.int (s_a1_0 + (1 : Int32)))) (by decide) (by decide) rfl (q := 59) rfl ?_
      obtain ⟨v594, hv_v594⟩ : ∃ z : Int32, (s_a1_0 + (1 : Int32)) = z := ⟨_, rfl⟩
      refine k_nameI hv_v594 ?_
      have J598 : ∀ (d597 : Int32), (if (0 : Int32) < v594 then (1 : Int32) else (if (s_a1_1 &&& (1 : Int32)) = (1 : Int32) then (1 : Int32) else (0 : Int32))) = d597 → Run p e below s kc kn Q T566 (mkF m 76 #[.val (.ref a0), .val (.ref a1), .val (.int p2), .unset] [(.int d597)]) := by
        intro d597 hv_d597
        refine k_istoreN K X568 d4_76 rfl (Ls' := #[.val (.ref a0), .val (.ref a1), .val (.int p2), .val (.int d597)]) rfl (q := 77) rfl ?_
        refine k_aloadN K X568 d4_77 rfl rfl (q := 78) rfl ?_
        refine k_virtualP K X568 e569 d4_78 (wd hw 24 rfl) (wd hw 25 rfl) (wd hw 27 rfl) (wd hw 26 rfl) (wd hw 7 rfl) (wd hw 28 rfl) (by decide) f573 (rm6 l Z az hw [] a0 v388 v389 h567 f574 f575) (W := 0) (by decide) (by decide) (by decide) (by decide) rfl pd_2 (argsL := []) (rest := []) rfl rfl rfl (Nat.le_of_eq rfl) (q := 81) rfl ?_
        intro T599 X600 e601
        refine k_iloadN K X600 d4_81 rfl (q := 82) rfl ?_
        have J604 : ∀ (d603 : Int32), (if (F_inside v388 v389) = d597 then (1 : Int32) else (0 : Int32)) = d603 → Run p e below s kc kn Q T599 (mkF m 90 #[.val (.ref a0), .val (.ref a1), .val (.int p2), .val (.int d597)] [(.int d603)]) := by
          intro d603 hv_d603
          exact k_retz K X600 e601 d4_90 (Nat.le_trans (by decide) hkc) (Nat.le_trans (by decide) hkn) (hQ _ _ _ ⟨(by show some (Value.int (nar .boolean d603)) = some (Value.int (F_step p2 w_a0_straight w_a0_depth s_a1_0 s_a1_1)); simp only [F_step, hv_v388, hv_v389, hv_v594, hv_d597, hv_d603, if_pos hc421, if_neg hc593]), N576, K577, (by rw [(show F_step_a0_depth p2 w_a0_straight w_a0_depth s_a1_0 s_a1_1 = v388 from by simp only [F_step_a0_depth, hv_v388, hv_v389, hv_v594, hv_d597, hv_d603, if_pos hc421, if_neg hc593])]; exact f574), (by rw [(show F_step_a0_straight p2 w_a0_straight w_a0_depth s_a1_0 s_a1_1 = v389 from by simp only [F_step_a0_straight, hv_v388, hv_v389, hv_v594, hv_d597, hv_d603, if_pos hc421, if_neg hc593])]; exact f575), (by rw [(show F_step_a1_0 p2 w_a0_straight w_a0_depth s_a1_0 s_a1_1 = (s_a1_0 + (1 : Int32)) from by simp only [F_step_a1_0, hv_v388, hv_v389, hv_v594, hv_d597, hv_d603, if_pos hc421, if_neg hc593]), (show F_step_a1_1 p2 w_a0_straight w_a0_depth s_a1_0 s_a1_1 = s_a1_1 from by simp only [F_step_a1_1, hv_v388, hv_v389, hv_v594, hv_d597, hv_d603, if_pos hc421, if_neg hc593])]; exact f572)⟩)
        refine k_icmp_ne K X600 d4_82 (by decide) (q := 89) rfl (q' := 85) rfl ?_ ?_
        · intro hc605
          refine k_iconst K X600 d4_89 (v := (0 : Int32)) rfl (q := 90) rfl ?_
          exact J604 _ (by first | rfl | (simp only [if_neg hc605]))
        · intro hc605
          refine k_iconst K X600 d4_85 (v := (1 : Int32)) rfl (q := 86) rfl ?_
          refine k_goto K X600 d4_86 (by decide) (q := 90) rfl ?_
          exact J604 _ (by first | rfl | (simp only [if_pos hc605]))
      refine k_if_gt K X568 d4_59 (by decide) (q := 71) rfl (q' := 62) rfl ?_ ?_
      · intro hc606
        refine k_iconst K X568 d4_71 (v := (1 : Int32)) rfl (q := 72) rfl ?_
        refine k_goto K X568 d4_72 (by decide) (q := 76) rfl ?_
        exact J598 _ (by first | rfl | (simp only [if_pos hc606]))
      · intro hc606
        refine k_aloadN K X568 d4_62 rfl rfl (q := 63) rfl ?_
        refine k_iconst K X568 d4_63 (v := (1 : Int32)) rfl (q := 64) rfl ?_
        refine k_iaload K X568 e569 d4_64 f572 (i := 1) (v := (.int s_a1_1)) (by decide) (by decide) rfl (q := 65) rfl ?_
        refine k_iconst K X568 d4_65 (v := (1 : Int32)) rfl (q := 66) rfl ?_
        refine k_iand K X568 d4_66 (q := 67) rfl ?_
        refine k_iconst K X568 d4_67 (v := (1 : Int32)) rfl (q := 68) rfl ?_
        refine k_icmp_ne K X568 d4_68 (by decide) (q := 75) rfl (q' := 71) rfl ?_ ?_
        · intro hc607
          refine k_iconst K X568 d4_75 (v := (0 : Int32)) rfl (q := 76) rfl ?_
          exact J598 _ (by first | rfl | (simp only [if_neg hc606, if_neg hc607]))
        · intro hc607
          refine k_iconst K X568 d4_71 (v := (1 : Int32)) rfl (q := 72) rfl ?_
          refine k_goto K X568 d4_72 (by decide) (q := 76) rfl ?_
          exact J598 _ (by first | rfl | (simp only [if_neg hc606, if_pos hc607]))
    · intro hc593
      refine k_aloadN K X568 d4_48 rfl rfl (q := 49) rfl ?_
      refine k_iconst K X568 d4_49 (v := (1 : Int32)) rfl (q := 50) rfl ?_
      refine k_aloadN K X568 d4_50 rfl rfl (q := 51) rfl ?_
      refine k_iconst K X568 d4_51 (v := (1 : Int32)) rfl (q := 52) rfl ?_
      refine k_iaload K X568 e569 d4_52 f572 (i := 1) (v := (.int s_a1_1)) (by decide) (by decide) rfl (q := 53) rfl ?_
      refine k_iconst K X568 d4_53 (v := (1 : Int32)) rfl (q := 54) rfl ?_
      refine k_iadd K X568 d4_54 (q := 55) rfl ?_
      refine k_iastore K X568 e569 d4_55 f572 (i := 1) (by decide) (by decide) (q := 56) rfl ?_
      intro T608 h609 X610 e611 W612 A613
      have f614 : Ary Z h609 a1 .int 2 (fun i => Value.int (List.getD [(s_a1_0 + (1 : Int32)), (s_a1_1 + (1 : Int32))] i 0)) := Ary.eqv A613 (by intro i hi; match i, hi with | 0, _ => rfl | 1, _ => rfl | (k + 2), hi => exact absurd hi (by omega))
      have f615 := Exa.wr W612 f573
      have f616 := Fld.other W612 f574 (Or.inl (Ne.symm ne_a1_a0))
      have f617 := Fld.other W612 f575 (Or.inl (Ne.symm ne_a1_a0))
      have N618 := Fr.snoc X610 N576 g_a1
      have K619 := Keep.wr K577 W612 (Or.inl (List.mem_of_getElem? (i := 1) rfl))
      have Z620 := Nat.le_trans Z578 (Nat.le_of_eq (Wr.size W612).symm)
      refine k_aloadN K X610 d4_56 rfl rfl (q := 57) rfl ?_
      refine k_iconst K X610 d4_57 (v := (0 : Int32)) rfl (q := 58) rfl ?_
      refine k_iaload K X610 e611 d4_58 f614 (i := 0) (v := (.int (s_a1_0 + (1 : Int32)))) (by decide) (by decide) rfl (q := 59) rfl ?_
      obtain ⟨v621, hv_v621⟩ : ∃ z : Int32, (s_a1_0 + (1 : Int32)) = z := ⟨_, rfl⟩
      refine k_nameI hv_v621 ?_
      have J625 : ∀ (d624 : Int32), (if (0 : Int32) < v621 then (1 : Int32) else (if ((s_a1_1 + (1 : Int32)) &&& (1 : Int32)) = (1 : Int32) then (1 : Int32) else (0 : Int32))) = d624 → Run p e below s kc kn Q T608 (mkF m 76 #[.val (.ref a0), .val (.ref a1), .val (.int p2), .unset] [(.int d624)]) := by
        intro d624 hv_d624
        refine k_istoreN K X610 d4_76 rfl (Ls' := #[.val (.ref a0), .val (.ref a1), .val (.int p2), .val (.int d624)]) rfl (q := 77) rfl ?_
        refine k_aloadN K X610 d4_77 rfl rfl (q := 78) rfl ?_
        refine k_virtualP K X610 e611 d4_78 (wd hw 24 rfl) (wd hw 25 rfl) (wd hw 27 rfl) (wd hw 26 rfl) (wd hw 7 rfl) (wd hw 28 rfl) (by decide) f615 (rm6 l Z az hw [] a0 v388 v389 h609 f616 f617) (W := 0) (by decide) (by decide) (by decide) (by decide) rfl pd_2 (argsL := []) (rest := []) rfl rfl rfl (Nat.le_of_eq rfl) (q := 81) rfl ?_
        intro T626 X627 e628
        refine k_iloadN K X627 d4_81 rfl (q := 82) rfl ?_
        have J631 : ∀ (d630 : Int32), (if (F_inside v388 v389) = d624 then (1 : Int32) else (0 : Int32)) = d630 → Run p e below s kc kn Q T626 (mkF m 90 #[.val (.ref a0), .val (.ref a1), .val (.int p2), .val (.int d624)] [(.int d630)]) := by
          intro d630 hv_d630
          exact k_retz K X627 e628 d4_90 (Nat.le_trans (by decide) hkc) (Nat.le_trans (by decide) hkn) (hQ _ _ _ ⟨(by show some (Value.int (nar .boolean d630)) = some (Value.int (F_step p2 w_a0_straight w_a0_depth s_a1_0 s_a1_1)); simp only [F_step, hv_v388, hv_v389, hv_v621, hv_d624, hv_d630, if_pos hc421, if_pos hc593]), N618, K619, (by rw [(show F_step_a0_depth p2 w_a0_straight w_a0_depth s_a1_0 s_a1_1 = v388 from by simp only [F_step_a0_depth, hv_v388, hv_v389, hv_v621, hv_d624, hv_d630, if_pos hc421, if_pos hc593])]; exact f616), (by rw [(show F_step_a0_straight p2 w_a0_straight w_a0_depth s_a1_0 s_a1_1 = v389 from by simp only [F_step_a0_straight, hv_v388, hv_v389, hv_v621, hv_d624, hv_d630, if_pos hc421, if_pos hc593])]; exact f617), (by rw [(show F_step_a1_0 p2 w_a0_straight w_a0_depth s_a1_0 s_a1_1 = (s_a1_0 + (1 : Int32)) from by simp only [F_step_a1_0, hv_v388, hv_v389, hv_v621, hv_d624, hv_d630, if_pos hc421, if_pos hc593]), (show F_step_a1_1 p2 w_a0_straight w_a0_depth s_a1_0 s_a1_1 = (s_a1_1 + (1 : Int32)) from by simp only [F_step_a1_1, hv_v388, hv_v389, hv_v621, hv_d624, hv_d630, if_pos hc421, if_pos hc593])]; exact f614)⟩)
        refine k_icmp_ne K X627 d4_82 (by decide) (q := 89) rfl (q' := 85) rfl ?_ ?_
        · intro hc632
          refine k_iconst K X627 d4_89 (v := (0 : Int32)) rfl (q := 90) rfl ?_
          exact J631 _ (by first | rfl | (simp only [if_neg hc632]))
        · intro hc632
          refine k_iconst K X627 d4_85 (v := (1 : Int32)) rfl (q := 86) rfl ?_
          refine k_goto K X627 d4_86 (by decide) (q := 90) rfl ?_
          exact J631 _ (by first | rfl | (simp only [if_pos hc632]))
      refine k_if_gt K X610 d4_59 (by decide) (q := 71) rfl (q' := 62) rfl ?_ ?_
      · intro hc633
        refine k_iconst K X610 d4_71 (v := (1 : Int32)) rfl (q := 72) rfl ?_
        refine k_goto K X610 d4_72 (by decide) (q := 76) rfl ?_
        exact J625 _ (by first | rfl | (simp only [if_pos hc633]))
      · intro hc633
        refine k_aloadN K X610 d4_62 rfl rfl (q := 63) rfl ?_
        refine k_iconst K X610 d4_63 (v := (1 : Int32)) rfl (q := 64) rfl ?_
        refine k_iaload K X610 e611 d4_64 f614 (i := 1) (v := (.int (s_a1_1 + (1 : Int32)))) (by decide) (by decide) rfl (q := 65) rfl ?_
        refine k_iconst K X610 d4_65 (v := (1 : Int32)) rfl (q := 66) rfl ?_
        refine k_iand K X610 d4_66 (q := 67) rfl ?_
        refine k_iconst K X610 d4_67 (v := (1 : Int32)) rfl (q := 68) rfl ?_
        refine k_icmp_ne K X610 d4_68 (by decide) (q := 75) rfl (q' := 71) rfl ?_ ?_
        · intro hc634
          refine k_iconst K X610 d4_75 (v := (0 : Int32)) rfl (q := 76) rfl ?_
          exact J625 _ (by first | rfl | (simp only [if_neg hc633, if_neg hc634]))
        · intro hc634
          refine k_iconst K X610 d4_71 (v := (1 : Int32)) rfl (q := 72) rfl ?_
          refine k_goto K X610 d4_72 (by decide) (q := 76) rfl ?_
          exact J625 _ (by first | rfl | (simp only [if_neg hc633, if_pos hc634]))
theorem pd_3 : parseMethodDescriptor "(I)C" = some ⟨[.int], some .char⟩ := by decide +kernel
theorem pd_4 : parseMethodDescriptor "()V" = some ⟨[], none⟩ := by decide +kernel
theorem pd_5 : parseMethodDescriptor "(Lcom/example/wherefore/wherefore/instrument/Quotation;[IC)Z" = some ⟨[(.object "com/example/wherefore/wherefore/instrument/Quotation"), (.array .int), .char], some .boolean⟩ := by decide +kernel
theorem ef_0 (p0 : Int32) (p1 : Int32) (p2 : Int32) (p3 : Int32) (p4 : Int32) : ∀ m : MethodId, entryFrame m #[(.int p0), (.int p1), (.int p2), (.int p3), (.int p4)] maxLocals = mkF m 0 #[.val (.int p0), .val (.int p1), .val (.int p2), .val (.int p3), .val (.int p4), .unset, .unset, .unset, .unset, .unset, .unset, .unset, .unset] [] := by intro m; first | (simp [entryFrame, mkF, argsToLocals, Value.category, maxLocals]; done) | rfl
def F_law (p0 : Int32) (p1 : Int32) (p2 : Int32) (p3 : Int32) (p4 : Int32) : Int32 :=
  let v638 : Int32 := (F_pick p0)
  let v642 : Int32 := (F_pick p1)
  let v646 : Int32 := (F_pick p2)
  let v650 : Int32 := (F_pick p3)
  let v654 : Int32 := (F_pick p4)
  let v701 : Int32 := (F_step_a0_depth v638 (0 : Int32) (0 : Int32) (0 : Int32) (0 : Int32))
  let v702 : Int32 := (F_step_a0_straight v638 (0 : Int32) (0 : Int32) (0 : Int32) (0 : Int32))
  let v703 : Int32 := (F_step_a1_0 v638 (0 : Int32) (0 : Int32) (0 : Int32) (0 : Int32))
  let v704 : Int32 := (F_step_a1_1 v638 (0 : Int32) (0 : Int32) (0 : Int32) (0 : Int32))
  let v705 : Int32 := (F_step v638 (0 : Int32) (0 : Int32) (0 : Int32) (0 : Int32))
  let v719 : Int32 := (F_step_a0_depth v642 v702 v701 v703 v704)
  let v720 : Int32 := (F_step_a0_straight v642 v702 v701 v703 v704)
  let v721 : Int32 := (F_step_a1_0 v642 v702 v701 v703 v704)
  let v722 : Int32 := (F_step_a1_1 v642 v702 v701 v703 v704)
  let v723 : Int32 := (v705 &&& (F_step v642 v702 v701 v703 v704))
  let v737 : Int32 := (F_step_a0_depth v646 v720 v719 v721 v722)
  let v738 : Int32 := (F_step_a0_straight v646 v720 v719 v721 v722)
  let v739 : Int32 := (F_step_a1_0 v646 v720 v719 v721 v722)
  let v740 : Int32 := (F_step_a1_1 v646 v720 v719 v721 v722)
  let v741 : Int32 := (v723 &&& (F_step v646 v720 v719 v721 v722))
  let v755 : Int32 := (F_step_a0_depth v650 v738 v737 v739 v740)
  let v756 : Int32 := (F_step_a0_straight v650 v738 v737 v739 v740)
  let v757 : Int32 := (F_step_a1_0 v650 v738 v737 v739 v740)
  let v758 : Int32 := (F_step_a1_1 v650 v738 v737 v739 v740)
  let v759 : Int32 := (v741 &&& (F_step v650 v738 v737 v739 v740))
  let v773 : Int32 := (F_step_a0_depth v654 v756 v755 v757 v758)
  let v774 : Int32 := (F_step_a0_straight v654 v756 v755 v757 v758)
  let v775 : Int32 := (F_step_a1_0 v654 v756 v755 v757 v758)
  let v776 : Int32 := (F_step_a1_1 v654 v756 v755 v757 v758)
  let v777 : Int32 := (v759 &&& (F_step v654 v756 v755 v757 v758))
  (nar .boolean v777)
set_option maxRecDepth 65536 in
set_option maxHeartbeats 40000000 in
theorem rm0 (l : Launch) (Z : State) (az : Array Value) (hw : ∀ d ∈ tables_1, d.before az Z = true) (ws : List Jvm.Cond) (p0 : Int32) (p1 : Int32) (p2 : Int32) (p3 : Int32) (p4 : Int32) (h0 : Heap) (n0 : Nat) (Z0 : n0 ≤ h0.size) :
    Met l x code maxLocals ret ws room_1 Z #[(.int p0), (.int p1), (.int p2), (.int p3), (.int p4)] h0 (fun v h' L => v = some (Value.int (F_law p0 p1 p2 p3 p4)) ∧ Fr n0 L) := by
  refine enter (plainFor_of_name pn_0) (ef_0 p0 p1 p2 p3 p4) ?_
  intro p e s m below meth c T0 kc kn Q hkc hkn hQ K' X0 e0
  have K : Fx p s m meth c code 13 "com/example/wherefore/wherefore/instrument/QuotationReadPinLaw" "law" (some .boolean) Z := K'
  have N0 := Fr.nil n0
  have K0 : Keep h0 h0 [] := Keep.refl _ _
  refine k_iloadN K X0 at_0 rfl (q := 1) rfl ?_
  refine k_staticP K X0 e0 at_1 (wd hw 0 rfl) (wd hw 1 rfl) (wd hw 2 rfl) (wd hw 3 rfl) (by decide) (rm1 l Z az hw [] p0 h0) (W := 0) (by decide) (by decide) (by decide) (by decide) rfl pd_3 (argsL := [(.int p0)]) (rest := []) rfl rfl rfl (Nat.le_of_eq rfl) (q := 4) rfl ?_
  intro T635 X636 e637
  obtain ⟨v638, hv_v638⟩ : ∃ z : Int32, (F_pick p0) = z := ⟨_, rfl⟩
  refine k_istore K X636 at_4 hv_v638 (Ls' := #[.val (.int p0), .val (.int p1), .val (.int p2), .val (.int p3), .val (.int p4), .val (.int v638), .unset, .unset, .unset, .unset, .unset, .unset, .unset]) rfl (q := 6) rfl ?_
  refine k_iloadN K X636 at_6 rfl (q := 7) rfl ?_
  refine k_staticP K X636 e637 at_7 (wd hw 0 rfl) (wd hw 1 rfl) (wd hw 2 rfl) (wd hw 3 rfl) (by decide) (rm1 l Z az hw [] p1 h0) (W := 0) (by decide) (by decide) (by decide) (by decide) rfl pd_3 (argsL := [(.int p1)]) (rest := []) rfl rfl rfl (Nat.le_of_eq rfl) (q := 10) rfl ?_
  intro T639 X640 e641
  obtain ⟨v642, hv_v642⟩ : ∃ z : Int32, (F_pick p1) = z := ⟨_, rfl⟩
  refine k_istore K X640 at_10 hv_v642 (Ls' := #[.val (.int p0), .val (.int p1), .val (.int p2), .val (.int p3), .val (.int p4), .val (.int v638), .val (.int v642), .unset, .unset, .unset, .unset, .unset, .unset]) rfl (q := 12) rfl ?_
  refine k_iloadN K X640 at_12 rfl (q := 13) rfl ?_
  refine k_staticP K X640 e641 at_13 (wd hw 0 rfl) (wd hw 1 rfl) (wd hw 2 rfl) (wd hw 3 rfl) (by decide) (rm1 l Z az hw [] p2 h0) (W := 0) (by decide) (by decide) (by decide) (by decide) rfl pd_3 (argsL := [(.int p2)]) (rest := []) rfl rfl rfl (Nat.le_of_eq rfl) (q := 16) rfl ?_
  intro T643 X644 e645
  obtain ⟨v646, hv_v646⟩ : ∃ z : Int32, (F_pick p2) = z := ⟨_, rfl⟩
  refine k_istore K X644 at_16 hv_v646 (Ls' := #[.val (.int p0), .val (.int p1), .val (.int p2), .val (.int p3), .val (.int p4), .val (.int v638), .val (.int v642), .val (.int v646), .unset, .unset, .unset, .unset, .unset]) rfl (q := 18) rfl ?_
  refine k_iloadN K X644 at_18 rfl (q := 19) rfl ?_
  refine k_staticP K X644 e645 at_19 (wd hw 0 rfl) (wd hw 1 rfl) (wd hw 2 rfl) (wd hw 3 rfl) (by decide) (rm1 l Z az hw [] p3 h0) (W := 0) (by decide) (by decide) (by decide) (by decide) rfl pd_3 (argsL := [(.int p3)]) (rest := []) rfl rfl rfl (Nat.le_of_eq rfl) (q := 22) rfl ?_
  intro T647 X648 e649
  obtain ⟨v650, hv_v650⟩ : ∃ z : Int32, (F_pick p3) = z := ⟨_, rfl⟩
  refine k_istore K X648 at_22 hv_v650 (Ls' := #[.val (.int p0), .val (.int p1), .val (.int p2), .val (.int p3), .val (.int p4), .val (.int v638), .val (.int v642), .val (.int v646), .val (.int v650), .unset, .unset, .unset, .unset]) rfl (q := 24) rfl ?_
  refine k_iload K X648 at_24 rfl (q := 26) rfl ?_
  refine k_staticP K X648 e649 at_26 (wd hw 0 rfl) (wd hw 1 rfl) (wd hw 2 rfl) (wd hw 3 rfl) (by decide) (rm1 l Z az hw [] p4 h0) (W := 0) (by decide) (by decide) (by decide) (by decide) rfl pd_3 (argsL := [(.int p4)]) (rest := []) rfl rfl rfl (Nat.le_of_eq rfl) (q := 29) rfl ?_
  intro T651 X652 e653
  obtain ⟨v654, hv_v654⟩ : ∃ z : Int32, (F_pick p4) = z := ⟨_, rfl⟩
  refine k_istore K X652 at_29 hv_v654 (Ls' := #[.val (.int p0), .val (.int p1), .val (.int p2), .val (.int p3), .val (.int p4), .val (.int v638), .val (.int v642), .val (.int v646), .val (.int v650), .val (.int v654), .unset, .unset, .unset]) rfl (q := 31) rfl ?_
  refine k_iconst K X652 at_31 (v := (2 : Int32)) rfl (q := 32) rfl ?_
  refine k_newarray K X652 e653 at_32 (ty := .int) rfl (wd hw 4 rfl) (n := 2) (cap := 2) (by decide) (by decide) (by decide) (by decide) (by decide) (q := 34) rfl ?_
  intro T655 h656 b657 X658 e659 g660 E661 A662 
  have ge663 : n0 ≤ b657 := Nat.le_trans Z0 (Nat.le_of_eq g660.symm)
  have bn664 : h0.size ≤ b657 := Nat.le_trans K0.1 (Nat.le_of_eq g660.symm)
  have K665 := Keep.ext K0 E661
  have Z666 := Nat.le_trans Z0 E661.1
  have f667 : Ary Z h656 b657 .int 2 (fun i => Value.int (List.getD [(0 : Int32), (0 : Int32)] i 0)) := Ary.eqv A662 (by intro i hi; match i, hi with | 0, _ => rfl | 1, _ => rfl | (k + 2), hi => exact absurd hi (by omega))
  refine k_astore K X658 at_34 rfl (Ls' := #[.val (.int p0), .val (.int p1), .val (.int p2), .val (.int p3), .val (.int p4), .val (.int v638), .val (.int v642), .val (.int v646), .val (.int v650), .val (.int v654), .val (.ref b657), .unset, .unset]) rfl (q := 36) rfl ?_
  refine k_new K X658 e659 at_36 (wd hw 5 rfl) (wd hw 6 rfl) (wd hw 7 rfl) (by decide) (by decide) (q := 39) rfl ?_
  intro T668 h669 b670 X671 e672 g673 E674 A675 D676
  have ne677 : b657 ≠ b670 := Nat.ne_of_lt (Nat.lt_of_lt_of_eq (f667).lt g673.symm)
  have ge678 : n0 ≤ b670 := Nat.le_trans Z666 (Nat.le_of_eq g673.symm)
  have bn679 : h0.size ≤ b670 := Nat.le_trans K665.1 (Nat.le_of_eq g673.symm)
  have f680 := Ary.ext f667 E674
  have K681 := Keep.ext K665 E674
  have Z682 := Nat.le_trans Z666 E674.1
  have f683 : Fld Z h669 b670 "com/example/wherefore/wherefore/instrument/Quotation" "depth" "I" (.int (0 : Int32)) := D676 (Or.inl (wd hw 23 rfl)) (ty := .int) (by decide)
  have f684 : Fld Z h669 b670 "com/example/wherefore/wherefore/instrument/Quotation" "straight" "Z" (.int (0 : Int32)) := D676 (Or.inl (wd hw 30 rfl)) (ty := .boolean) (by decide)
  refine k_dup K X671 at_39 rfl (q := 40) rfl ?_
  refine k_specialP K X671 e672 at_40 rfl (wd hw 8 rfl) (wd hw 9 rfl) (wd hw 7 rfl) (wd hw 10 rfl) (by decide) (rm2 l Z az hw [] b670 h669) (W := 1) (by decide) (by decide) (by decide) (by decide) rfl pd_4 (argsL := []) (rest := [(.ref b670)]) rfl rfl rfl (Nat.le_of_eq rfl) (q := 43) rfl ?_
  intro T685 X686 e687
  refine k_astore K X686 at_43 rfl (Ls' := #[.val (.int p0), .val (.int p1), .val (.int p2), .val (.int p3), .val (.int p4), .val (.int v638), .val (.int v642), .val (.int v646), .val (.int v650), .val (.int v654), .val (.ref b657), .val (.ref b670), .unset]) rfl (q := 45) rfl ?_
  refine k_aload K X686 at_45 rfl rfl (q := 47) rfl ?_
  refine k_aload K X686 at_47 rfl rfl (q := 49) rfl ?_
  refine k_iload K X686 at_49 rfl (q := 51) rfl ?_
  refine k_static K X686 e687 at_51 (wd hw 14 rfl) (wd hw 15 rfl) (wd hw 2 rfl) (wd hw 16 rfl) (by decide) (rm4 l Z az hw [] b670 b657 v638 (0 : Int32) (0 : Int32) (0 : Int32) (0 : Int32) h669 n0 Z682 f684 A675 ge678 f683 f680 ne677 ge663) (W := 0) (by decide) (by decide) (by decide) (by decide) rfl pd_5 (argsL := [(.ref b670), (.ref b657), (.int v638)]) (rest := []) rfl rfl rfl (Nat.le_of_eq rfl) (q := 54) rfl ?_
  rintro _ T688 L689 X690 ⟨rfl, N691, K692, f694, f695, f696⟩
  have f697 := Exa.keep A675 K692
  have N698 := Fr.app N0 N691
  have K699 := Keep.trans K681 K692 (allS (Or.inr bn679) (allS (Or.inr bn664) all0))
  have Z700 := Nat.le_trans Z682 K692.1
  obtain ⟨v701, hv_v701⟩ : ∃ z : Int32, (F_step_a0_depth v638 (0 : Int32) (0 : Int32) (0 : Int32) (0 : Int32)) = z := ⟨_, rfl⟩
  rw [hv_v701] at f694
  obtain ⟨v702, hv_v702⟩ : ∃ z : Int32, (F_step_a0_straight v638 (0 : Int32) (0 : Int32) (0 : Int32) (0 : Int32)) = z := ⟨_, rfl⟩
  rw [hv_v702] at f695
  obtain ⟨v703, hv_v703⟩ : ∃ z : Int32, (F_step_a1_0 v638 (0 : Int32) (0 : Int32) (0 : Int32) (0 : Int32)) = z := ⟨_, rfl⟩
  rw [hv_v703] at f696
  obtain ⟨v704, hv_v704⟩ : ∃ z : Int32, (F_step_a1_1 v638 (0 : Int32) (0 : Int32) (0 : Int32) (0 : Int32)) = z := ⟨_, rfl⟩
  rw [hv_v704] at f696
  obtain ⟨v705, hv_v705⟩ : ∃ z : Int32, (F_step v638 (0 : Int32) (0 : Int32) (0 : Int32) (0 : Int32)) = z := ⟨_, rfl⟩
  refine k_istore K X690 at_54 hv_v705 (Ls' := #[.val (.int p0), .val (.int p1), .val (.int p2), .val (.int p3), .val (.int p4), .val (.int v638), .val (.int v642), .val (.int v646), .val (.int v650), .val (.int v654), .val (.ref b657), .val (.ref b670), .val (.int v705)]) rfl (q := 56) rfl ?_
  refine k_iload K X690 at_56 rfl (q := 58) rfl ?_
  refine k_aload K X690 at_58 rfl rfl (q := 60) rfl ?_
  refine k_aload K X690 at_60 rfl rfl (q := 62) rfl ?_
  refine k_iload K X690 at_62 rfl (q := 64) rfl ?_
  refine k_static K X690 rfl at_64 (wd hw 14 rfl) (wd hw 15 rfl) (wd hw 2 rfl) (wd hw 16 rfl) (by decide) (rm4 l Z az hw [] b670 b657 v642 v702 v701 v703 v704 T688.heap n0 Z700 f695 f697 ge678 f694 f696 ne677 ge663) (W := 1) (by decide) (by decide) (by decide) (by decide) rfl pd_5 (argsL := [(.ref b670), (.ref b657), (.int v642)]) (rest := [(.int v705)]) rfl rfl rfl (Nat.le_of_eq rfl) (q := 67) rfl ?_
  rintro _ T706 L707 X708 ⟨rfl, N709, K710, f712, f713, f714⟩
  have f715 := Exa.keep f697 K710
  have N716 := Fr.app N698 N709
  have K717 := Keep.trans K699 K710 (allS (Or.inr bn679) (allS (Or.inr bn664) all0))
  have Z718 := Nat.le_trans Z700 K710.1
  obtain ⟨v719, hv_v719⟩ : ∃ z : Int32, (F_step_a0_depth v642 v702 v701 v703 v704) = z := ⟨_, rfl⟩
  rw [hv_v719] at f712
  obtain ⟨v720, hv_v720⟩ : ∃ z : Int32, (F_step_a0_straight v642 v702 v701 v703 v704) = z := ⟨_, rfl⟩
  rw [hv_v720] at f713
  obtain ⟨v721, hv_v721⟩ : ∃ z : Int32, (F_step_a1_0 v642 v702 v701 v703 v704) = z := ⟨_, rfl⟩
  rw [hv_v721] at f714
  obtain ⟨v722, hv_v722⟩ : ∃ z : Int32, (F_step_a1_1 v642 v702 v701 v703 v704) = z := ⟨_, rfl⟩
  rw [hv_v722] at f714
  refine k_iand K X708 at_67 (q := 68) rfl ?_
  obtain ⟨v723, hv_v723⟩ : ∃ z : Int32, (v705 &&& (F_step v642 v702 v701 v703 v704)) = z := ⟨_, rfl⟩
  refine k_istore K X708 at_68 hv_v723 (Ls' := #[.val (.int p0), .val (.int p1), .val (.int p2), .val (.int p3), .val (.int p4), .val (.int v638), .val (.int v642), .val (.int v646), .val (.int v650), .val (.int v654), .val (.ref b657), .val (.ref b670), .val (.int v723)]) rfl (q := 70) rfl ?_
  refine k_iload K X708 at_70 rfl (q := 72) rfl ?_
  refine k_aload K X708 at_72 rfl rfl (q := 74) rfl ?_
  refine k_aload K X708 at_74 rfl rfl (q := 76) rfl ?_
  refine k_iload K X708 at_76 rfl (q := 78) rfl ?_
  refine k_static K X708 rfl at_78 (wd hw 14 rfl) (wd hw 15 rfl) (wd hw 2 rfl) (wd hw 16 rfl) (by decide) (rm4 l Z az hw [] b670 b657 v646 v720 v719 v721 v722 T706.heap n0 Z718 f713 f715 ge678 f712 f714 ne677 ge663) (W := 1) (by decide) (by decide) (by decide) (by decide) rfl pd_5 (argsL := [(.ref b670), (.ref b657), (.int v646)]) (rest := [(.int v723)]) rfl rfl rfl (Nat.le_of_eq rfl) (q := 81) rfl ?_
  rintro _ T724 L725 X726 ⟨rfl, N727, K728, f730, f731, f732⟩
  have f733 := Exa.keep f715 K728
  have N734 := Fr.app N716 N727
  have K735 := Keep.trans K717 K728 (allS (Or.inr bn679) (allS (Or.inr bn664) all0))
  have Z736 := Nat.le_trans Z718 K728.1
  obtain ⟨v737, hv_v737⟩ : ∃ z : Int32, (F_step_a0_depth v646 v720 v719 v721 v722) = z := ⟨_, rfl⟩
  rw [hv_v737] at f730
  obtain ⟨v738, hv_v738⟩ : ∃ z : Int32, (F_step_a0_straight v646 v720 v719 v721 v722) = z := ⟨_, rfl⟩
  rw [hv_v738] at f731
  obtain ⟨v739, hv_v739⟩ : ∃ z : Int32, (F_step_a1_0 v646 v720 v719 v721 v722) = z := ⟨_, rfl⟩
  rw [hv_v739] at f732
  obtain ⟨v740, hv_v740⟩ : ∃ z : Int32, (F_step_a1_1 v646 v720 v719 v721 v722) = z := ⟨_, rfl⟩
  rw [hv_v740] at f732
  refine k_iand K X726 at_81 (q := 82) rfl ?_
  obtain ⟨v741, hv_v741⟩ : ∃ z : Int32, (v723 &&& (F_step v646 v720 v719 v721 v722)) = z := ⟨_, rfl⟩
  refine k_istore K X726 at_82 hv_v741 (Ls' := #[.val (.int p0), .val (.int p1), .val (.int p2), .val (.int p3), .val (.int p4), .val (.int v638), .val (.int v642), .val (.int v646), .val (.int v650), .val (.int v654), .val (.ref b657), .val (.ref b670), .val (.int v741)]) rfl (q := 84) rfl ?_
  refine k_iload K X726 at_84 rfl (q := 86) rfl ?_
  refine k_aload K X726 at_86 rfl rfl (q := 88) rfl ?_
  refine k_aload K X726 at_88 rfl rfl (q := 90) rfl ?_
  refine k_iload K X726 at_90 rfl (q := 92) rfl ?_
  refine k_static K X726 rfl at_92 (wd hw 14 rfl) (wd hw 15 rfl) (wd hw 2 rfl) (wd hw 16 rfl) (by decide) (rm4 l Z az hw [] b670 b657 v650 v738 v737 v739 v740 T724.heap n0 Z736 f731 f733 ge678 f730 f732 ne677 ge663) (W := 1) (by decide) (by decide) (by decide) (by decide) rfl pd_5 (argsL := [(.ref b670), (.ref b657), (.int v650)]) (rest := [(.int v741)]) rfl rfl rfl (Nat.le_of_eq rfl) (q := 95) rfl ?_
  rintro _ T742 L743 X744 ⟨rfl, N745, K746, f748, f749, f750⟩
  have f751 := Exa.keep f733 K746
  have N752 := Fr.app N734 N745
  have K753 := Keep.trans K735 K746 (allS (Or.inr bn679) (allS (Or.inr bn664) all0))
  have Z754 := Nat.le_trans Z736 K746.1
  obtain ⟨v755, hv_v755⟩ : ∃ z : Int32, (F_step_a0_depth v650 v738 v737 v739 v740) = z := ⟨_, rfl⟩
  rw [hv_v755] at f748
  obtain ⟨v756, hv_v756⟩ : ∃ z : Int32, (F_step_a0_straight v650 v738 v737 v739 v740) = z := ⟨_, rfl⟩
  rw [hv_v756] at f749
  obtain ⟨v757, hv_v757⟩ : ∃ z : Int32, (F_step_a1_0 v650 v738 v737 v739 v740) = z := ⟨_, rfl⟩
  rw [hv_v757] at f750
  obtain ⟨v758, hv_v758⟩ : ∃ z : Int32, (F_step_a1_1 v650 v738 v737 v739 v740) = z := ⟨_, rfl⟩
  rw [hv_v758] at f750
  refine k_iand K X744 at_95 (q := 96) rfl ?_
  obtain ⟨v759, hv_v759⟩ : ∃ z : Int32, (v741 &&& (F_step v650 v738 v737 v739 v740)) = z := ⟨_, rfl⟩
  refine k_istore K X744 at_96 hv_v759 (Ls' := #[.val (.int p0), .val (.int p1), .val (.int p2), .val (.int p3), .val (.int p4), .val (.int v638), .val (.int v642), .val (.int v646), .val (.int v650), .val (.int v654), .val (.ref b657), .val (.ref b670), .val (.int v759)]) rfl (q := 98) rfl ?_
  refine k_iload K X744 at_98 rfl (q := 100) rfl ?_
  refine k_aload K X744 at_100 rfl rfl (q := 102) rfl ?_
  refine k_aload K X744 at_102 rfl rfl (q := 104) rfl ?_
  refine k_iload K X744 at_104 rfl (q := 106) rfl ?_
  refine k_static K X744 rfl at_106 (wd hw 14 rfl) (wd hw 15 rfl) (wd hw 2 rfl) (wd hw 16 rfl) (by decide) (rm4 l Z az hw [] b670 b657 v654 v756 v755 v757 v758 T742.heap n0 Z754 f749 f751 ge678 f748 f750 ne677 ge663) (W := 1) (by decide) (by decide) (by decide) (by decide) rfl pd_5 (argsL := [(.ref b670), (.ref b657), (.int v654)]) (rest := [(.int v759)]) rfl rfl rfl (Nat.le_of_eq rfl) (q := 109) rfl ?_
  rintro _ T760 L761 X762 ⟨rfl, N763, K764, f766, f767, f768⟩
  have f769 := Exa.keep f751 K764
  have N770 := Fr.app N752 N763
  have K771 := Keep.trans K753 K764 (allS (Or.inr bn679) (allS (Or.inr bn664) all0))
  have Z772 := Nat.le_trans Z754 K764.1
  obtain ⟨v773, hv_v773⟩ : ∃ z : Int32, (F_step_a0_depth v654 v756 v755 v757 v758) = z := ⟨_, rfl⟩
  rw [hv_v773] at f766
  obtain ⟨v774, hv_v774⟩ : ∃ z : Int32, (F_step_a0_straight v654 v756 v755 v757 v758) = z := ⟨_, rfl⟩
  rw [hv_v774] at f767
  obtain ⟨v775, hv_v775⟩ : ∃ z : Int32, (F_step_a1_0 v654 v756 v755 v757 v758) = z := ⟨_, rfl⟩
  rw [hv_v775] at f768
  obtain ⟨v776, hv_v776⟩ : ∃ z : Int32, (F_step_a1_1 v654 v756 v755 v757 v758) = z := ⟨_, rfl⟩
  rw [hv_v776] at f768
  refine k_iand K X762 at_109 (q := 110) rfl ?_
  obtain ⟨v777, hv_v777⟩ : ∃ z : Int32, (v759 &&& (F_step v654 v756 v755 v757 v758)) = z := ⟨_, rfl⟩
  refine k_istore K X762 at_110 hv_v777 (Ls' := #[.val (.int p0), .val (.int p1), .val (.int p2), .val (.int p3), .val (.int p4), .val (.int v638), .val (.int v642), .val (.int v646), .val (.int v650), .val (.int v654), .val (.ref b657), .val (.ref b670), .val (.int v777)]) rfl (q := 112) rfl ?_
  refine k_iload K X762 at_112 rfl (q := 114) rfl ?_
  exact k_retz K X762 rfl at_114 (Nat.le_trans (by decide) hkc) (Nat.le_trans (by decide) hkn) (hQ _ _ _ ⟨(by show some (Value.int (nar .boolean v777)) = some (Value.int (F_law p0 p1 p2 p3 p4)); simp only [F_law, hv_v638, hv_v642, hv_v646, hv_v650, hv_v654, hv_v701, hv_v702, hv_v703, hv_v704, hv_v705, hv_v719, hv_v720, hv_v721, hv_v722, hv_v723, hv_v737, hv_v738, hv_v739, hv_v740, hv_v741, hv_v755, hv_v756, hv_v757, hv_v758, hv_v759, hv_v773, hv_v774, hv_v775, hv_v776, hv_v777]), N770⟩)
theorem own_eqI {x y : Int32} : x = y ↔ x.toInt = y.toInt := Int32.toInt_inj.symm
theorem own_eqJ {x y : Int64} : x = y ↔ x.toInt = y.toInt := Int64.toInt_inj.symm
theorem own_ltI {x y : Int32} : x < y ↔ x.toInt < y.toInt := Int32.lt_iff_toInt_lt
theorem own_ltJ {x y : Int64} : x < y ↔ x.toInt < y.toInt := Int64.lt_iff_toInt_lt
theorem own_in (x y : Int32) : F_inside x (y &&& 1) = (if (0 : Int32) < x then (1 : Int32) else if (y &&& 1) = 1 then 1 else 0) := by
  simp only [F_inside]
  by_cases k : (0 : Int32) < x
  · simp only [if_pos k]; decide
  · rcases and_one y with h | h
    · simp only [if_neg k, h]; decide
    · simp only [if_neg k, h]; decide
theorem own_p1 (y : Int32) : (nar .boolean (if (y &&& 1) = 0 then (1 : Int32) else 0)) = (y + 1) &&& 1 := by
  have m1 : (y &&& 1).toInt = y.toInt % 2 := c_mask y 1 1 (by decide) (by decide)
  have m2 : ((y + 1) &&& 1).toInt = (y + 1).toInt % 2 := c_mask (y + 1) 1 1 (by decide) (by decide)
  have := c_iadd y 1
  have e1 : (1 : Int32).toInt = 1 := rfl
  have e0 : (0 : Int32).toInt = 0 := rfl
  by_cases k : (y &&& 1) = 0
  · rw [if_pos k]; rw [own_eqI] at k ⊢
    rw [show (nar .boolean (1 : Int32)).toInt = 1 from by decide]; omega
  · rw [if_neg k]; rw [own_eqI] at k ⊢
    rw [show (nar .boolean (0 : Int32)).toInt = 0 from by decide]; omega
theorem own_st (c s0 s1 : Int32) (b0 : 0 ≤ s0.toInt) (b1 : s0.toInt ≤ 100) :
    F_step c (s1 &&& 1) s0 s0 s1 = 1 ∧ F_step_a0_depth c (s1 &&& 1) s0 s0 s1 = F_step_a1_0 c (s1 &&& 1) s0 s0 s1 ∧ F_step_a0_straight c (s1 &&& 1) s0 s0 s1 = F_step_a1_1 c (s1 &&& 1) s0 s0 s1 &&& 1 ∧ 0 ≤ (F_step_a1_0 c (s1 &&& 1) s0 s0 s1).toInt ∧ (F_step_a1_0 c (s1 &&& 1) s0 s0 s1).toInt ≤ s0.toInt + 1 := by
  have e0 : (0 : Int32).toInt = 0 := rfl
  have e1 : (1 : Int32).toInt = 1 := rfl
  by_cases h1 : c = 8220
  · subst h1
    have n2 : ¬ ((8220 : Int32) = 34) := by decide
    have x1 : F_read_a0_depth 8220 (s1 &&& 1) s0 = s0 + 1 := by simp only [F_read_a0_depth, if_true]
    have x2 : F_read_a0_straight 8220 (s1 &&& 1) s0 = s1 &&& 1 := by simp only [F_read_a0_straight, if_true]
    simp only [F_step, F_step_a0_depth, F_step_a0_straight, F_step_a1_0, F_step_a1_1, x1, x2, own_in, if_neg n2, if_true]
    have := c_iadd s0 1; have := rng32 (s0 + 1)
    exact ⟨by decide, trivial, trivial, by omega, by omega⟩
  · by_cases h2 : c = 8221
    · subst h2
      have n1 : ¬ ((8221 : Int32) = 8220) := by decide
      have n2 : ¬ ((8221 : Int32) = 34) := by decide
      have x2 : F_read_a0_straight 8221 (s1 &&& 1) s0 = s1 &&& 1 := by simp only [F_read_a0_straight, if_neg n1, if_neg n2, if_true, ite_self]
      have x1 : F_read_a0_depth 8221 (s1 &&& 1) s0 = F_max (s0 - 1) 0 := by
        have := c_isub s0 1; have := rng32 (s0 - 1)
        by_cases k : (0 : Int32) < s0
        · have k' : ¬ (s0 - 1) < 0 := fun z => by have := own_ltI.mp z; have := own_ltI.mp k; omega
          simp only [F_read_a0_depth, F_max, if_neg n1, if_pos k, if_neg k', if_true]
        · have k' : (s0 - 1) < 0 := own_ltI.mpr (by rw [own_ltI] at k; omega)
          have k2 : s0 = 0 := own_eqI.mpr (by rw [own_ltI] at k; omega)
          simp only [F_read_a0_depth, F_max, if_neg n1, if_neg n2, if_neg k, if_pos k', if_true]; exact k2
      have b : 0 ≤ (F_max (s0 - 1) 0).toInt ∧ (F_max (s0 - 1) 0).toInt ≤ s0.toInt + 1 := by
        have := c_isub s0 1; have := rng32 (s0 - 1)
        simp only [F_max]
        by_cases k : (s0 - 1) < 0
        · rw [if_pos k]; omega
        · rw [if_neg k]; rw [own_ltI] at k; omega
      simp only [F_step, F_step_a0_depth, F_step_a0_straight, F_step_a1_0, F_step_a1_1, x1, x2, own_in, if_neg n1, if_neg n2, if_true]
      exact ⟨by decide, trivial, trivial, b.1, b.2⟩
    · by_cases h3 : c = 34
      · subst h3
        have x1 : F_read_a0_depth 34 (s1 &&& 1) s0 = s0 := by simp only [F_read_a0_depth, if_neg h1, if_neg h2, if_true]
        have x2 : F_read_a0_straight 34 (s1 &&& 1) s0 = (s1 + 1) &&& 1 := by rw [← own_p1]; simp only [F_read_a0_straight, if_neg h1, if_neg h2, if_true]
        simp only [F_step, F_step_a0_depth, F_step_a0_straight, F_step_a1_0, F_step_a1_1, x1, x2, own_in, if_neg h1, if_neg h2, if_true]
        exact ⟨by decide, trivial, trivial, by omega, by omega⟩
      · have x1 : F_read_a0_depth c (s1 &&& 1) s0 = s0 := by simp only [F_read_a0_depth, if_neg h1, if_neg h2, if_neg h3]
        have x2 : F_read_a0_straight c (s1 &&& 1) s0 = s1 &&& 1 := by simp only [F_read_a0_straight, if_neg h1, if_neg h2, if_neg h3]
        simp only [F_step, F_step_a0_depth, F_step_a0_straight, F_step_a1_0, F_step_a1_1, x1, x2, own_in, if_neg h1, if_neg h2, if_neg h3, if_true]
        exact ⟨by decide, trivial, trivial, by omega, by omega⟩
theorem law_eq (p0 p1 p2 p3 p4 : Int32) : F_law p0 p1 p2 p3 p4 = 1 := by
  have z : ((0 : Int32) &&& 1) = 0 := by decide
  simp only [F_law]
  generalize F_pick p0 = c0
  generalize F_pick p1 = c1
  generalize F_pick p2 = c2
  generalize F_pick p3 = c3
  generalize F_pick p4 = c4
  obtain ⟨a1, a2, a3, a4, a5⟩ := own_st c0 0 0 (by decide) (by decide)
  rw [z] at a1 a2 a3 a4 a5
  rw [a1, a2, a3]
  generalize F_step_a1_0 c0 0 0 0 0 = s0 at *
  generalize F_step_a1_1 c0 0 0 0 0 = s1 at *
  have e0 : (0 : Int32).toInt = 0 := rfl
  obtain ⟨b1, b2, b3, b4, b5⟩ := own_st c1 s0 s1 (by omega) (by omega)
  rw [b1, b2, b3]
  generalize F_step_a1_0 c1 (s1 &&& 1) s0 s0 s1 = u0 at *
  generalize F_step_a1_1 c1 (s1 &&& 1) s0 s0 s1 = u1 at *
  obtain ⟨d1, d2, d3, d4, d5⟩ := own_st c2 u0 u1 (by omega) (by omega)
  rw [d1, d2, d3]
  generalize F_step_a1_0 c2 (u1 &&& 1) u0 u0 u1 = x0 at *
  generalize F_step_a1_1 c2 (u1 &&& 1) u0 u0 u1 = x1 at *
  obtain ⟨f1, f2, f3, f4, f5⟩ := own_st c3 x0 x1 (by omega) (by omega)
  rw [f1, f2, f3]
  generalize F_step_a1_0 c3 (x1 &&& 1) x0 x0 x1 = y0 at *
  generalize F_step_a1_1 c3 (x1 &&& 1) x0 x0 x1 = y1 at *
  obtain ⟨g1, g2, g3, g4, g5⟩ := own_st c4 y0 y1 (by omega) (by omega)
  rw [g1]
  decide
set_option maxRecDepth 65536 in
set_option maxHeartbeats 40000000 in
theorem comes_1 {Post : Tables → Env → Array Value → State → Outcome → State → Prop} (hpost : ∀ tb e args s v u, (limb_1_1.after args s (.returned v) u = true ∧ limb_1_2.after args s (.returned v) u = true ∧ True) → FrameEnd s (.returned v) u (Jvm.fieldLocs frame_1_writes args s ++ Jvm.arrayLocs frame_1_arrays args s ++ Jvm.staticLocs frame_1_statics s) 16 128 → Post tb e args s (.returned v) u) :
    ArmFor flags0 classFile x code maxLocals ret World_1 tables_1 room_1 Calls_1 rest_1 Pre_1 Post := by
  intro l hfl _ _ p e ha hc hk s m args below hf hA hF happ hP
  obtain ⟨hcalls, hrest, hpre⟩ := hP
  obtain ⟨-, -, -, hnamed, -, -, -, hat⟩ := (Spec.applies_iff hf).mp happ
  obtain ⟨hg, hn⟩ := and_e (Cond.before_iff.mp (show (Jvm.Cond.and given_1 narrow_1).before args s = true from hpre))
  obtain ⟨gc, g0⟩ := and_e hg
  obtain ⟨ga0, g1⟩ := and_e g0
  obtain ⟨ga1, g2⟩ := and_e g1
  obtain ⟨ga2, g3⟩ := and_e g2
  obtain ⟨ga3, g4⟩ := and_e g3
  obtain ⟨w0, w1, w2, w3, w4, rfl⟩ : ∃ w0 w1 w2 w3 w4 : Value, args = #[w0, w1, w2, w3, w4] := by
    have hs : args.size = 5 := by simpa [Cond.value, given_1] using gc
    obtain ⟨L⟩ := args
    match L, hs with
    | [w0, w1, w2, w3, w4], _ => exact ⟨w0, w1, w2, w3, w4, rfl⟩
  have hw := fun d (hd : d ∈ tables_1) => atoms_spec (ws := Jvm.Cond.code x code maxLocals ret :: tables_1) hat d (List.mem_cons_of_mem _ hd)
  obtain ⟨i0, ei0⟩ := is_v ga0
  obtain rfl : w0 = (.int i0) := Option.some.inj ei0
  obtain ⟨i1, ei1⟩ := is_v ga1
  obtain rfl : w1 = (.int i1) := Option.some.inj ei1
  obtain ⟨i2, ei2⟩ := is_v ga2
  obtain rfl : w2 = (.int i2) := Option.some.inj ei2
  obtain ⟨i3, ei3⟩ := is_v ga3
  obtain rfl : w3 = (.int i3) := Option.some.inj ei3
  obtain ⟨i4, ei4⟩ := is_v g4
  obtain rfl : w4 = (.int i4) := Option.some.inj ei4
  obtain ⟨n, o, h1, h2, h3, _, L, rfl, ⟨rfl, N⟩, hq⟩ := rm0 l s _ hw tables_1 i0 i1 i2 i3 i4 s.heap s.heap.size (Nat.le_refl _) p e ha hc hk s m _ below hf ((Spec.applies_iff_loose hf).mp happ).1 ⟨rfl, State.Warmed39.refl s, rfl⟩ trivial
  rw [law_eq] at *
  refine ⟨n, _, h1, h2, h3, hpost _ _ _ _ _ _ ⟨Cond.after_iff.mpr rfl, Cond.after_iff.mpr (eq_i res_at (Term.int_eval (1)) rfl), trivial⟩ ⟨hq.1, hq.2.1, (hq.2.2.sift fun y hy => Or.inr (N y hy)).mono (by decide) (by decide)⟩⟩
theorem main_1_1 : Claimed_1_1 := comes_1 fun _ _ _ _ _ _ h hF => ⟨h.1, hF⟩
theorem main_1_2 : Claimed_1_2 := comes_1 fun _ _ _ _ _ _ h hF => ⟨h.2.1, hF⟩
end Jvm.Pilot.@@N@@
namespace Jvm.Pilot.@@N@@
open Jvm Jvm.ClassFile Sem Op Lib Jvm.Free Jvm.Stand Jvm.Pilot.@@N@@.Jvm.D
/-! MADE BY PROGRAM (witnessworld.py) out of the Statement's table words and the real class files: 10 classes; the members and pool entries that the words name. The judged class is class 1, her method 3. -/
namespace start1
open Jvm.ClassFile
def u (s : String) : CpInfo := .utf8 (stringToUtf16 s)
/-- a pool by its gaps: so many unusable entries, then the entry; so many at the end -/
def gap : Nat → List CpInfo → List CpInfo
  | 0, r => r
  | n + 1, r => .unusable :: gap n r
def poolList (es : List (Nat × CpInfo)) (last : Nat) : List CpInfo := es.foldr (fun e r => gap e.1 (e.2 :: r)) (gap last [])
def pool (es : List (Nat × CpInfo)) (last : Nat) : Array CpInfo := ⟨poolList es last⟩
def fileOf (pool : Array CpInfo) (this : Nat) (attrs : Array Attribute := #[]) (ms : Array MethodInfo := #[]) (fl : Nat := 33) (sup : Nat := 0) (ifs : Array Nat := #[]) (fds : Array FieldInfo := #[]) : ClassFile where
  minorVersion := 0
  majorVersion := 65
  constantPool := pool
  accessFlags := fl
  thisClass := this
  superClass := sup
  interfaces := ifs
  fields := fds
  methods := ms
  attributes := attrs
def plain (name : String) (sup : Option ClassId) : Class where
  name := name
  kind := .ordinary
  loader := none
  accessFlags := 33
  super := sup
  interfaces := #[]
  cf := none
  fields := #[]
  methods := #[]
  instanceTypes := #[]
  staticTypes := #[]
  resolved := #[]
  callSites := []
  init := .initialized
  statics := none
  mirror := none

def pool0 : Array CpInfo := pool [(5, u "<init>"), (0, u "()V"), (1, .class_ 10), (1, u "java/lang/Object")] 113

def k0c0 : Code := { maxStack := 0, maxLocals := 1, code := object_method_1_code, exceptionTable := #[], attributes := #[] }
def k0m0 : Method := { name := "<init>", desc := "()V", sig := { parameters := [], returnType := none }, accessFlags := 1, code := some k0c0 }
/-- java/lang/Object -/
def k0 : Class := { plain "java/lang/Object" none with
  accessFlags := 33
  interfaces := #[]
  cf := some (fileOf pool0 8 #[] #[{ accessFlags := 1, nameIndex := 5, descriptorIndex := 6, attributes := #[] }] 33 0 #[] #[])
  fields := #[]
  methods := #[k0m0]
  instanceTypes := #[]
  staticTypes := #[]
  resolved := Array.replicate 124 none
  statics := none }

def pool1 : Array CpInfo := pool [(2, .class_ 4), (0, .nameAndType 5 6), (0, u "java/lang/Object"), (0, u "<init>"), (0, u "()V"), (0, .methodref 8 9), (0, .class_ 10), (0, .nameAndType 11 12), (0, u "com/example/wherefore/wherefore/instrument/Quotation"), (0, u "read"), (0, u "(C)V"), (0, .methodref 14 15), (0, .class_ 16), (0, .nameAndType 17 18), (0, u "java/lang/Math"), (0, u "max"), (0, u "(II)I"), (0, .methodref 8 20), (0, .nameAndType 21 22), (0, u "inside"), (0, u "()Z"), (0, .methodref 24 25), (0, .class_ 26), (0, .nameAndType 27 28), (0, u "com/example/wherefore/wherefore/instrument/QuotationReadPinLaw"), (0, u "pick"), (0, u "(I)C"), (0, .methodref 8 3), (0, .methodref 24 31), (0, .nameAndType 32 33), (0, u "step"), (0, u "(Lcom/example/wherefore/wherefore/instrument/Quotation;[IC)Z"), (3, u "law"), (0, u "(IIIII)Z")] 2

def k1m0 : Method := { name := "<init>", desc := "()V", sig := { parameters := [], returnType := none }, accessFlags := 1, code := none }
def k1c1 : Code := { maxStack := 2, maxLocals := 2, code := method_2_code, exceptionTable := #[], attributes := #[] }
def k1m1 : Method := { name := "pick", desc := "(I)C", sig := { parameters := [.int], returnType := some .char }, accessFlags := 10, code := some k1c1 }
def k1c2 : Code := { maxStack := 4, maxLocals := 4, code := method_3_code, exceptionTable := #[], attributes := #[] }
def k1m2 : Method := { name := "step", desc := "(Lcom/example/wherefore/wherefore/instrument/Quotation;[IC)Z", sig := { parameters := [(.object "com/example/wherefore/wherefore/instrument/Quotation"), (.array .int), .char], returnType := some .boolean }, accessFlags := 10, code := some k1c2 }
def k1c3 : Code := { maxStack := 4, maxLocals := 13, code := code, exceptionTable := #[], attributes := #[] }
def k1m3 : Method := { name := "law", desc := "(IIIII)Z", sig := { parameters := [.int, .int, .int, .int, .int], returnType := some .boolean }, accessFlags := 9, code := some k1c3 }
/-- com/example/wherefore/wherefore/instrument/QuotationReadPinLaw -/
def k1 : Class := { plain "com/example/wherefore/wherefore/instrument/QuotationReadPinLaw" (some 0) with
  accessFlags := 49
  interfaces := #[]
  cf := some (fileOf pool1 24 #[] #[{ accessFlags := 1, nameIndex := 5, descriptorIndex := 6, attributes := #[] }, { accessFlags := 10, nameIndex := 27, descriptorIndex := 28, attributes := #[] }, { accessFlags := 10, nameIndex := 32, descriptorIndex := 33, attributes := #[] }, { accessFlags := 9, nameIndex := 37, descriptorIndex := 38, attributes := #[] }] 49 2 #[] #[])
  fields := #[]
  methods := #[k1m0, k1m1, k1m2, k1m3]
  instanceTypes := #[]
  staticTypes := #[]
  resolved := Array.replicate 41 none
  statics := none }

def pool2 : Array CpInfo := pool [(1, .methodref 2 3), (0, .class_ 4), (0, .nameAndType 5 6), (0, u "java/lang/Object"), (0, u "<init>"), (0, u "()V"), (0, .fieldref 8 9), (0, .class_ 10), (0, .nameAndType 11 12), (0, u "com/example/wherefore/wherefore/instrument/Quotation"), (0, u "depth"), (0, u "I"), (0, .fieldref 8 14), (0, .nameAndType 15 16), (0, u "straight"), (0, u "Z"), (12, u "inside"), (0, u "()Z"), (6, u "read"), (0, u "(C)V")] 19

def k2c0 : Code := { maxStack := 1, maxLocals := 1, code := prog_71_method_1_code, exceptionTable := #[], attributes := #[] }
def k2m0 : Method := { name := "<init>", desc := "()V", sig := { parameters := [], returnType := none }, accessFlags := 0, code := some k2c0 }
def k2c1 : Code := { maxStack := 1, maxLocals := 1, code := prog_71_method_2_code, exceptionTable := #[], attributes := #[] }
def k2m1 : Method := { name := "inside", desc := "()Z", sig := { parameters := [], returnType := some .boolean }, accessFlags := 0, code := some k2c1 }
def k2c2 : Code := { maxStack := 3, maxLocals := 2, code := prog_71_method_3_code, exceptionTable := #[], attributes := #[] }
def k2m2 : Method := { name := "read", desc := "(C)V", sig := { parameters := [.char], returnType := none }, accessFlags := 0, code := some k2c2 }
/-- com/example/wherefore/wherefore/instrument/Quotation -/
def k2 : Class := { plain "com/example/wherefore/wherefore/instrument/Quotation" (some 0) with
  accessFlags := 48
  interfaces := #[]
  cf := some (fileOf pool2 8 #[] #[{ accessFlags := 0, nameIndex := 5, descriptorIndex := 6, attributes := #[] }, { accessFlags := 0, nameIndex := 29, descriptorIndex := 30, attributes := #[] }, { accessFlags := 0, nameIndex := 37, descriptorIndex := 38, attributes := #[] }] 48 2 #[] #[{ accessFlags := 2, nameIndex := 11, descriptorIndex := 12, attributes := #[] }, { accessFlags := 2, nameIndex := 15, descriptorIndex := 16, attributes := #[] }])
  fields := #[{ name := "depth", type := .int, accessFlags := 2, slot := 0, constantValue := 0 }, { name := "straight", type := .boolean, accessFlags := 2, slot := 1, constantValue := 0 }]
  methods := #[k2m0, k2m1, k2m2]
  instanceTypes := #[.int, .boolean]
  staticTypes := #[]
  resolved := Array.replicate 58 none
  statics := none }

def pool3 : Array CpInfo := pool [(1, .class_ 2), (0, u "java/lang/Math"), (1, .class_ 6), (1, u "java/lang/Object"), (0, u "<init>"), (0, u "()V"), (89, .class_ 100), (1, u "java/lang/Math$RandomNumberGeneratorHolder"), (71, u "negativeZeroFloatBits"), (0, u "J"), (2, u "negativeZeroDoubleBits"), (21, u "max"), (46, u "$assertionsDisabled"), (0, u "Z"), (88, u "(II)I"), (2, u "twoToTheDoubleScaleDown"), (0, u "D"), (4, u "twoToTheDoubleScaleUp"), (9, u "E"), (3, u "PI"), (2, u "TAU"), (2, u "DEGREES_TO_RADIANS"), (0, u "RADIANS_TO_DEGREES")] 94

def k3m0 : Method := { name := "<init>", desc := "()V", sig := { parameters := [], returnType := none }, accessFlags := 2, code := none }
def k3c1 : Code := { maxStack := 2, maxLocals := 2, code := jdk_29_method_65_code, exceptionTable := #[], attributes := #[] }
def k3m1 : Method := { name := "max", desc := "(II)I", sig := { parameters := [.int, .int], returnType := some .int }, accessFlags := 9, code := some k3c1 }
/-- java/lang/Math -/
def k3 : Class := { plain "java/lang/Math" (some 0) with
  accessFlags := 49
  interfaces := #[]
  cf := some (fileOf pool3 1 #[.nestMembers #[98]] #[{ accessFlags := 2, nameIndex := 7, descriptorIndex := 8, attributes := #[] }, { accessFlags := 9, nameIndex := 198, descriptorIndex := 335, attributes := #[] }] 49 4 #[] #[{ accessFlags := 25, nameIndex := 354, descriptorIndex := 339, attributes := #[] }, { accessFlags := 25, nameIndex := 358, descriptorIndex := 339, attributes := #[] }, { accessFlags := 25, nameIndex := 361, descriptorIndex := 339, attributes := #[] }, { accessFlags := 26, nameIndex := 364, descriptorIndex := 339, attributes := #[] }, { accessFlags := 26, nameIndex := 365, descriptorIndex := 339, attributes := #[] }, { accessFlags := 26, nameIndex := 172, descriptorIndex := 173, attributes := #[] }, { accessFlags := 26, nameIndex := 176, descriptorIndex := 173, attributes := #[] }, { accessFlags := 8, nameIndex := 344, descriptorIndex := 339, attributes := #[] }, { accessFlags := 8, nameIndex := 338, descriptorIndex := 339, attributes := #[] }, { accessFlags := 4120, nameIndex := 245, descriptorIndex := 246, attributes := #[] }])
  fields := #[{ name := "E", type := .double, accessFlags := 25, slot := 0, constantValue := 0 }, { name := "PI", type := .double, accessFlags := 25, slot := 1, constantValue := 0 }, { name := "TAU", type := .double, accessFlags := 25, slot := 2, constantValue := 0 }, { name := "DEGREES_TO_RADIANS", type := .double, accessFlags := 26, slot := 3, constantValue := 0 }, { name := "RADIANS_TO_DEGREES", type := .double, accessFlags := 26, slot := 4, constantValue := 0 }, { name := "negativeZeroFloatBits", type := .long, accessFlags := 26, slot := 5, constantValue := 0 }, { name := "negativeZeroDoubleBits", type := .long, accessFlags := 26, slot := 6, constantValue := 0 }, { name := "twoToTheDoubleScaleUp", type := .double, accessFlags := 8, slot := 7, constantValue := 0 }, { name := "twoToTheDoubleScaleDown", type := .double, accessFlags := 8, slot := 8, constantValue := 0 }, { name := "$assertionsDisabled", type := .boolean, accessFlags := 4120, slot := 9, constantValue := 0 }]
  methods := #[k3m0, k3m1]
  instanceTypes := #[]
  staticTypes := #[.double, .double, .double, .double, .double, .long, .long, .double, .double, .boolean]
  resolved := Array.replicate 460 none
  statics := none }

def pool4 : Array CpInfo := pool [(1, u "java/lang/Cloneable"), (0, .class_ 1), (0, u "java/lang/Object"), (0, .class_ 3)] 3

/-- java/lang/Cloneable -/
def k4 : Class := { plain "java/lang/Cloneable" (some 0) with
  accessFlags := 1537
  interfaces := #[]
  cf := some (fileOf pool4 2 #[] #[] 1537 4 #[] #[])
  fields := #[]
  methods := #[]
  instanceTypes := #[]
  staticTypes := #[]
  resolved := Array.replicate 8 none
  statics := none }

def pool5 : Array CpInfo := pool [(1, u "java/io/Serializable"), (0, .class_ 1), (0, u "java/lang/Object"), (0, .class_ 3)] 3

/-- java/io/Serializable -/
def k5 : Class := { plain "java/io/Serializable" (some 0) with
  accessFlags := 1537
  interfaces := #[]
  cf := some (fileOf pool5 2 #[] #[] 1537 4 #[] #[])
  fields := #[]
  methods := #[]
  instanceTypes := #[]
  staticTypes := #[]
  resolved := Array.replicate 8 none
  statics := none }

/-- the primitive byte -/
def k6 : Class := { plain "byte" none with kind := .primitive 'B', accessFlags := 0x411 }
/-- [B -/
def k7 : Class := { plain "[B" (some 0) with kind := .array 6 .byte, interfaces := #[4, 5], accessFlags := 1041 }

/-- the primitive int -/
def k8 : Class := { plain "int" none with kind := .primitive 'I', accessFlags := 0x411 }
/-- [I -/
def k9 : Class := { plain "[I" (some 0) with kind := .array 8 .int, interfaces := #[4, 5], accessFlags := 1041 }

def heap : Heap := #[]
def classes : Array Class := #[k0, k1, k2, k3, k4, k5, k6, k7, k8, k9]
def interned : List (Array UInt16 × Addr) := []
def slotsUsed : Nat := 0
def theMethod : MethodId := ⟨1, 3⟩
def args0 : Array Value := #[.int 5, .int 7, .int 9, .int 11, .int 4]
def aboutOver (below : List Frame) : State where
  vm := { classes := classes, interned := interned.toArray }
  heap := heap
  slotsUsed := slotsUsed
  threads := #[{ frames := .invoking theMethod args0 :: below }]
def below0 : List Frame := [.native { method := ⟨0, 0⟩, args := #[] }]
def about1 : State := aboutOver below0
def p0 : Program := .bare "" "" ""
def e0 : Env := launch0.env 0 0 0
theorem w_frames : about1.frames = Frame.invoking theMethod args0 :: below0 := rfl
set_option maxRecDepth 65536 in
theorem w_args : argsFit about1.vm theMethod args0 = true := by decide +kernel
set_option maxRecDepth 65536 in
theorem w_heap : heapFits about1 = true := by decide +kernel
set_option maxRecDepth 65536 in
theorem w_runnable : about1.curStatus? = some .runnable := by decide +kernel
set_option maxRecDepth 65536 in
theorem w_alone : about1.alone = true := by decide +kernel
set_option maxRecDepth 65536 in
theorem w_named : about1.methodNamed? x = some theMethod := by decide +kernel
set_option maxRecDepth 65536 in
theorem w_hears : about1.hears theMethod below0 = true := by decide +kernel
set_option maxRecDepth 65536 in
theorem w_ripe : about1.ripe theMethod args0 below0 = true := by decide +kernel
theorem w_running : about1.status = .running := rfl
set_option maxRecDepth 65536 in
theorem w_room : about1.hasRoom e0.platform room_1 = true :=
  launch0.hasRoom_least _ room_1 (by decide +kernel) (by decide +kernel) (by decide +kernel) (by decide +kernel) (by decide +kernel) (by decide +kernel)
theorem allAtoms_all (ts : List Jvm.Cond) (a : Array Jvm.Value) (st : Jvm.State) : (allAtoms ts).before a st = ts.all (fun c => c.before a st) := by
  induction ts with
  | nil => rfl
  | cons c t ih =>
    show (Jvm.Cond.and c (allAtoms t)).before a st = _
    rw [Jvm.Cond.before_and, ih, List.all_cons]
def words1 : List Jvm.Cond := Jvm.Cond.code x code maxLocals ret :: tables_1
/-- a 'code' word, met by the world's own term for the bytes: nothing is compared byte by byte -/
theorem code_word {y : MethodName} {bytes : ByteArray} {mx : Nat} {rt : Option FieldType} {a : Array Value} {s : State} {m : MethodId} {meth : Method} {c : Code} (h1 : s.methodNamed? y = some m) (h2 : s.vm.method? m = some meth) (h3 : meth.code = some c) (h4 : c.code = bytes)
    (h5 : (c.maxLocals == mx && c.exceptionTable.isEmpty && decide (c.maxStack ≤ mostOperands) && decide (meth.sig.returnType = rt) && !meth.locks && decide (parseMethodDescriptor y.desc = some meth.sig)) = true) : (Jvm.Cond.code y bytes mx rt).before a s = true := by
  simp only [Bool.and_eq_true, beq_iff_eq, Bool.not_eq_true', decide_eq_true_eq] at h5
  obtain ⟨⟨⟨⟨⟨g1, g2⟩, g3⟩, g4⟩, g5⟩, g6⟩ := h5
  simp [Cond.before, Cond.holds, Cond.value, h1, h2, h3, h4, g1, g2, g3, g4, g5, g6]
def isCode : Jvm.Cond → Bool
  | .code _ _ _ _ => true
  | _ => false
theorem all_split {L : List Jvm.Cond} {P : Jvm.Cond → Bool} (h1 : L.all (fun c => isCode c || P c) = true) (h2 : ∀ c ∈ L.filter isCode, P c = true) : L.all P = true := by
  refine List.all_eq_true.mpr fun c hc => ?_
  have h := List.all_eq_true.mp h1 c hc
  rcases Bool.eq_false_or_eq_true (isCode c) with hi | hi
  · exact h2 c (List.mem_filter.mpr ⟨hc, hi⟩)
  · simpa [hi] using h
set_option maxRecDepth 65536 in
theorem w_c0 : (Jvm.Cond.code x code maxLocals ret).before args0 about1 = true := code_word (m := ⟨1, 3⟩) (meth := k1m3) (c := k1c3) (by decide +kernel) rfl rfl rfl (by decide +kernel)
set_option maxRecDepth 65536 in
theorem w_c1 : (Jvm.Cond.code ({ cls := "com/example/wherefore/wherefore/instrument/QuotationReadPinLaw", name := "pick", desc := "(I)C" } : Jvm.MethodName) method_2_code (2 : Nat) (Option.some Jvm.ClassFile.FieldType.char)).before args0 about1 = true := code_word (m := ⟨1, 1⟩) (meth := k1m1) (c := k1c1) (by decide +kernel) rfl rfl rfl (by decide +kernel)
set_option maxRecDepth 65536 in
theorem w_c2 : (Jvm.Cond.code ({ cls := "com/example/wherefore/wherefore/instrument/Quotation", name := "<init>", desc := "()V" } : Jvm.MethodName) prog_71_method_1_code (1 : Nat) (Option.none : Option Jvm.ClassFile.FieldType)).before args0 about1 = true := code_word (m := ⟨2, 0⟩) (meth := k2m0) (c := k2c0) (by decide +kernel) rfl rfl rfl (by decide +kernel)
set_option maxRecDepth 65536 in
theorem w_c3 : (Jvm.Cond.code ({ cls := "java/lang/Object", name := "<init>", desc := "()V" } : Jvm.MethodName) object_method_1_code (1 : Nat) (Option.none : Option Jvm.ClassFile.FieldType)).before args0 about1 = true := code_word (m := ⟨0, 0⟩) (meth := k0m0) (c := k0c0) (by decide +kernel) rfl rfl rfl (by decide +kernel)
set_option maxRecDepth 65536 in
theorem w_c4 : (Jvm.Cond.code ({ cls := "com/example/wherefore/wherefore/instrument/QuotationReadPinLaw", name := "step", desc := "(Lcom/example/wherefore/wherefore/instrument/Quotation;[IC)Z" } : Jvm.MethodName) method_3_code (4 : Nat) (Option.some Jvm.ClassFile.FieldType.boolean)).before args0 about1 = true := code_word (m := ⟨1, 2⟩) (meth := k1m2) (c := k1c2) (by decide +kernel) rfl rfl rfl (by decide +kernel)
set_option maxRecDepth 65536 in
theorem w_c5 : (Jvm.Cond.code ({ cls := "com/example/wherefore/wherefore/instrument/Quotation", name := "read", desc := "(C)V" } : Jvm.MethodName) prog_71_method_3_code (2 : Nat) (Option.none : Option Jvm.ClassFile.FieldType)).before args0 about1 = true := code_word (m := ⟨2, 2⟩) (meth := k2m2) (c := k2c2) (by decide +kernel) rfl rfl rfl (by decide +kernel)
set_option maxRecDepth 65536 in
theorem w_c6 : (Jvm.Cond.code ({ cls := "com/example/wherefore/wherefore/instrument/Quotation", name := "inside", desc := "()Z" } : Jvm.MethodName) prog_71_method_2_code (1 : Nat) (Option.some Jvm.ClassFile.FieldType.boolean)).before args0 about1 = true := code_word (m := ⟨2, 1⟩) (meth := k2m1) (c := k2c1) (by decide +kernel) rfl rfl rfl (by decide +kernel)
set_option maxRecDepth 65536 in
theorem w_c7 : (Jvm.Cond.code ({ cls := "java/lang/Math", name := "max", desc := "(II)I" } : Jvm.MethodName) jdk_29_method_65_code (2 : Nat) (Option.some Jvm.ClassFile.FieldType.int)).before args0 about1 = true := code_word (m := ⟨3, 1⟩) (meth := k3m1) (c := k3c1) (by decide +kernel) rfl rfl rfl (by decide +kernel)
def codes1 : List Jvm.Cond := [Jvm.Cond.code x code maxLocals ret, Jvm.Cond.code ({ cls := "com/example/wherefore/wherefore/instrument/QuotationReadPinLaw", name := "pick", desc := "(I)C" } : Jvm.MethodName) method_2_code (2 : Nat) (Option.some Jvm.ClassFile.FieldType.char), Jvm.Cond.code ({ cls := "com/example/wherefore/wherefore/instrument/Quotation", name := "<init>", desc := "()V" } : Jvm.MethodName) prog_71_method_1_code (1 : Nat) (Option.none : Option Jvm.ClassFile.FieldType), Jvm.Cond.code ({ cls := "java/lang/Object", name := "<init>", desc := "()V" } : Jvm.MethodName) object_method_1_code (1 : Nat) (Option.none : Option Jvm.ClassFile.FieldType), Jvm.Cond.code ({ cls := "com/example/wherefore/wherefore/instrument/QuotationReadPinLaw", name := "step", desc := "(Lcom/example/wherefore/wherefore/instrument/Quotation;[IC)Z" } : Jvm.MethodName) method_3_code (4 : Nat) (Option.some Jvm.ClassFile.FieldType.boolean), Jvm.Cond.code ({ cls := "com/example/wherefore/wherefore/instrument/Quotation", name := "read", desc := "(C)V" } : Jvm.MethodName) prog_71_method_3_code (2 : Nat) (Option.none : Option Jvm.ClassFile.FieldType), Jvm.Cond.code ({ cls := "com/example/wherefore/wherefore/instrument/Quotation", name := "inside", desc := "()Z" } : Jvm.MethodName) prog_71_method_2_code (1 : Nat) (Option.some Jvm.ClassFile.FieldType.boolean), Jvm.Cond.code ({ cls := "java/lang/Math", name := "max", desc := "(II)I" } : Jvm.MethodName) jdk_29_method_65_code (2 : Nat) (Option.some Jvm.ClassFile.FieldType.int)]
set_option maxRecDepth 65536 in
theorem codes_eq : words1.filter isCode = codes1 := rfl
theorem w_codes : ∀ c ∈ words1.filter isCode, c.before args0 about1 = true := by
  rw [codes_eq]
  intro c hc
  simp only [codes1, List.mem_cons, List.not_mem_nil, or_false] at hc
  rcases hc with rfl | rfl | rfl | rfl | rfl | rfl | rfl | rfl
  · exact w_c0
  · exact w_c1
  · exact w_c2
  · exact w_c3
  · exact w_c4
  · exact w_c5
  · exact w_c6
  · exact w_c7
set_option maxRecDepth 65536 in
theorem w_t1 : (words1.take 24).all (fun c => isCode c || c.before args0 about1) = true := by decide +kernel
set_option maxRecDepth 65536 in
theorem w_t2 : (words1.drop 24).all (fun c => isCode c || c.before args0 about1) = true := by decide +kernel
theorem w_tables : (allAtoms (Jvm.Cond.code x code maxLocals ret :: tables_1)).before args0 about1 = true := by
  rw [allAtoms_all]
  show words1.all (fun c => c.before args0 about1) = true
  refine all_split ?_ w_codes
  rw [← List.take_append_drop 24 words1, List.all_append, w_t1, w_t2]
  rfl
set_option maxRecDepth 65536 in
theorem w_case : (Jvm.Cond.and given_1 narrow_1).before args0 about1 = true := by decide +kernel
theorem w_applies : (headSpec (Jvm.Cond.code x code maxLocals ret :: tables_1) room_1).applies x e0.platform about1 = true :=
  (Spec.applies_iff w_frames).mpr ⟨w_running, w_runnable, w_alone, w_named, w_hears, w_ripe, w_room, w_tables⟩
theorem atStart : AtStart classFile x code maxLocals ret World_1 tables_1 room_1 Calls_1 rest_1 Pre_1 launch0 p0 e0 about1 theMethod args0 below0 :=
  ⟨lists_1, trivial, launch0.admits_env _ _ _, launch0.least_env, fairChoices_fair.cas, fairChoices_fair.clock, w_frames, w_args, w_heap, w_applies, trivial, trivial, w_case⟩
end start1
theorem witness_1 : WitnessClaimed_1 := ⟨start1.p0, start1.e0, start1.about1, start1.theMethod, start1.args0, start1.below0, start1.atStart⟩
end Jvm.Pilot.@@N@@
